import JvmDerived
import JvmDerived.Pilot.@@N@@Statement
import JvmDerived.Pilot.@@N@@Code
set_option linter.unusedVariables false
set_option linter.unusedSimpArgs false
namespace Jvm.OwnW
open Sem ClassFile Op Lib Jvm.Stand Jvm.Free Jvm.LawKit Jvm.RoadKit
section A
variable {p : Program} {l : Launch} {e : Env} {R : Room} {s : State} {m : MethodId} {args : Array Value} {below : List Frame} {meth : Method} {c : Code} {T : State} {locs : List Loc} {cells slots : Nat} {Z : State} {a0 : Array Value} {h : Heap}
/-- the walk standing at T with the frame g comes to an end that says Q; F: the frame's word on that end -/
def Wp (p : Program) (e : Env) (below : List Frame) (Q : Option Value → State → List Loc → Prop) (F : Outcome → State → List Loc → Prop) (T : State) (g : JFrame) : Prop :=
  ∃ (t : State) (v : Option Value) (L : List Loc), Steps p.tables e below (T.setTop g) t ∧ t.status = .running ∧ Ended t below (.returned v) ∧ Q v t L ∧ F (.returned v) t L
variable {Q : Option Value → State → List Loc → Prop} {F : Outcome → State → List Loc → Prop}
theorem Wp.st {T' : State} {g g' : JFrame} (h : ∀ target, Steps p.tables e below (T'.setTop g') target → Steps p.tables e below (T.setTop g) target) (k : Wp p e below Q F T' g') : Wp p e below Q F T g := by
  obtain ⟨t, v, L, h1, h2⟩ := k
  exact ⟨t, v, L, h _ h1, h2⟩
theorem Wp.tr {T' : State} {g g' : JFrame} (h : Steps p.tables e below (T.setTop g) (T'.setTop g')) (k : Wp p e below Q F T' g') : Wp p e below Q F T g := Wp.st (fun _ q => h.trans q) k
abbrev NF (s : State) (C S : Nat) : Outcome → State → List Loc → Prop := fun o t L => FrameEnd s o t L C S
abbrev WF (s : State) (C S : Nat) : Outcome → State → List Loc → Prop := fun o t L => ReturnedEndW s o t L C S
/-- a body's contract: narrow -/
abbrev Ctr (l : Launch) (Z : State) (y : MethodName) (bytes : ByteArray) (maxL : Nat) (ret : Option FieldType) (ws : List Jvm.Cond) (rm : Room) (as' : Array Value) (h0 : Heap) (Q : Option Value → Heap → List Loc → Prop) : Prop :=
  MetFree l y (head1 (Jvm.Cond.code y bytes maxL ret :: ws) rm) (fun a U => a = as' ∧ Z.Warmed39 U.vm ∧ U.heap = h0) (fun _ _ _ _ _ => True) (fun _ U o U' => ∃ v L, o = .returned v ∧ Q v U'.heap L ∧ FrameEnd U o U' L rm.cells rm.slots)
theorem Ctr.intro {y : MethodName} {bytes : ByteArray} {maxL : Nat} {ret : Option FieldType} {ws : List Jvm.Cond} {rm : Room} {as' : Array Value} {h0 : Heap} {Q : Option Value → Heap → List Loc → Prop} {Ls : MethodId → Array Slot} (hn : plainFor y = true) (hef : ∀ m, entryFrame m as' maxL = mkF m 0 (Ls m) [])
    (body : ∀ (p : Program) (e : Env) (s : State) (m : MethodId) (below : List Frame) (meth : Method) (c : Code) (s₁ : State), p.tables.exec = Jvm.exec → c.code = bytes → c.maxLocals = maxL → meth.sig.returnType = ret → meth.locks = false → Z.Warmed39 s.vm → s.vm.findClass y.cls = some m.cls → meth.name = y.name → s.heap = h0 → Stand p l e rm s m as' below meth c s₁ [] 0 0 → s₁.heap = h0 →
      Wp p e below (fun v t L => Q v t.heap L) (NF s rm.cells rm.slots) s₁ (mkF m 0 (Ls m) [])) : Ctr l Z y bytes maxL ret ws rm as' h0 Q := by
  refine MetFree.of_bodySF hn hisR ?_
  intro p e s m args below meth c s₁ Bd hml0 hP hK
  obtain ⟨rfl, hZ, hh⟩ := hP
  obtain ⟨t, v, L, h1, h2, h3, h4, h5⟩ := body p e s m below meth c s₁ Bd.exec Bd.bytes hml0 Bd.returns Bd.notSynchronized hZ (findClass_of_methodNamed Bd.named) (name_of_methodNamed Bd.named Bd.method).1 hh (Stand.of_body Bd) (by rw [← hh, Bd.state]; rfl)
  exact ⟨t, _, castTop (hef m) h1, h2, h3, v, L, rfl, h4, h5⟩
/-- what pays a call -/
abbrev Pay (l : Launch) (R : Room) (p : Program) (e : Env) (below : List Frame) (s : State) (args : Array Value) (y : MethodName) (len W : Nat) (as' : Array Value) (h : Heap) (kc ks : Nat) (Q : Option Value → Heap → List Loc → Prop) : Prop :=
  Back l R p e below s args y len W (fun A a => a = as' ∧ A.U.heap = h ∧ A.cells + kc ≤ R.cells ∧ A.slots + ks ≤ R.slots) (fun A _ v B => ∃ L, Q v B.U.heap L ∧ B.locs = A.locs ++ L ∧ B.cells = A.cells + kc ∧ B.slots = A.slots + ks)
theorem more (X : Stand p l e R s m args below meth c T locs cells slots) {cells' slots' : Nat} (h1 : cells ≤ cells') (h2 : slots ≤ slots') : Stand p l e R s m args below meth c T locs cells' slots' := X.more h1 h2
theorem catR {v : Value} (h : v.isRef = true) : v.category = 1 := by cases v <;> first | rfl | (cases h; done)
/-- a char; a Latin-1 char -/
def Chr (z : Int32) : Prop := ¬ z < 0 ∧ ¬ (65535 : Int32) < z
def Lat (z : Int32) : Prop := ¬ z < 0 ∧ ¬ (255 : Int32) < z
theorem Lat.chr {z : Int32} (h : Lat z) : Chr z := ⟨h.1, fun q => h.2 (by rw [Int32.lt_iff_toInt_lt] at q ⊢; have e1 : (65535 : Int32).toInt = 65535 := rfl; have e2 : (255 : Int32).toInt = 255 := rfl; omega)⟩
theorem toInt_of_toNat {z : Int32} (h : z.toBitVec.toNat < 2147483648) : z.toInt = (z.toBitVec.toNat : Int) := by
  show z.toBitVec.toInt = _
  rw [BitVec.toInt_eq_toNat_cond, if_pos (by omega)]
theorem toNat_of_toInt {z : Int32} (h : 0 ≤ z.toInt) : z.toInt = (z.toBitVec.toNat : Int) ∧ z.toBitVec.toNat < 2147483648 := by
  have hl := z.toBitVec.isLt
  change 0 ≤ z.toBitVec.toInt at h
  show z.toBitVec.toInt = _ ∧ _
  rw [BitVec.toInt_eq_toNat_cond] at h ⊢
  split at h <;> rename_i q
  · rw [if_pos q]; exact ⟨rfl, by omega⟩
  · omega
theorem mask_rng (x m : Int32) (h : 0 ≤ m.toInt) : 0 ≤ (x &&& m).toInt ∧ (x &&& m).toInt ≤ m.toInt := by
  obtain ⟨e, hm⟩ := toNat_of_toInt h
  have q : (x &&& m).toBitVec.toNat ≤ m.toBitVec.toNat := by
    rw [Int32.toBitVec_and, BitVec.toNat_and]; exact Nat.and_le_right
  rw [toInt_of_toNat (Nat.lt_of_le_of_lt q hm), e]
  omega
theorem i2c_toInt (x : Int32) : (x.toUInt32.toUInt16.toUInt32.toInt32).toInt = ((x.toBitVec.toNat % 65536 : Nat) : Int) := by
  have e : (x.toUInt32.toUInt16.toUInt32.toInt32).toBitVec = (x.toBitVec.setWidth 16).setWidth 32 := rfl
  have e2 : (x.toUInt32.toUInt16.toUInt32.toInt32).toBitVec.toNat = x.toBitVec.toNat % 65536 := by
    rw [e, BitVec.toNat_setWidth, BitVec.toNat_setWidth]; omega
  rw [toInt_of_toNat (by rw [e2]; omega), e2]
theorem chr_i2c {v x : Int32} (h : v = x.toUInt32.toUInt16.toUInt32.toInt32) : Chr v := by subst h; exact rng_char (fits_nar_char x)
theorem Chr.rng {z : Int32} (h : Chr z) : 0 ≤ z.toInt ∧ z.toInt ≤ 65535 := by
  obtain ⟨h1, h2⟩ := h
  rw [Int32.lt_iff_toInt_lt] at h1 h2
  have e1 : (65535 : Int32).toInt = 65535 := rfl
  have e2 : (0 : Int32).toInt = 0 := rfl
  omega
theorem Lat.rng {z : Int32} (h : Lat z) : 0 ≤ z.toInt ∧ z.toInt ≤ 255 := by
  obtain ⟨h1, h2⟩ := h
  rw [Int32.lt_iff_toInt_lt] at h1 h2
  have e1 : (255 : Int32).toInt = 255 := rfl
  have e2 : (0 : Int32).toInt = 0 := rfl
  omega
theorem Lat.of {z : Int32} (h : 0 ≤ z.toInt ∧ z.toInt ≤ 255) : Lat z := by
  constructor <;> rw [Int32.lt_iff_toInt_lt]
  · have e2 : (0 : Int32).toInt = 0 := rfl
    omega
  · have e1 : (255 : Int32).toInt = 255 := rfl
    omega
theorem Chr.of {z : Int32} (h : 0 ≤ z.toInt ∧ z.toInt ≤ 65535) : Chr z := by
  constructor <;> rw [Int32.lt_iff_toInt_lt]
  · have e2 : (0 : Int32).toInt = 0 := rfl
    omega
  · have e1 : (65535 : Int32).toInt = 65535 := rfl
    omega
theorem i2c_id {z : Int32} (h : Chr z) : z.toUInt32.toUInt16.toUInt32.toInt32 = z := by
  obtain ⟨h1, h2⟩ := h.rng
  obtain ⟨e, q⟩ := toNat_of_toInt h1
  apply Int32.toInt_inj.mp
  rw [i2c_toInt, e]
  omega
theorem narC {z : Int32} (h : Chr z) : nar .char z = z := i2c_id h
theorem lat255 {v x : Int32} (h : v = (x &&& 255).toUInt32.toUInt16.toUInt32.toInt32) : Lat v := by
  have r := mask_rng x 255 (by decide)
  have e1 : (255 : Int32).toInt = 255 := rfl
  rw [i2c_id (Chr.of (by omega))] at h
  subst h
  exact Lat.of (by omega)
theorem eq255 {v x : Int32} (h : v = (x &&& 255).toUInt32.toUInt16.toUInt32.toInt32) : v = x &&& 255 := by
  have r := mask_rng x 255 (by decide)
  have e1 : (255 : Int32).toInt = 255 := rfl
  rw [i2c_id (Chr.of (by omega))] at h
  exact h
theorem latNil : ∀ c ∈ ([] : List Int32), ¬ c < 0 ∧ ¬ (255 : Int32) < c := fun _ q => nomatch q
theorem latCons {x : Int32} {L : List Int32} (h : Lat x) (k : ∀ c ∈ L, ¬ c < 0 ∧ ¬ (255 : Int32) < c) : ∀ c ∈ x :: L, ¬ c < 0 ∧ ¬ (255 : Int32) < c := fun c hc => (List.mem_cons.mp hc).elim (fun e => e ▸ h) (k c)
theorem chrAll {L : List Int32} (k : ∀ c ∈ L, ¬ c < 0 ∧ ¬ (255 : Int32) < c) : ∀ c ∈ L, ¬ c < 0 ∧ ¬ (65535 : Int32) < c := fun c hc => Lat.chr (k c hc)
theorem storeV {l l' : Array Slot} {i : Nat} {v : Value} {o : Slot} (hr : v.isRef = true) (hold : l[i]? = some o) (ho : One o) (e : l.setIfInBounds i (.val v) = l') : storeLocals l i v = some l' := e ▸ XS.store1 hold ho (catR hr)
theorem stoV {Z : State} {h : Heap} {a y : Addr} {k : ClassId} {ty : FieldType} {z : Int32} {vs : List Value} {dv : Value} {C : String} (A : Arv Z h a k ty z vs dv) (O : Ovr Z k C) (I : Ins Z h y C true) : Sto Z h a (.ref y) := by
  obtain ⟨c, Ar, q, -⟩ := A
  exact Sto.ofV Ar q O I
theorem fitR {ty : FieldType} {v : Value} (ht : ty.isReference = true) (hv : v.isRef = true) : fits ty v = true := by
  cases ty <;> first | (cases ht; done) | (cases v <;> first | rfl | (cases hv; done))
theorem narR {t : FieldType} {w : Value} (ht : t.isReference = true) : narrow t w = w := by cases t <;> first | rfl | (cases ht; done)
/-- every place written lies in an object of ws or in a new cell -/
def Fk (n : Nat) (ws : List Addr) (L : List Loc) : Prop := ∀ y ∈ L, y.base ∈ ws ∨ n ≤ y.base
theorem Fk.nil (n : Nat) (ws : List Addr) : Fk n ws [] := fun _ q => nomatch q
theorem Fk.snoc {n : Nat} {ws : List Addr} {L : List Loc} {a : Addr} {i : Nat} (N : Fk n ws L) (q : a ∈ ws ∨ n ≤ a) : Fk n ws (L ++ [⟨a, i⟩]) := fun y hy => (List.mem_append.mp hy).elim (N y) fun z => by cases List.mem_singleton.mp z; exact q
theorem Fk.app {n n' : Nat} {ws ws' : List Addr} {L L' : List Loc} (N : Fk n ws L) (N' : Fk n' ws' L') (hn : n ≤ n') (q : ∀ x ∈ ws', x ∈ ws ∨ n ≤ x) : Fk n ws (L ++ L') := fun y hy => (List.mem_append.mp hy).elim (N y) fun z => (N' y z).elim (q _) fun r => Or.inr (Nat.le_trans hn r)
theorem Fk.of_fr {n : Nat} {ws : List Addr} {L : List Loc} (N : Fr n L) : Fk n ws L := fun y hy => Or.inr (N y hy)
theorem Fk.fr {n : Nat} {L : List Loc} (N : Fk n [] L) : Fr n L := fun y hy => (N y hy).elim (fun z => nomatch z) id
theorem oldLe {Z : State} {n : Nat} {h : Heap} (O : Old Z n h) : n ≤ h.size := O.1 ▸ O.2.1
theorem NSr {Z : State} {a0 : Array Value} {O K : String} {n : Nat} (w : (Cond.noSuperclass O).before a0 Z = true) (wk : (Cond.instantiable K n).before a0 Z = true) (hn : O ≠ K) : NS Z O K := by
  obtain ⟨c, k, h1, h2, h3, -, -⟩ := Cond.noSuperclass_spec w
  obtain ⟨t, kt, g1, g2, -⟩ := Cond.instantiable_spec wk
  refine ⟨c, t, h1, g1, fun fuel => ?_⟩
  have ne := ids_ne h1 g1 hn
  cases fuel with
  | zero => rfl
  | succ f => simp [Vm.isSubclassAux, ne, h2, h3]
theorem NSno {Z : State} {a0 : Array Value} {C S K : String} {n : Nat} (w : (Cond.superclass C S).before a0 Z = true) (wk : (Cond.instantiable K n).before a0 Z = true) (N : NS Z C K) (hn : C ≠ K) : ∃ c t, Z.vm.findClass C = some c ∧ Z.vm.findClass K = some t ∧ Z.vm.assignable c t = false := by
  obtain ⟨c, t, h0, g0, n3⟩ := N
  obtain ⟨p, k, kp, h1, h2, h3, h4, h5, -, h7⟩ := Cond.superclass_spec h0 w
  obtain ⟨t', kt, g1, g2, g3, g4, -⟩ := Cond.instantiable_spec wk
  cases g0.symm.trans g1
  have ne := ids_ne h0 g0 hn
  have gi : kt.isInterface = false := by
    rw [Bool.or_eq_false_iff] at g4; exact g4.1
  refine ⟨c, t, h0, g0, ?_⟩
  show Z.vm.assignableAux (255 + 1) c t = false
  simp [Vm.assignableAux, ne, h2, g2, h5, g3, gi, Vm.isSubclass, n3]
theorem fieldI {args : Array Value} {s : State} {t : Term} {z : Int32} (h : (Cond.eq t (.int z)).value args s none s [] = some true) : t.eval args s none [] s = some (.int z) := by
  have q := Cond.eq_int (Cond.before_iff.mpr h) rfl
  exact q
theorem byteId (x : Int32) : nar .byte (x.toInt8.toInt32) = x.toInt8.toInt32 := by
  show (x.toInt8.toInt32).toInt8.toInt32 = _
  rw [Int8.toInt8_toInt32]
theorem fieldJ {args : Array Value} {s : State} {t : Term} {z : Int64} (h : (Cond.eq t (.long z)).value args s none s [] = some true) : t.eval args s none [] s = some (.long z) := by
  obtain ⟨x, y, hx, hy, hk, hv⟩ := cmp_v (Or.inl h)
  have ey : y = .long z := (Option.some.inj ((long_at z).symm.trans hy)).symm
  subst ey
  obtain ⟨w, rfl⟩ := hv
  have q := eq_L hx hy
  have r : (some (decide (w = z)) : Option Bool) = some true := q.symm.trans h
  have e : w = z := by simpa using r
  rw [hx, e]
theorem keepMore {h h' : Heap} {ws ws' : List Addr} (K : Keep h h' ws) (q : ∀ x ∈ ws, x ∈ ws') : Keep h h' ws' := ⟨K.1, fun x c hx hn => K.2.1 x c hx fun z => hn (q x z), K.2.2⟩
theorem mod3 {i : Int32} {x : Int32} (h : i = x % 3) (hx : 0 ≤ x.toInt) : i = 0 ∨ i = 1 ∨ i = 2 := by
  have r := (c_irem x 3 3 rfl).1 hx
  subst h
  have : (x % 3).toInt = 0 ∨ (x % 3).toInt = 1 ∨ (x % 3).toInt = 2 := by omega
  rcases this with q | q | q
  · exact Or.inl (Int32.toInt_inj.mp q)
  · exact Or.inr (Or.inl (Int32.toInt_inj.mp q))
  · exact Or.inr (Or.inr (Int32.toInt_inj.mp q))
end A
namespace Wk
section B
variable {p : Program} {l : Launch} {e : Env} {R : Room} {s : State} {m : MethodId} {args : Array Value} {below : List Frame} {meth : Method} {c : Code} {T : State} {locs : List Loc} {cells slots : Nat} {Z : State} {a0 : Array Value} {h : Heap} {Q : Option Value → State → List Loc → Prop} {F : Outcome → State → List Loc → Prop} {pc q : Nat} {Ls : Array Slot} {st : List Value}
theorem iload (X : Stand p l e R s m args below meth c T locs cells slots) (hx : p.tables.exec = Jvm.exec) {k : Nat} {v : Int32} (hd : decode c.code pc = .ok (.iload k, 2)) (hq : pc + 2 = q) (hl : Ls[k]? = some (.val (.int v))) (k : Wp p e below Q F T (mkF m q Ls ((.int v) :: st))) : Wp p e below Q F T (mkF m pc Ls st) := by
  subst hq
  exact Wp.st (fun _ z => XS.iload X.here hx rfl hd hl z) k
theorem iloadN (X : Stand p l e R s m args below meth c T locs cells slots) (hx : p.tables.exec = Jvm.exec) {k : Fin 4} {v : Int32} (hd : decode c.code pc = .ok (.iload_n k, 1)) (hq : pc + 1 = q) (hl : Ls[k.val]? = some (.val (.int v))) (k : Wp p e below Q F T (mkF m q Ls ((.int v) :: st))) : Wp p e below Q F T (mkF m pc Ls st) := by
  subst hq
  exact Wp.st (fun _ z => XS.iloadN X.here hx rfl hd hl z) k
theorem lload (X : Stand p l e R s m args below meth c T locs cells slots) (hx : p.tables.exec = Jvm.exec) {k : Nat} {v : Int64} (hd : decode c.code pc = .ok (.lload k, 2)) (hq : pc + 2 = q) (hl : Ls[k]? = some (.val (.long v))) (k : Wp p e below Q F T (mkF m q Ls ((.long v) :: st))) : Wp p e below Q F T (mkF m pc Ls st) := by
  subst hq
  exact Wp.st (fun _ z => XS.lload X.here hx rfl hd hl z) k
theorem lloadN (X : Stand p l e R s m args below meth c T locs cells slots) (hx : p.tables.exec = Jvm.exec) {k : Fin 4} {v : Int64} (hd : decode c.code pc = .ok (.lload_n k, 1)) (hq : pc + 1 = q) (hl : Ls[k.val]? = some (.val (.long v))) (k : Wp p e below Q F T (mkF m q Ls ((.long v) :: st))) : Wp p e below Q F T (mkF m pc Ls st) := by
  subst hq
  exact Wp.st (fun _ z => XS.lloadN X.here hx rfl hd hl z) k
theorem aload (X : Stand p l e R s m args below meth c T locs cells slots) (hx : p.tables.exec = Jvm.exec) {k : Nat} {v : Value} (hd : decode c.code pc = .ok (.aload k, 2)) (hq : pc + 2 = q) (hl : Ls[k]? = some (.val (v))) (hv : v.isRef = true) (k : Wp p e below Q F T (mkF m q Ls ((v) :: st))) : Wp p e below Q F T (mkF m pc Ls st) := by
  subst hq
  exact Wp.st (fun _ z => XS.aload X.here hx rfl hd hl hv z) k
theorem aloadN (X : Stand p l e R s m args below meth c T locs cells slots) (hx : p.tables.exec = Jvm.exec) {k : Fin 4} {v : Value} (hd : decode c.code pc = .ok (.aload_n k, 1)) (hq : pc + 1 = q) (hl : Ls[k.val]? = some (.val (v))) (hv : v.isRef = true) (k : Wp p e below Q F T (mkF m q Ls ((v) :: st))) : Wp p e below Q F T (mkF m pc Ls st) := by
  subst hq
  exact Wp.st (fun _ z => XS.aloadN X.here hx rfl hd hl hv z) k
theorem istore (X : Stand p l e R s m args below meth c T locs cells slots) (hx : p.tables.exec = Jvm.exec) {k : Nat} {v : Int32} {Ls' : Array Slot} (hd : decode c.code pc = .ok (.istore k, 2)) (hq : pc + 2 = q) (hl : storeLocals Ls k (.int v) = some Ls') (k : Wp p e below Q F T (mkF m q Ls' st)) : Wp p e below Q F T (mkF m pc Ls ((.int v) :: st)) := by
  subst hq
  exact Wp.st (fun _ z => XS.istore X.here hx rfl hd rfl hl z) k
theorem istoreN (X : Stand p l e R s m args below meth c T locs cells slots) (hx : p.tables.exec = Jvm.exec) {k : Fin 4} {v : Int32} {Ls' : Array Slot} (hd : decode c.code pc = .ok (.istore_n k, 1)) (hq : pc + 1 = q) (hl : storeLocals Ls k.val (.int v) = some Ls') (k : Wp p e below Q F T (mkF m q Ls' st)) : Wp p e below Q F T (mkF m pc Ls ((.int v) :: st)) := by
  subst hq
  exact Wp.st (fun _ z => XS.istoreN X.here hx rfl hd rfl hl z) k
theorem lstore (X : Stand p l e R s m args below meth c T locs cells slots) (hx : p.tables.exec = Jvm.exec) {k : Nat} {v : Int64} {Ls' : Array Slot} (hd : decode c.code pc = .ok (.lstore k, 2)) (hq : pc + 2 = q) (hl : storeLocals Ls k (.long v) = some Ls') (k : Wp p e below Q F T (mkF m q Ls' st)) : Wp p e below Q F T (mkF m pc Ls ((.long v) :: st)) := by
  subst hq
  exact Wp.st (fun _ z => XS.lstore X.here hx rfl hd rfl hl z) k
theorem lstoreN (X : Stand p l e R s m args below meth c T locs cells slots) (hx : p.tables.exec = Jvm.exec) {k : Fin 4} {v : Int64} {Ls' : Array Slot} (hd : decode c.code pc = .ok (.lstore_n k, 1)) (hq : pc + 1 = q) (hl : storeLocals Ls k.val (.long v) = some Ls') (k : Wp p e below Q F T (mkF m q Ls' st)) : Wp p e below Q F T (mkF m pc Ls ((.long v) :: st)) := by
  subst hq
  exact Wp.st (fun _ z => XS.lstoreN X.here hx rfl hd rfl hl z) k
theorem astore (X : Stand p l e R s m args below meth c T locs cells slots) (hx : p.tables.exec = Jvm.exec) {k : Nat} {v : Value} {Ls' : Array Slot} (hd : decode c.code pc = .ok (.astore k, 2)) (hq : pc + 2 = q) (hv : v.isRef = true) (hl : storeLocals Ls k (v) = some Ls') (k : Wp p e below Q F T (mkF m q Ls' st)) : Wp p e below Q F T (mkF m pc Ls ((v) :: st)) := by
  subst hq
  exact Wp.st (fun _ z => XS.astore X.here hx rfl hd rfl hv hl z) k
theorem astoreN (X : Stand p l e R s m args below meth c T locs cells slots) (hx : p.tables.exec = Jvm.exec) {k : Fin 4} {v : Value} {Ls' : Array Slot} (hd : decode c.code pc = .ok (.astore_n k, 1)) (hq : pc + 1 = q) (hv : v.isRef = true) (hl : storeLocals Ls k.val (v) = some Ls') (k : Wp p e below Q F T (mkF m q Ls' st)) : Wp p e below Q F T (mkF m pc Ls ((v) :: st)) := by
  subst hq
  exact Wp.st (fun _ z => XS.astoreN X.here hx rfl hd rfl hv hl z) k
theorem istoreA (X : Stand p l e R s m args below meth c T locs cells slots) (hx : p.tables.exec = Jvm.exec) {k : Nat} {v : Int32} {Ls' : Int32 → Array Slot} (hd : decode c.code pc = .ok (.istore k, 2)) (hq : pc + 2 = q) (hl : ∀ v : Int32, storeLocals Ls k (.int v) = some (Ls' v)) (k : ∀ z : Int32, z = v → Wp p e below Q F T (mkF m q (Ls' z) st)) : Wp p e below Q F T (mkF m pc Ls ((.int v) :: st)) := by
  subst hq
  exact Wp.st (fun _ z => XS.istore X.here hx rfl hd rfl (hl _) z) (k _ rfl)
theorem istoreNA (X : Stand p l e R s m args below meth c T locs cells slots) (hx : p.tables.exec = Jvm.exec) {k : Fin 4} {v : Int32} {Ls' : Int32 → Array Slot} (hd : decode c.code pc = .ok (.istore_n k, 1)) (hq : pc + 1 = q) (hl : ∀ v : Int32, storeLocals Ls k.val (.int v) = some (Ls' v)) (k : ∀ z : Int32, z = v → Wp p e below Q F T (mkF m q (Ls' z) st)) : Wp p e below Q F T (mkF m pc Ls ((.int v) :: st)) := by
  subst hq
  exact Wp.st (fun _ z => XS.istoreN X.here hx rfl hd rfl (hl _) z) (k _ rfl)
theorem lstoreA (X : Stand p l e R s m args below meth c T locs cells slots) (hx : p.tables.exec = Jvm.exec) {k : Nat} {v : Int64} {Ls' : Int64 → Array Slot} (hd : decode c.code pc = .ok (.lstore k, 2)) (hq : pc + 2 = q) (hl : ∀ v : Int64, storeLocals Ls k (.long v) = some (Ls' v)) (k : ∀ z : Int64, z = v → Wp p e below Q F T (mkF m q (Ls' z) st)) : Wp p e below Q F T (mkF m pc Ls ((.long v) :: st)) := by
  subst hq
  exact Wp.st (fun _ z => XS.lstore X.here hx rfl hd rfl (hl _) z) (k _ rfl)
theorem lstoreNA (X : Stand p l e R s m args below meth c T locs cells slots) (hx : p.tables.exec = Jvm.exec) {k : Fin 4} {v : Int64} {Ls' : Int64 → Array Slot} (hd : decode c.code pc = .ok (.lstore_n k, 1)) (hq : pc + 1 = q) (hl : ∀ v : Int64, storeLocals Ls k.val (.long v) = some (Ls' v)) (k : ∀ z : Int64, z = v → Wp p e below Q F T (mkF m q (Ls' z) st)) : Wp p e below Q F T (mkF m pc Ls ((.long v) :: st)) := by
  subst hq
  exact Wp.st (fun _ z => XS.lstoreN X.here hx rfl hd rfl (hl _) z) (k _ rfl)
theorem iconst (X : Stand p l e R s m args below meth c T locs cells slots) (hx : p.tables.exec = Jvm.exec) {i : Int} {v : Int32} (hd : decode c.code pc = .ok (.iconst i, 1)) (hq : pc + 1 = q) (hv : Int32.ofInt i = v) (k : Wp p e below Q F T (mkF m q Ls (.int v :: st))) : Wp p e below Q F T (mkF m pc Ls st) := by
  subst hq
  exact Wp.st (fun _ z => by subst hv; exact XS.iconst X.here hx rfl hd z) k
theorem bipush (X : Stand p l e R s m args below meth c T locs cells slots) (hx : p.tables.exec = Jvm.exec) {i : Int} {v : Int32} (hd : decode c.code pc = .ok (.bipush i, 2)) (hq : pc + 2 = q) (hv : (Int8.ofInt i).toInt32 = v) (k : Wp p e below Q F T (mkF m q Ls (.int v :: st))) : Wp p e below Q F T (mkF m pc Ls st) := by
  subst hq
  exact Wp.st (fun _ z => by subst hv; exact XS.bipush X.here hx rfl hd z) k
theorem sipush (X : Stand p l e R s m args below meth c T locs cells slots) (hx : p.tables.exec = Jvm.exec) {i : Int} {v : Int32} (hd : decode c.code pc = .ok (.sipush i, 3)) (hq : pc + 3 = q) (hv : (Int16.ofInt i).toInt32 = v) (k : Wp p e below Q F T (mkF m q Ls (.int v :: st))) : Wp p e below Q F T (mkF m pc Ls st) := by
  subst hq
  exact Wp.st (fun _ z => by subst hv; exact XS.sipush X.here hx rfl hd z) k
theorem aconstNull (X : Stand p l e R s m args below meth c T locs cells slots) (hx : p.tables.exec = Jvm.exec)  (hd : decode c.code pc = .ok (.aconst_null, 1)) (hq : pc + 1 = q) (k : Wp p e below Q F T (mkF m q Ls (.null :: st))) : Wp p e below Q F T (mkF m pc Ls st) := by
  subst hq
  exact Wp.st (fun _ z => XS.aconstNull X.here hx rfl hd z) k
theorem iadd (X : Stand p l e R s m args below meth c T locs cells slots) (hx : p.tables.exec = Jvm.exec) {x y : Int32} (hd : decode c.code pc = .ok (.iadd, 1)) (hq : pc + 1 = q) (k : Wp p e below Q F T (mkF m q Ls (.int (x + y) :: st))) : Wp p e below Q F T (mkF m pc Ls (.int y :: .int x :: st)) := by
  subst hq
  exact Wp.st (fun _ z => XS.iadd X.here hx rfl hd rfl z) k
theorem isub (X : Stand p l e R s m args below meth c T locs cells slots) (hx : p.tables.exec = Jvm.exec) {x y : Int32} (hd : decode c.code pc = .ok (.isub, 1)) (hq : pc + 1 = q) (k : Wp p e below Q F T (mkF m q Ls (.int (x - y) :: st))) : Wp p e below Q F T (mkF m pc Ls (.int y :: .int x :: st)) := by
  subst hq
  exact Wp.st (fun _ z => XS.isub X.here hx rfl hd rfl z) k
theorem imul (X : Stand p l e R s m args below meth c T locs cells slots) (hx : p.tables.exec = Jvm.exec) {x y : Int32} (hd : decode c.code pc = .ok (.imul, 1)) (hq : pc + 1 = q) (k : Wp p e below Q F T (mkF m q Ls (.int (x * y) :: st))) : Wp p e below Q F T (mkF m pc Ls (.int y :: .int x :: st)) := by
  subst hq
  exact Wp.st (fun _ z => XS.imul X.here hx rfl hd rfl z) k
theorem iand (X : Stand p l e R s m args below meth c T locs cells slots) (hx : p.tables.exec = Jvm.exec) {x y : Int32} (hd : decode c.code pc = .ok (.iand, 1)) (hq : pc + 1 = q) (k : Wp p e below Q F T (mkF m q Ls (.int (x &&& y) :: st))) : Wp p e below Q F T (mkF m pc Ls (.int y :: .int x :: st)) := by
  subst hq
  exact Wp.st (fun _ z => XS.iand X.here hx rfl hd rfl z) k
theorem ior (X : Stand p l e R s m args below meth c T locs cells slots) (hx : p.tables.exec = Jvm.exec) {x y : Int32} (hd : decode c.code pc = .ok (.ior, 1)) (hq : pc + 1 = q) (k : Wp p e below Q F T (mkF m q Ls (.int (x ||| y) :: st))) : Wp p e below Q F T (mkF m pc Ls (.int y :: .int x :: st)) := by
  subst hq
  exact Wp.st (fun _ z => XS.ior X.here hx rfl hd rfl z) k
theorem ixor (X : Stand p l e R s m args below meth c T locs cells slots) (hx : p.tables.exec = Jvm.exec) {x y : Int32} (hd : decode c.code pc = .ok (.ixor, 1)) (hq : pc + 1 = q) (k : Wp p e below Q F T (mkF m q Ls (.int (x ^^^ y) :: st))) : Wp p e below Q F T (mkF m pc Ls (.int y :: .int x :: st)) := by
  subst hq
  exact Wp.st (fun _ z => XS.ixor X.here hx rfl hd rfl z) k
theorem ladd (X : Stand p l e R s m args below meth c T locs cells slots) (hx : p.tables.exec = Jvm.exec) {x y : Int64} (hd : decode c.code pc = .ok (.ladd, 1)) (hq : pc + 1 = q) (k : Wp p e below Q F T (mkF m q Ls (.long (x + y) :: st))) : Wp p e below Q F T (mkF m pc Ls (.long y :: .long x :: st)) := by
  subst hq
  exact Wp.st (fun _ z => XS.ladd X.here hx rfl hd rfl z) k
theorem lsub (X : Stand p l e R s m args below meth c T locs cells slots) (hx : p.tables.exec = Jvm.exec) {x y : Int64} (hd : decode c.code pc = .ok (.lsub, 1)) (hq : pc + 1 = q) (k : Wp p e below Q F T (mkF m q Ls (.long (x - y) :: st))) : Wp p e below Q F T (mkF m pc Ls (.long y :: .long x :: st)) := by
  subst hq
  exact Wp.st (fun _ z => XS.lsub X.here hx rfl hd rfl z) k
theorem lmul (X : Stand p l e R s m args below meth c T locs cells slots) (hx : p.tables.exec = Jvm.exec) {x y : Int64} (hd : decode c.code pc = .ok (.lmul, 1)) (hq : pc + 1 = q) (k : Wp p e below Q F T (mkF m q Ls (.long (x * y) :: st))) : Wp p e below Q F T (mkF m pc Ls (.long y :: .long x :: st)) := by
  subst hq
  exact Wp.st (fun _ z => XS.lmul X.here hx rfl hd rfl z) k
theorem land (X : Stand p l e R s m args below meth c T locs cells slots) (hx : p.tables.exec = Jvm.exec) {x y : Int64} (hd : decode c.code pc = .ok (.land, 1)) (hq : pc + 1 = q) (k : Wp p e below Q F T (mkF m q Ls (.long (x &&& y) :: st))) : Wp p e below Q F T (mkF m pc Ls (.long y :: .long x :: st)) := by
  subst hq
  exact Wp.st (fun _ z => XS.land X.here hx rfl hd rfl z) k
theorem lor (X : Stand p l e R s m args below meth c T locs cells slots) (hx : p.tables.exec = Jvm.exec) {x y : Int64} (hd : decode c.code pc = .ok (.lor, 1)) (hq : pc + 1 = q) (k : Wp p e below Q F T (mkF m q Ls (.long (x ||| y) :: st))) : Wp p e below Q F T (mkF m pc Ls (.long y :: .long x :: st)) := by
  subst hq
  exact Wp.st (fun _ z => XS.lor X.here hx rfl hd rfl z) k
theorem lxor (X : Stand p l e R s m args below meth c T locs cells slots) (hx : p.tables.exec = Jvm.exec) {x y : Int64} (hd : decode c.code pc = .ok (.lxor, 1)) (hq : pc + 1 = q) (k : Wp p e below Q F T (mkF m q Ls (.long (x ^^^ y) :: st))) : Wp p e below Q F T (mkF m pc Ls (.long y :: .long x :: st)) := by
  subst hq
  exact Wp.st (fun _ z => XS.lxor X.here hx rfl hd rfl z) k
theorem ishl (X : Stand p l e R s m args below meth c T locs cells slots) (hx : p.tables.exec = Jvm.exec) {x y : Int32} (hd : decode c.code pc = .ok (.ishl, 1)) (hq : pc + 1 = q) (k : Wp p e below Q F T (mkF m q Ls (.int (x <<< (y &&& 31)) :: st))) : Wp p e below Q F T (mkF m pc Ls (.int y :: .int x :: st)) := by
  subst hq
  exact Wp.st (fun _ z => XS.ishl X.here hx rfl hd rfl z) k
theorem ishr (X : Stand p l e R s m args below meth c T locs cells slots) (hx : p.tables.exec = Jvm.exec) {x y : Int32} (hd : decode c.code pc = .ok (.ishr, 1)) (hq : pc + 1 = q) (k : Wp p e below Q F T (mkF m q Ls (.int (x >>> (y &&& 31)) :: st))) : Wp p e below Q F T (mkF m pc Ls (.int y :: .int x :: st)) := by
  subst hq
  exact Wp.st (fun _ z => XS.ishr X.here hx rfl hd rfl z) k
theorem iushr (X : Stand p l e R s m args below meth c T locs cells slots) (hx : p.tables.exec = Jvm.exec) {x y : Int32} (hd : decode c.code pc = .ok (.iushr, 1)) (hq : pc + 1 = q) (k : Wp p e below Q F T (mkF m q Ls (.int ((x.toUInt32 >>> (y &&& 31).toUInt32).toInt32) :: st))) : Wp p e below Q F T (mkF m pc Ls (.int y :: .int x :: st)) := by
  subst hq
  exact Wp.st (fun _ z => XS.iushr X.here hx rfl hd rfl z) k
theorem lshl (X : Stand p l e R s m args below meth c T locs cells slots) (hx : p.tables.exec = Jvm.exec) {x : Int64} {y : Int32} (hd : decode c.code pc = .ok (.lshl, 1)) (hq : pc + 1 = q) (k : Wp p e below Q F T (mkF m q Ls (.long (x <<< (y &&& 0x3f).toInt64) :: st))) : Wp p e below Q F T (mkF m pc Ls (.int y :: .long x :: st)) := by
  subst hq
  exact Wp.st (fun _ z => XS.lshl X.here hx rfl hd rfl z) k
theorem lshr (X : Stand p l e R s m args below meth c T locs cells slots) (hx : p.tables.exec = Jvm.exec) {x : Int64} {y : Int32} (hd : decode c.code pc = .ok (.lshr, 1)) (hq : pc + 1 = q) (k : Wp p e below Q F T (mkF m q Ls (.long (x >>> (y &&& 0x3f).toInt64) :: st))) : Wp p e below Q F T (mkF m pc Ls (.int y :: .long x :: st)) := by
  subst hq
  exact Wp.st (fun _ z => XS.lshr X.here hx rfl hd rfl z) k
theorem lushr (X : Stand p l e R s m args below meth c T locs cells slots) (hx : p.tables.exec = Jvm.exec) {x : Int64} {y : Int32} (hd : decode c.code pc = .ok (.lushr, 1)) (hq : pc + 1 = q) (k : Wp p e below Q F T (mkF m q Ls (.long ((x.toUInt64 >>> (y &&& 0x3f).toInt64.toUInt64).toInt64) :: st))) : Wp p e below Q F T (mkF m pc Ls (.int y :: .long x :: st)) := by
  subst hq
  exact Wp.st (fun _ z => XS.lushr X.here hx rfl hd rfl z) k
theorem idiv (X : Stand p l e R s m args below meth c T locs cells slots) (hx : p.tables.exec = Jvm.exec) {x y : Int32} (hd : decode c.code pc = .ok (.idiv, 1)) (hq : pc + 1 = q) (hy : y ≠ 0) (k : Wp p e below Q F T (mkF m q Ls (.int (x / y) :: st))) : Wp p e below Q F T (mkF m pc Ls (.int y :: .int x :: st)) := by
  subst hq
  exact Wp.st (fun _ z => XS.idiv X.here hx rfl hd rfl hy z) k
theorem irem (X : Stand p l e R s m args below meth c T locs cells slots) (hx : p.tables.exec = Jvm.exec) {x y : Int32} (hd : decode c.code pc = .ok (.irem, 1)) (hq : pc + 1 = q) (hy : y ≠ 0) (k : Wp p e below Q F T (mkF m q Ls (.int (x % y) :: st))) : Wp p e below Q F T (mkF m pc Ls (.int y :: .int x :: st)) := by
  subst hq
  exact Wp.st (fun _ z => iremM X hx rfl hd rfl hy z) k
theorem ldiv (X : Stand p l e R s m args below meth c T locs cells slots) (hx : p.tables.exec = Jvm.exec) {x y : Int64} (hd : decode c.code pc = .ok (.ldiv, 1)) (hq : pc + 1 = q) (hy : y ≠ 0) (k : Wp p e below Q F T (mkF m q Ls (.long (x / y) :: st))) : Wp p e below Q F T (mkF m pc Ls (.long y :: .long x :: st)) := by
  subst hq
  exact Wp.st (fun _ z => XS.ldiv X.here hx rfl hd rfl hy z) k
theorem lrem (X : Stand p l e R s m args below meth c T locs cells slots) (hx : p.tables.exec = Jvm.exec) {x y : Int64} (hd : decode c.code pc = .ok (.lrem, 1)) (hq : pc + 1 = q) (hy : y ≠ 0) (k : Wp p e below Q F T (mkF m q Ls (.long (x - (x / y) * y) :: st))) : Wp p e below Q F T (mkF m pc Ls (.long y :: .long x :: st)) := by
  subst hq
  exact Wp.st (fun _ z => XS.lrem X.here hx rfl hd rfl hy z) k
theorem ineg (X : Stand p l e R s m args below meth c T locs cells slots) (hx : p.tables.exec = Jvm.exec) {x : Int32} (hd : decode c.code pc = .ok (.ineg, 1)) (hq : pc + 1 = q) (k : Wp p e below Q F T (mkF m q Ls (.int (-x) :: st))) : Wp p e below Q F T (mkF m pc Ls (.int x :: st)) := by
  subst hq
  exact Wp.st (fun _ z => XS.ineg X.here hx rfl hd rfl z) k
theorem lneg (X : Stand p l e R s m args below meth c T locs cells slots) (hx : p.tables.exec = Jvm.exec) {x : Int64} (hd : decode c.code pc = .ok (.lneg, 1)) (hq : pc + 1 = q) (k : Wp p e below Q F T (mkF m q Ls (.long (-x) :: st))) : Wp p e below Q F T (mkF m pc Ls (.long x :: st)) := by
  subst hq
  exact Wp.st (fun _ z => XS.lneg X.here hx rfl hd rfl z) k
theorem i2l (X : Stand p l e R s m args below meth c T locs cells slots) (hx : p.tables.exec = Jvm.exec) {x : Int32} (hd : decode c.code pc = .ok (.i2l, 1)) (hq : pc + 1 = q) (k : Wp p e below Q F T (mkF m q Ls (.long x.toInt64 :: st))) : Wp p e below Q F T (mkF m pc Ls (.int x :: st)) := by
  subst hq
  exact Wp.st (fun _ z => XS.i2l X.here hx rfl hd rfl z) k
theorem l2i (X : Stand p l e R s m args below meth c T locs cells slots) (hx : p.tables.exec = Jvm.exec) {x : Int64} (hd : decode c.code pc = .ok (.l2i, 1)) (hq : pc + 1 = q) (k : Wp p e below Q F T (mkF m q Ls (.int x.toInt32 :: st))) : Wp p e below Q F T (mkF m pc Ls (.long x :: st)) := by
  subst hq
  exact Wp.st (fun _ z => XS.l2i X.here hx rfl hd rfl z) k
theorem i2b (X : Stand p l e R s m args below meth c T locs cells slots) (hx : p.tables.exec = Jvm.exec) {x : Int32} (hd : decode c.code pc = .ok (.i2b, 1)) (hq : pc + 1 = q) (k : ∀ v : Int32, v = x.toInt8.toInt32 → Wp p e below Q F T (mkF m q Ls (.int v :: st))) : Wp p e below Q F T (mkF m pc Ls (.int x :: st)) := by
  subst hq
  exact Wp.st (fun _ z => XS.i2b X.here hx rfl hd rfl z) (k _ rfl)
theorem i2c (X : Stand p l e R s m args below meth c T locs cells slots) (hx : p.tables.exec = Jvm.exec) {x : Int32} (hd : decode c.code pc = .ok (.i2c, 1)) (hq : pc + 1 = q) (k : ∀ v : Int32, v = x.toUInt32.toUInt16.toUInt32.toInt32 → Wp p e below Q F T (mkF m q Ls (.int v :: st))) : Wp p e below Q F T (mkF m pc Ls (.int x :: st)) := by
  subst hq
  exact Wp.st (fun _ z => XS.i2c X.here hx rfl hd rfl z) (k _ rfl)
theorem i2s (X : Stand p l e R s m args below meth c T locs cells slots) (hx : p.tables.exec = Jvm.exec) {x : Int32} (hd : decode c.code pc = .ok (.i2s, 1)) (hq : pc + 1 = q) (k : ∀ v : Int32, v = x.toInt16.toInt32 → Wp p e below Q F T (mkF m q Ls (.int v :: st))) : Wp p e below Q F T (mkF m pc Ls (.int x :: st)) := by
  subst hq
  exact Wp.st (fun _ z => XS.i2s X.here hx rfl hd rfl z) (k _ rfl)
theorem lconst (X : Stand p l e R s m args below meth c T locs cells slots) (hx : p.tables.exec = Jvm.exec) {k : Fin 2} {v : Int64} (hd : decode c.code pc = .ok (.lconst k, 1)) (hq : pc + 1 = q) (hv : Int64.ofNat k = v) (k : Wp p e below Q F T (mkF m q Ls (.long v :: st))) : Wp p e below Q F T (mkF m pc Ls st) := by
  subst hq
  exact Wp.st (fun _ z => by subst hv; exact XS.lconst X.here hx rfl hd z) k
theorem lcmp (X : Stand p l e R s m args below meth c T locs cells slots) (hx : p.tables.exec = Jvm.exec) {x y : Int64} (hd : decode c.code pc = .ok (.lcmp, 1)) (hq : pc + 1 = q) (k : Wp p e below Q F T (mkF m q Ls (.int (lcmpW x y) :: st))) : Wp p e below Q F T (mkF m pc Ls (.long y :: .long x :: st)) := by
  subst hq
  exact Wp.st (fun _ z => XS.lcmp X.here hx rfl hd rfl z) k
theorem dup (X : Stand p l e R s m args below meth c T locs cells slots) (hx : p.tables.exec = Jvm.exec) {x : Value} (hd : decode c.code pc = .ok (.dup, 1)) (hq : pc + 1 = q) (hc : x.category = 1) (k : Wp p e below Q F T (mkF m q Ls (x :: x :: st))) : Wp p e below Q F T (mkF m pc Ls (x :: st)) := by
  subst hq
  exact Wp.st (fun _ z => XS.dup X.here hx rfl hd rfl hc z) k
theorem pop (X : Stand p l e R s m args below meth c T locs cells slots) (hx : p.tables.exec = Jvm.exec) {x : Value} (hd : decode c.code pc = .ok (.pop, 1)) (hq : pc + 1 = q) (hc : x.category = 1) (k : Wp p e below Q F T (mkF m q Ls st)) : Wp p e below Q F T (mkF m pc Ls (x :: st)) := by
  subst hq
  exact Wp.st (fun _ z => XS.pop X.here hx rfl hd rfl hc z) k
theorem dupX1 (X : Stand p l e R s m args below meth c T locs cells slots) (hx : p.tables.exec = Jvm.exec) {x y : Value} (hd : decode c.code pc = .ok (.dup_x1, 1)) (hq : pc + 1 = q) (hc : x.category = 1) (hc' : y.category = 1) (k : Wp p e below Q F T (mkF m q Ls (x :: y :: x :: st))) : Wp p e below Q F T (mkF m pc Ls (x :: y :: st)) := by
  subst hq
  exact Wp.st (fun _ z => XS.dupX1 X.here hx rfl hd rfl hc hc' z) k
theorem dup2 (X : Stand p l e R s m args below meth c T locs cells slots) (hx : p.tables.exec = Jvm.exec) {x y : Value} (hd : decode c.code pc = .ok (.dup2, 1)) (hq : pc + 1 = q) (hc : x.category = 1) (hc' : y.category = 1) (k : Wp p e below Q F T (mkF m q Ls (x :: y :: x :: y :: st))) : Wp p e below Q F T (mkF m pc Ls (x :: y :: st)) := by
  subst hq
  exact Wp.st (fun _ z => Jvm.Free.XT.dup2 X.here hx rfl hd rfl hc hc' z) k
theorem dup2L (X : Stand p l e R s m args below meth c T locs cells slots) (hx : p.tables.exec = Jvm.exec) {x : Int64} (hd : decode c.code pc = .ok (.dup2, 1)) (hq : pc + 1 = q) (k : Wp p e below Q F T (mkF m q Ls (.long x :: .long x :: st))) : Wp p e below Q F T (mkF m pc Ls (.long x :: st)) := by
  subst hq
  exact Wp.st (fun _ z => Jvm.Free.XT.dup2L X.here hx rfl hd rfl z) k
theorem iinc (X : Stand p l e R s m args below meth c T locs cells slots) (hx : p.tables.exec = Jvm.exec) {k : Nat} {cst : Int} {v : Int32} {Ls' : Array Slot} (hd : decode c.code pc = .ok (.iinc k cst, 3)) (hq : pc + 3 = q) (hl : Ls[k]? = some (.val (.int v))) (hl' : storeLocals Ls k (.int (v + Int32.ofInt cst)) = some Ls') (k : Wp p e below Q F T (mkF m q Ls' st)) : Wp p e below Q F T (mkF m pc Ls st) := by
  subst hq
  exact Wp.st (fun _ z => XS.iinc X.here hx rfl hd hl hl' z) k
theorem goto (X : Stand p l e R s m args below meth c T locs cells slots) (hx : p.tables.exec = Jvm.exec) {o : Int}  (hd : decode c.code pc = .ok (.goto o, 3)) (ho : 0 ≤ (pc : Int) + o) (hq : ((pc : Int) + o).toNat = q) (k : Wp p e below Q F T (mkF m q Ls st)) : Wp p e below Q F T (mkF m pc Ls st) := Wp.st (fun _ z => XS.goto X.here hx rfl rfl hd ho hq z) k
theorem ifYes (X : Stand p l e R s m args below meth c T locs cells slots) (hx : p.tables.exec = Jvm.exec) {o : Int} {cd : ClassFile.Cond} {x : Int32} (hd : decode c.code pc = .ok (.ifCond cd o, 3)) (ho : 0 ≤ (pc : Int) + o) (hq : ((pc : Int) + o).toNat = q) (hc : ifCond.holds cd x = true) (k : Wp p e below Q F T (mkF m q Ls st)) : Wp p e below Q F T (mkF m pc Ls (.int x :: st)) := Wp.st (fun _ z => XS.ifYes X.here hx rfl rfl hd rfl hc ho hq z) k
theorem icmpYes (X : Stand p l e R s m args below meth c T locs cells slots) (hx : p.tables.exec = Jvm.exec) {o : Int} {cd : ClassFile.Cond} {x y : Int32} (hd : decode c.code pc = .ok (.if_icmp cd o, 3)) (ho : 0 ≤ (pc : Int) + o) (hq : ((pc : Int) + o).toNat = q) (hc : if_icmp.holds cd x y = true) (k : Wp p e below Q F T (mkF m q Ls st)) : Wp p e below Q F T (mkF m pc Ls (.int y :: .int x :: st)) := Wp.st (fun _ z => XS.icmpYes X.here hx rfl rfl hd rfl hc ho hq z) k
theorem ifnullYes (X : Stand p l e R s m args below meth c T locs cells slots) (hx : p.tables.exec = Jvm.exec) {o : Int}  (hd : decode c.code pc = .ok (.ifnull o, 3)) (ho : 0 ≤ (pc : Int) + o) (hq : ((pc : Int) + o).toNat = q) (k : Wp p e below Q F T (mkF m q Ls st)) : Wp p e below Q F T (mkF m pc Ls (.null :: st)) := Wp.st (fun _ z => XS.ifnullYes X.here hx rfl rfl hd rfl ho hq z) k
theorem ifnonnullYes (X : Stand p l e R s m args below meth c T locs cells slots) (hx : p.tables.exec = Jvm.exec) {o : Int} {b : Addr} (hd : decode c.code pc = .ok (.ifnonnull o, 3)) (ho : 0 ≤ (pc : Int) + o) (hq : ((pc : Int) + o).toNat = q) (k : Wp p e below Q F T (mkF m q Ls st)) : Wp p e below Q F T (mkF m pc Ls (.ref b :: st)) := Wp.st (fun _ z => XS.ifnonnullYes X.here hx rfl rfl hd rfl ho hq z) k
theorem ifNo (X : Stand p l e R s m args below meth c T locs cells slots) (hx : p.tables.exec = Jvm.exec) {cd : ClassFile.Cond} {o : Int} {x : Int32} (hd : decode c.code pc = .ok (.ifCond cd o, 3)) (hq : pc + 3 = q) (hc : ifCond.holds cd x = false) (k : Wp p e below Q F T (mkF m q Ls st)) : Wp p e below Q F T (mkF m pc Ls (.int x :: st)) := by
  subst hq
  exact Wp.st (fun _ z => XS.ifNo X.here hx rfl hd rfl hc z) k
theorem icmpNo (X : Stand p l e R s m args below meth c T locs cells slots) (hx : p.tables.exec = Jvm.exec) {cd : ClassFile.Cond} {o : Int} {x y : Int32} (hd : decode c.code pc = .ok (.if_icmp cd o, 3)) (hq : pc + 3 = q) (hc : if_icmp.holds cd x y = false) (k : Wp p e below Q F T (mkF m q Ls st)) : Wp p e below Q F T (mkF m pc Ls (.int y :: .int x :: st)) := by
  subst hq
  exact Wp.st (fun _ z => XS.icmpNo X.here hx rfl hd rfl hc z) k
theorem ifnullNo (X : Stand p l e R s m args below meth c T locs cells slots) (hx : p.tables.exec = Jvm.exec) {o : Int} {b : Addr} (hd : decode c.code pc = .ok (.ifnull o, 3)) (hq : pc + 3 = q) (k : Wp p e below Q F T (mkF m q Ls st)) : Wp p e below Q F T (mkF m pc Ls (.ref b :: st)) := by
  subst hq
  exact Wp.st (fun _ z => XS.ifnullNo X.here hx rfl hd rfl z) k
theorem ifnonnullNo (X : Stand p l e R s m args below meth c T locs cells slots) (hx : p.tables.exec = Jvm.exec) {o : Int} (hd : decode c.code pc = .ok (.ifnonnull o, 3)) (hq : pc + 3 = q) (k : Wp p e below Q F T (mkF m q Ls st)) : Wp p e below Q F T (mkF m pc Ls (.null :: st)) := by
  subst hq
  exact Wp.st (fun _ z => XS.ifnonnullNo X.here hx rfl hd rfl z) k
theorem acmpEq (X : Stand p l e R s m args below meth c T locs cells slots) (hx : p.tables.exec = Jvm.exec) {cd : ACond} {x y : Value} {o : Int} (hd : decode c.code pc = .ok (.if_acmp cd o, 3)) (h1 : x.isRef = true) (h2 : y.isRef = true) (he : x = y) (ho : 0 ≤ (pc : Int) + o) (hq : q = if acV cd true = true then ((pc : Int) + o).toNat else pc + 3) (k : Wp p e below Q F T (mkF m q Ls st)) : Wp p e below Q F T (mkF m pc Ls (y :: x :: st)) :=
  Wp.st (fun _ z => Jvm.RoadKit.acmp (same := true) X hx rfl h1 h2 rfl hd rfl (decide_eq_true he) ho hq z) k
theorem acmpNe (X : Stand p l e R s m args below meth c T locs cells slots) (hx : p.tables.exec = Jvm.exec) {cd : ACond} {x y : Value} {o : Int} (hd : decode c.code pc = .ok (.if_acmp cd o, 3)) (h1 : x.isRef = true) (h2 : y.isRef = true) (he : ¬ x = y) (ho : 0 ≤ (pc : Int) + o) (hq : q = if acV cd false = true then ((pc : Int) + o).toNat else pc + 3) (k : Wp p e below Q F T (mkF m q Ls st)) : Wp p e below Q F T (mkF m pc Ls (y :: x :: st)) :=
  Wp.st (fun _ z => Jvm.RoadKit.acmp (same := false) X hx rfl h1 h2 rfl hd rfl (decide_eq_false he) ho hq z) k
theorem new (X : Stand p l e R s m args below meth c T locs cells slots) (hx : p.tables.exec = Jvm.exec) (hZ : Z.Warmed39 s.vm) {own C : String} {index n : Nat} (hown : s.vm.findClass own = some m.cls) (w : (Cond.classLink own index C).before a0 Z = true) (wi : (Cond.instantiable C n).before a0 Z = true) (wz : (Cond.initialized C).before a0 Z = true) (eT : T.heap = h) (hd : decode c.code pc = .ok (.new index, 3)) (hq : pc + 3 = q) (hc : cells + 1 ≤ R.cells) (hl : slots + n ≤ R.slots)
    (k : ∀ (T' : State) (h' : Heap) (a : Addr), h.size = a → Stand p l e R s m args below meth c T' locs (cells + 1) (slots + n) → T'.heap = h' → Ext h h' → Exa Z h' a C → (∀ {O nm d : String} {ty : FieldType}, Laid Z a0 C O nm d → parseFieldDescriptor d = some ty → Fld Z h' a O nm d (defaultValue ty)) → Wp p e below Q F T' (mkF m q Ls (.ref a :: st))) : Wp p e below Q F T (mkF m pc Ls st) := by
  subst hq
  obtain ⟨T', h', X', e', E, A, D, -, st'⟩ := newO X hx hZ hown w wi wz eT (g := mkF m pc Ls st) rfl hd hc hl
  exact Wp.st st' (k T' h' _ rfl X' e' E A D)
theorem newarray (X : Stand p l e R s m args below meth c T locs cells slots) (hx : p.tables.exec = Jvm.exec) (hZ : Z.Warmed39 s.vm) {aty : ArrayType} (w : (Cond.arrayClass (newarray.typeOf aty)).before a0 Z = true) (eT : T.heap = h) {n : Int32} (hd : decode c.code pc = .ok (.newarray aty, 2)) (hq : pc + 2 = q) (hn : ¬ n < 0) (cap : Nat) (hcap : n.toNatClampNeg ≤ cap) (hb : cap * 8 ≤ 536870912) (hc : cells + 1 ≤ R.cells) (hl : slots + cap ≤ R.slots)
    (k : ∀ (T' : State) (h' : Heap) (a : Addr) (kA : ClassId), h.size = a → Stand p l e R s m args below meth c T' locs (cells + 1) (slots + cap) → T'.heap = h' → Ext h h' → Arv Z h' a kA (newarray.typeOf aty) n [] (defaultValue (newarray.typeOf aty)) → Wp p e below Q F T' (mkF m q Ls (.ref a :: st))) : Wp p e below Q F T (mkF m pc Ls (.int n :: st)) := by
  subst hq
  obtain ⟨T', h', kA, X', e', E, A, st'⟩ := newP X hx hZ w eT (g := mkF m pc Ls (.int n :: st)) rfl hd rfl hn hcap hb hc hl
  exact Wp.st st' (k T' h' _ kA rfl X' e' E (Arv.new A hn))
theorem anewarray (X : Stand p l e R s m args below meth c T locs cells slots) (hx : p.tables.exec = Jvm.exec) (hZ : Z.Warmed39 s.vm) {own C : String} {index : Nat} (hown : s.vm.findClass own = some m.cls) (w1 : (Cond.classLink own index C).before a0 Z = true) (w2 : (Cond.arrayOver (.object C)).before a0 Z = true) (eT : T.heap = h) {n : Int32} (hd : decode c.code pc = .ok (.anewarray index, 3)) (hq : pc + 3 = q) (hn : ¬ n < 0) (cap : Nat) (hcap : n.toNatClampNeg ≤ cap) (hb : cap * 8 ≤ 536870912) (hc : cells + 1 ≤ R.cells) (hl : slots + cap ≤ R.slots)
    (k : ∀ (T' : State) (h' : Heap) (a : Addr) (kA : ClassId), h.size = a → Stand p l e R s m args below meth c T' locs (cells + 1) (slots + cap) → T'.heap = h' → Ext h h' → Arv Z h' a kA (.object C) n [] .null → Ovr Z kA C → Wp p e below Q F T' (mkF m q Ls (.ref a :: st))) : Wp p e below Q F T (mkF m pc Ls (.int n :: st)) := by
  subst hq
  obtain ⟨T', h', kA, X', e', E, A, O, st'⟩ := newR X hx hZ hown w1 w2 eT (g := mkF m pc Ls (.int n :: st)) rfl hd rfl hn hcap hb hc hl
  exact Wp.st st' (k T' h' _ kA rfl X' e' E (Arv.new A hn) O)
theorem getfield (X : Stand p l e R s m args below meth c T locs cells slots) (hx : p.tables.exec = Jvm.exec) (hZ : Z.Warmed39 s.vm) {own R0 O n d host : String} {index : Nat} (hown : s.vm.findClass own = some m.cls) (w : (Cond.fieldLink own index R0 n d).before a0 Z = true ∨ (Cond.fieldLinkNest own index R0 n d host).before a0 Z = true) (via : Via Z R0 O n d) (eT : T.heap = h) {a : Addr} {v : Value} (hF : Fld Z h a O n d v) (hd : decode c.code pc = .ok (.getfield index, 3)) (hq : pc + 3 = q)
    (k : ∀ (T' : State), Stand p l e R s m args below meth c T' locs cells slots → T'.heap = h → Wp p e below Q F T' (mkF m q Ls (v :: st))) : Wp p e below Q F T (mkF m pc Ls (.ref a :: st)) := by
  subst hq
  obtain ⟨T', X', e', st'⟩ := getF X hx hZ hown w via eT hF (g := mkF m pc Ls (.ref a :: st)) rfl rfl hd
  exact Wp.st st' (k T' X' e')
theorem getstatic (X : Stand p l e R s m args below meth c T locs cells slots) (hx : p.tables.exec = Jvm.exec) (hZ : Z.Warmed39 s.vm) {own R0 O n d host : String} {index : Nat} (hown : s.vm.findClass own = some m.cls) (w : (Cond.fieldLink own index R0 n d).before a0 Z = true ∨ (Cond.fieldLinkNest own index R0 n d host).before a0 Z = true) (via : Via Z R0 O n d) (eT : T.heap = h) {v : Value} (hF : Sta Z h O n d v) (hd : decode c.code pc = .ok (.getstatic index, 3)) (hq : pc + 3 = q)
    (k : ∀ (T' : State), Stand p l e R s m args below meth c T' locs cells slots → T'.heap = h → Wp p e below Q F T' (mkF m q Ls (v :: st))) : Wp p e below Q F T (mkF m pc Ls st) := by
  subst hq
  obtain ⟨T', X', e', st'⟩ := getS2 X hx hZ hown w via eT hF (g := mkF m pc Ls st) rfl hd
  exact Wp.st st' (k T' X' e')
theorem putfield (X : Stand p l e R s m args below meth c T locs cells slots) (hx : p.tables.exec = Jvm.exec) (hZ : Z.Warmed39 s.vm) {own R0 O n d host C : String} {index kk : Nat} {ty : FieldType} (hown : s.vm.findClass own = some m.cls) (w : (Cond.fieldLink own index R0 n d).before a0 Z = true ∨ (Cond.fieldLinkNest own index R0 n d host).before a0 Z = true) (via : Via Z R0 O n d) (eT : T.heap = h) {a : Addr} {v old : Value} (hF : Fld Z h a O n d old) (hE : Exa Z h a C) (hL : (Cond.lays C O n d).before a0 Z = true ∨ ((Cond.laysFinal C O n d).before a0 Z = true ∧ own = O ∧ meth.name = "<init>")) (wi : (Cond.instantiable C kk).before a0 Z = true)
    (hty : parseFieldDescriptor d = some ty) (hn : narrow ty v = v) (hf : fits ty v = true) (hd : decode c.code pc = .ok (.putfield index, 3)) (hq : pc + 3 = q)
    (k : ∀ (T' : State) (h' : Heap) (L' : List Loc), (∀ n0 ws, Fk n0 ws locs → (a ∈ ws ∨ n0 ≤ a) → Fk n0 ws L') → Stand p l e R s m args below meth c T' L' cells slots → T'.heap = h' → Wr h h' a (Jvm.RoadKit.slotOf Z O n d) v → Fld Z h' a O n d v → Wp p e below Q F T' (mkF m q Ls st)) : Wp p e below Q F T (mkF m pc Ls (v :: .ref a :: st)) := by
  subst hq
  obtain ⟨T', h', X', e', W, st'⟩ := putF X hx hZ hown w via eT hF hE hL wi hty hn hf (g := mkF m pc Ls (v :: .ref a :: st)) rfl rfl hd
  exact Wp.st st' (k T' h' _ (fun n0 ws N g => Fk.snoc N g) X' e' W (hF.same W))
theorem putfieldN (X : Stand p l e R s m args below meth c T locs cells slots) (hx : p.tables.exec = Jvm.exec) (hZ : Z.Warmed39 s.vm) {own R0 O n d C : String} {index kk : Nat} {ty : FieldType} (hown : s.vm.findClass own = some m.cls) (w : (Cond.fieldLink own index R0 n d).before a0 Z = true) (via : Via Z R0 O n d) (eT : T.heap = h) {a : Addr} {v v' old : Value} (hF : Fld Z h a O n d old) (hE : Exa Z h a C) (hL : (Cond.lays C O n d).before a0 Z = true ∨ ((Cond.laysFinal C O n d).before a0 Z = true ∧ own = O ∧ meth.name = "<init>")) (wi : (Cond.instantiable C kk).before a0 Z = true)
    (hty : parseFieldDescriptor d = some ty) (hn : narrow ty v = v') (hf : fits ty v' = true) (hd : decode c.code pc = .ok (.putfield index, 3)) (hq : pc + 3 = q)
    (k : ∀ (T' : State) (h' : Heap) (L' : List Loc), (∀ n0 ws, Fk n0 ws locs → (a ∈ ws ∨ n0 ≤ a) → Fk n0 ws L') → Stand p l e R s m args below meth c T' L' cells slots → T'.heap = h' → Wr h h' a (Jvm.RoadKit.slotOf Z O n d) v' → Fld Z h' a O n d v' → Wp p e below Q F T' (mkF m q Ls st)) : Wp p e below Q F T (mkF m pc Ls (v :: .ref a :: st)) := by
  subst hq
  obtain ⟨T', h', X', e', W, st'⟩ := putFN X hx hZ hown w via eT hF hE hL wi hty hn hf (g := mkF m pc Ls (v :: .ref a :: st)) rfl rfl hd
  exact Wp.st st' (k T' h' _ (fun n0 ws N g => Fk.snoc N g) X' e' W (hF.same W))
theorem objinit (X : Stand p l e R s m args below meth c T locs cells slots) (hx : p.tables.exec = Jvm.exec) (hZ : Z.Warmed39 s.vm) {own : String} {idx : Nat} (hown : s.vm.findClass own = some m.cls) (w1 : (Cond.methodLink own idx Lib.objectInit).before a0 Z = true) (w2 : (Cond.instanceMethod Lib.objectInit).before a0 Z = true)
    (w3 : (Cond.code Lib.objectInit ⟨#[0xb1]⟩ 1 none).before a0 Z = true) (eT : T.heap = h) (hsize : Ls.size = c.maxLocals) {a : Addr} (hd : decode c.code pc = .ok (.invokespecial idx, 3)) (hq : pc + 3 = q) (hf : 1 ≤ R.frames) (W : Nat) (hW : (st.map fun v => v.category).sum ≤ W) (hl : W + 12 ≤ R.locals)
    (k : ∀ (T' : State), Stand p l e R s m args below meth c T' locs cells slots → T'.heap = h → Wp p e below Q F T' (mkF m q Ls st)) : Wp p e below Q F T (mkF m pc Ls (.ref a :: st)) := by
  subst hq
  obtain ⟨T', X', e', st'⟩ := initO X hx hZ hown w1 w2 w3 eT (g := mkF m pc Ls (.ref a :: st)) rfl hsize rfl hd hf (W := W) (by show 2 * 0 + _ ≤ _; omega) hl
  exact Wp.st st' (k T' X' e')
theorem castY (X : Stand p l e R s m args below meth c T locs cells slots) (hx : p.tables.exec = Jvm.exec) (hZ : Z.Warmed39 s.vm) {own K : String} {index : Nat} (hown : s.vm.findClass own = some m.cls) (w : (Cond.classLink own index K).before a0 Z = true) (eT : T.heap = h) {a : Addr} (hI : Ins Z h a K true) (hd : decode c.code pc = .ok (.checkcast index, 3)) (hq : pc + 3 = q)
    (k : ∀ (T' : State), Stand p l e R s m args below meth c T' locs cells slots → T'.heap = h → Wp p e below Q F T' (mkF m q Ls (.ref a :: st))) : Wp p e below Q F T (mkF m pc Ls (.ref a :: st)) := by
  subst hq
  obtain ⟨T', X', e', st'⟩ := Jvm.RoadKit.castY X hx hZ hown w eT hI (g := mkF m pc Ls (.ref a :: st)) rfl rfl hd
  exact Wp.st st' (k T' X' e')
theorem instY (X : Stand p l e R s m args below meth c T locs cells slots) (hx : p.tables.exec = Jvm.exec) (hZ : Z.Warmed39 s.vm) {own K : String} {index : Nat} (hown : s.vm.findClass own = some m.cls) (w : (Cond.classLink own index K).before a0 Z = true) (eT : T.heap = h) {a : Addr} (hI : Ins Z h a K true) (hd : decode c.code pc = .ok (.instanceof index, 3)) (hq : pc + 3 = q)
    (k : ∀ (T' : State), Stand p l e R s m args below meth c T' locs cells slots → T'.heap = h → Wp p e below Q F T' (mkF m q Ls (.int 1 :: st))) : Wp p e below Q F T (mkF m pc Ls (.ref a :: st)) := by
  subst hq
  obtain ⟨T', X', e', st'⟩ := Jvm.RoadKit.instY X hx hZ hown w eT hI (g := mkF m pc Ls (.ref a :: st)) rfl rfl hd
  exact Wp.st st' (k T' X' e')
theorem instNo (X : Stand p l e R s m args below meth c T locs cells slots) (hx : p.tables.exec = Jvm.exec) (hZ : Z.Warmed39 s.vm) {own K C : String} {index : Nat} (hown : s.vm.findClass own = some m.cls) (w : (Cond.classLink own index K).before a0 Z = true) (eT : T.heap = h) {a : Addr} (hE : Exa Z h a C) (hF : ∃ c t, Z.vm.findClass C = some c ∧ Z.vm.findClass K = some t ∧ Z.vm.assignable c t = false) (hd : decode c.code pc = .ok (.instanceof index, 3)) (hq : pc + 3 = q)
    (k : ∀ (T' : State), Stand p l e R s m args below meth c T' locs cells slots → T'.heap = h → Wp p e below Q F T' (mkF m q Ls (.int 0 :: st))) : Wp p e below Q F T (mkF m pc Ls (.ref a :: st)) := by
  subst hq
  obtain ⟨T', X', e', st'⟩ := Jvm.RoadKit.instNo X hx hZ hown w eT hE hF (g := mkF m pc Ls (.ref a :: st)) rfl rfl hd
  exact Wp.st st' (k T' X' e')
theorem castNull (X : Stand p l e R s m args below meth c T locs cells slots) (hx : p.tables.exec = Jvm.exec) {index : Nat} (hd : decode c.code pc = .ok (.checkcast index, 3)) (hq : pc + 3 = q) (k : Wp p e below Q F T (mkF m q Ls (.null :: st))) : Wp p e below Q F T (mkF m pc Ls (.null :: st)) := by
  subst hq
  exact Wp.st (X.checkcastNull hx (g := mkF m pc Ls (.null :: st)) rfl rfl hd) k
theorem instNull (X : Stand p l e R s m args below meth c T locs cells slots) (hx : p.tables.exec = Jvm.exec) {index : Nat} (hd : decode c.code pc = .ok (.instanceof index, 3)) (hq : pc + 3 = q) (k : Wp p e below Q F T (mkF m q Ls (.int 0 :: st))) : Wp p e below Q F T (mkF m pc Ls (.null :: st)) := by
  subst hq
  exact Wp.st (X.instanceofNull hx (g := mkF m pc Ls (.null :: st)) rfl rfl hd) k
theorem pop2L (X : Stand p l e R s m args below meth c T locs cells slots) (hx : p.tables.exec = Jvm.exec) {x : Int64} (hd : decode c.code pc = .ok (.pop2, 1)) (hq : pc + 1 = q) (k : Wp p e below Q F T (mkF m q Ls st)) : Wp p e below Q F T (mkF m pc Ls (.long x :: st)) := by
  subst hq
  refine Wp.st (fun t z => ?_) k
  jvm_step X.here [X.here.top, hx, hd, Value.category]
  exact z
theorem ldcInt (X : Stand p l e R s m args below meth c T locs cells slots) (hx : p.tables.exec = Jvm.exec) (hZ : Z.Warmed39 s.vm) {own : String} {index : Nat} {v : Int32} (hown : s.vm.findClass own = some m.cls) (w : (Cond.constant own index v).before a0 Z = true) (hd : decode c.code pc = .ok (.ldc index, 2)) (hq : pc + 2 = q) (k : Wp p e below Q F T (mkF m q Ls (.int v :: st))) : Wp p e below Q F T (mkF m pc Ls st) := by
  subst hq
  exact Wp.st (X.ldcInt hx hown (mvT hZ w) (g := mkF m pc Ls st) rfl hd) k
theorem ldc2Long (X : Stand p l e R s m args below meth c T locs cells slots) (hx : p.tables.exec = Jvm.exec) (hZ : Z.Warmed39 s.vm) {own : String} {index : Nat} {v : Int64} (hown : s.vm.findClass own = some m.cls) (w : (Cond.constantLong own index v).before a0 Z = true) (hd : decode c.code pc = .ok (.ldc2_w index, 3)) (hq : pc + 3 = q) (k : Wp p e below Q F T (mkF m q Ls (.long v :: st))) : Wp p e below Q F T (mkF m pc Ls st) := by
  subst hq
  exact Wp.st (X.ldc2Long hx hown (mvT hZ w) (g := mkF m pc Ls st) rfl hd) k
/-- getfield by an entry that the sheet says resolved -/
theorem getfieldRef (X : Stand p l e R s m args below meth c T locs cells slots) (hx : p.tables.exec = Jvm.exec) (hZ : Z.Warmed39 s.vm) {own O n d : String} {index : Nat} (hown : s.vm.findClass own = some m.cls) (w : (Cond.fieldRef own index O n d).before a0 Z = true) (eT : T.heap = h) {a : Addr} {v : Value} (hF : Fld Z h a O n d v) (hd : decode c.code pc = .ok (.getfield index, 3)) (hq : pc + 3 = q)
    (k : Wp p e below Q F T (mkF m q Ls (v :: st))) : Wp p e below Q F T (mkF m pc Ls (.ref a :: st)) := by
  subst hq
  obtain ⟨cell, cf, kc, i, f, h1, h2, h3, h4, h5, h6, h7⟩ := hF
  have hW : Z.Warmed39 T.vm := wtrans hZ X.warmed
  have w' := Cond.fieldRef_warmed39 hW w
  have hcur : (Z.setVm T.vm).vm.findClass own = some m.cls := by
    show T.vm.findClass own = _
    rw [X.warmed.alike.findClass]; exact hown
  obtain ⟨c', k', i', f', r1, r2⟩ := Cond.fieldRef_spec hcur w'
  obtain ⟨k2, r3, -⟩ := State.fieldFound?_setVm (s := Z) hW.alike h2
  cases r1.symm.trans r3
  subst eT
  refine Wp.st (fun t z => ?_) k
  jvm_step X.here [hx, hd, getfield.wp_ready (e := e) (s := T) (f := mkF m pc Ls (.ref a :: st)) X.here.top r2 h3 rfl h1 h4 h7]
  exact z
/-- arrays -/
theorem arraylength (X : Stand p l e R s m args below meth c T locs cells slots) (hx : p.tables.exec = Jvm.exec) (hZ : Z.Warmed39 s.vm) (eT : T.heap = h) {a : Addr} {kA : ClassId} {ty : FieldType} {n : Int32} {vs : List Value} {dv : Value} (hA : Arv Z h a kA ty n vs dv) (hd : decode c.code pc = .ok (.arraylength, 1)) (hq : pc + 1 = q) (k : Wp p e below Q F T (mkF m q Ls (.int n :: st))) : Wp p e below Q F T (mkF m pc Ls (.ref a :: st)) := by
  subst hq
  obtain ⟨cl, Ar, -, S, M, -, -⟩ := hA
  refine Wp.st (X.arraylength hx (by rw [eT]; exact Ar.1) (State.isArrayOf_alike hZ.alike Ar.2.1) (g := mkF m pc Ls (.ref a :: st)) rfl rfl hd) ?_
  rw [len_of S M]; exact k
theorem setCore {Z : State} {h h' : Heap} {a : Addr} {cl : Cell} {kA : ClassId} {ty : FieldType} {n j : Int32} {vs : List Value} {dv v : Value} (Ar : Arr Z h a cl ty) (q1 : cl.cls = kA) (S : cl.slots.size = n.toNatClampNeg) (M : ¬ n < 0) (H : Has cl vs dv) (G : ∀ i, i < cl.slots.size → fits ty (vs.getD i dv) = true) (hv : fits ty v = true) (W : Wr h h' a j.toNatClampNeg v) (hj : j.toNatClampNeg < vs.length) : Arv Z h' a kA ty n (vs.set j.toNatClampNeg v) dv :=
  Arv.set Ar q1 S M H G hv W _ rfl hj
theorem caload (X : Stand p l e R s m args below meth c T locs cells slots) (hx : p.tables.exec = Jvm.exec) (hZ : Z.Warmed39 s.vm) (eT : T.heap = h) {a : Addr} {kA : ClassId} {n j : Int32} {vs : List Value} {dv : Value} {v : Int32} (hA : Arv Z h a kA .char n vs dv) (hj0 : ¬ j < 0) (hjn : j < n) (hv : vs.getD j.toNatClampNeg dv = .int v) (hd : decode c.code pc = .ok (.caload, 1)) (hq : pc + 1 = q) (k : Wp p e below Q F T (mkF m q Ls ((.int v) :: st))) : Wp p e below Q F T (mkF m pc Ls (.int j :: .ref a :: st)) := by
  subst hq
  obtain ⟨cl, Ar, -, S, M, H, -⟩ := hA
  have hin := inb_of S ⟨hj0, hjn⟩
  exact Wp.st (X.caload hx (j := j) (v := .int v) (by rw [eT]; exact Ar.1) (State.isArrayOf_alike hZ.alike Ar.2.1) Ar.2.2 hin (H.at hin hv) (g := mkF m pc Ls (.int j :: .ref a :: st)) rfl rfl hd) k
theorem iaload (X : Stand p l e R s m args below meth c T locs cells slots) (hx : p.tables.exec = Jvm.exec) (hZ : Z.Warmed39 s.vm) (eT : T.heap = h) {a : Addr} {kA : ClassId} {n j : Int32} {vs : List Value} {dv : Value} {v : Int32} (hA : Arv Z h a kA .int n vs dv) (hj0 : ¬ j < 0) (hjn : j < n) (hv : vs.getD j.toNatClampNeg dv = .int v) (hd : decode c.code pc = .ok (.iaload, 1)) (hq : pc + 1 = q) (k : Wp p e below Q F T (mkF m q Ls ((.int v) :: st))) : Wp p e below Q F T (mkF m pc Ls (.int j :: .ref a :: st)) := by
  subst hq
  obtain ⟨cl, Ar, -, S, M, H, -⟩ := hA
  have hin := inb_of S ⟨hj0, hjn⟩
  exact Wp.st (X.iaload hx (j := j) (v := .int v) (by rw [eT]; exact Ar.1) (State.isArrayOf_alike hZ.alike Ar.2.1) Ar.2.2 hin (H.at hin hv) (g := mkF m pc Ls (.int j :: .ref a :: st)) rfl rfl hd) k
theorem saload (X : Stand p l e R s m args below meth c T locs cells slots) (hx : p.tables.exec = Jvm.exec) (hZ : Z.Warmed39 s.vm) (eT : T.heap = h) {a : Addr} {kA : ClassId} {n j : Int32} {vs : List Value} {dv : Value} {v : Int32} (hA : Arv Z h a kA .short n vs dv) (hj0 : ¬ j < 0) (hjn : j < n) (hv : vs.getD j.toNatClampNeg dv = .int v) (hd : decode c.code pc = .ok (.saload, 1)) (hq : pc + 1 = q) (k : Wp p e below Q F T (mkF m q Ls ((.int v) :: st))) : Wp p e below Q F T (mkF m pc Ls (.int j :: .ref a :: st)) := by
  subst hq
  obtain ⟨cl, Ar, -, S, M, H, -⟩ := hA
  have hin := inb_of S ⟨hj0, hjn⟩
  exact Wp.st (X.saload hx (j := j) (v := .int v) (by rw [eT]; exact Ar.1) (State.isArrayOf_alike hZ.alike Ar.2.1) Ar.2.2 hin (H.at hin hv) (g := mkF m pc Ls (.int j :: .ref a :: st)) rfl rfl hd) k
theorem laload (X : Stand p l e R s m args below meth c T locs cells slots) (hx : p.tables.exec = Jvm.exec) (hZ : Z.Warmed39 s.vm) (eT : T.heap = h) {a : Addr} {kA : ClassId} {n j : Int32} {vs : List Value} {dv : Value} {v : Int64} (hA : Arv Z h a kA .long n vs dv) (hj0 : ¬ j < 0) (hjn : j < n) (hv : vs.getD j.toNatClampNeg dv = .long v) (hd : decode c.code pc = .ok (.laload, 1)) (hq : pc + 1 = q) (k : Wp p e below Q F T (mkF m q Ls ((.long v) :: st))) : Wp p e below Q F T (mkF m pc Ls (.int j :: .ref a :: st)) := by
  subst hq
  obtain ⟨cl, Ar, -, S, M, H, -⟩ := hA
  have hin := inb_of S ⟨hj0, hjn⟩
  exact Wp.st (X.laload hx (j := j) (v := .long v) (by rw [eT]; exact Ar.1) (State.isArrayOf_alike hZ.alike Ar.2.1) Ar.2.2 hin (H.at hin hv) (g := mkF m pc Ls (.int j :: .ref a :: st)) rfl rfl hd) k
theorem baload (X : Stand p l e R s m args below meth c T locs cells slots) (hx : p.tables.exec = Jvm.exec) (hZ : Z.Warmed39 s.vm) (eT : T.heap = h) {a : Addr} {kA : ClassId} {n j : Int32} {vs : List Value} {dv : Value} {v : Int32} (hA : Arv Z h a kA .byte n vs dv) (hj0 : ¬ j < 0) (hjn : j < n) (hv : vs.getD j.toNatClampNeg dv = .int v) (hd : decode c.code pc = .ok (.baload, 1)) (hq : pc + 1 = q) (k : Wp p e below Q F T (mkF m q Ls ((.int v) :: st))) : Wp p e below Q F T (mkF m pc Ls (.int j :: .ref a :: st)) := by
  subst hq
  obtain ⟨cl, Ar, -, S, M, H, -⟩ := hA
  have hin := inb_of S ⟨hj0, hjn⟩
  exact Wp.st (X.baloadBytes hx (j := j) (v := .int v) (by rw [eT]; exact Ar.1) (State.isArrayOf_alike hZ.alike Ar.2.1) Ar.2.2 hin (H.at hin hv) (g := mkF m pc Ls (.int j :: .ref a :: st)) rfl rfl hd) k
theorem aaload (X : Stand p l e R s m args below meth c T locs cells slots) (hx : p.tables.exec = Jvm.exec) (hZ : Z.Warmed39 s.vm) (eT : T.heap = h) {a : Addr} {kA : ClassId} {n j : Int32} {vs : List Value} {dv : Value} {v : Value} {C : FieldType} (hA : Arv Z h a kA C n vs dv) (hj0 : ¬ j < 0) (hjn : j < n) (hv : vs.getD j.toNatClampNeg dv = v) (hC : C.isReference = true) (hd : decode c.code pc = .ok (.aaload, 1)) (hq : pc + 1 = q) (k : Wp p e below Q F T (mkF m q Ls ((v) :: st))) : Wp p e below Q F T (mkF m pc Ls (.int j :: .ref a :: st)) := by
  subst hq
  obtain ⟨cl, Ar, -, S, M, H, -⟩ := hA
  have hin := inb_of S ⟨hj0, hjn⟩
  exact Wp.st (X.aaload hx (j := j) (v := v) (by rw [eT]; exact Ar.1) (State.isArrayOf_alike hZ.alike Ar.2.1) hC Ar.2.2 hin (H.at hin hv) (g := mkF m pc Ls (.int j :: .ref a :: st)) rfl rfl hd) k
theorem castore (X : Stand p l e R s m args below meth c T locs cells slots) (hx : p.tables.exec = Jvm.exec) (hZ : Z.Warmed39 s.vm) (eT : T.heap = h) {a : Addr} {kA : ClassId} {n j : Int32} {vs : List Value} {dv : Value} {v : Int32} (hA : Arv Z h a kA .char n vs dv) (hj0 : ¬ j < 0) (hjn : j < n) (i : Nat) (hi : j.toNatClampNeg = i) (hlen : i < vs.length) {w : Int32} (hw : (nar .char v) = w) (hd : decode c.code pc = .ok (.castore, 1)) (hq : pc + 1 = q)
    (k : ∀ (T' : State) (h' : Heap) (L' : List Loc), (∀ n0 ws, Fk n0 ws locs → (a ∈ ws ∨ n0 ≤ a) → Fk n0 ws L') → Stand p l e R s m args below meth c T' L' cells slots → T'.heap = h' → Wr h h' a i (.int w) → Arv Z h' a kA .char n (vs.set i (.int w)) dv → Wp p e below Q F T' (mkF m q Ls st)) : Wp p e below Q F T (mkF m pc Ls ((.int v) :: .int j :: .ref a :: st)) := by
  subst hq hi hw
  obtain ⟨cl, Ar, q1, S, M, H, G⟩ := hA
  obtain ⟨T', h', X', e', W, st'⟩ := stC X hx hZ eT Ar (j := j) (inb_of S ⟨hj0, hjn⟩) (g := mkF m pc Ls ((.int v) :: .int j :: .ref a :: st)) rfl rfl hd
  exact Wp.st st' (k T' h' _ (fun n0 ws N g => Fk.snoc N g) X' e' W (setCore Ar q1 S M H G (fits_nar_char _) W hlen))
theorem iastore (X : Stand p l e R s m args below meth c T locs cells slots) (hx : p.tables.exec = Jvm.exec) (hZ : Z.Warmed39 s.vm) (eT : T.heap = h) {a : Addr} {kA : ClassId} {n j : Int32} {vs : List Value} {dv : Value} {v : Int32} (hA : Arv Z h a kA .int n vs dv) (hj0 : ¬ j < 0) (hjn : j < n) (i : Nat) (hi : j.toNatClampNeg = i) (hlen : i < vs.length) {w : Int32} (hw : (v) = w) (hd : decode c.code pc = .ok (.iastore, 1)) (hq : pc + 1 = q)
    (k : ∀ (T' : State) (h' : Heap) (L' : List Loc), (∀ n0 ws, Fk n0 ws locs → (a ∈ ws ∨ n0 ≤ a) → Fk n0 ws L') → Stand p l e R s m args below meth c T' L' cells slots → T'.heap = h' → Wr h h' a i (.int w) → Arv Z h' a kA .int n (vs.set i (.int w)) dv → Wp p e below Q F T' (mkF m q Ls st)) : Wp p e below Q F T (mkF m pc Ls ((.int v) :: .int j :: .ref a :: st)) := by
  subst hq hi hw
  obtain ⟨cl, Ar, q1, S, M, H, G⟩ := hA
  obtain ⟨T', h', X', e', W, st'⟩ := stI X hx hZ eT Ar (j := j) (inb_of S ⟨hj0, hjn⟩) (g := mkF m pc Ls ((.int v) :: .int j :: .ref a :: st)) rfl rfl hd
  exact Wp.st st' (k T' h' _ (fun n0 ws N g => Fk.snoc N g) X' e' W (setCore Ar q1 S M H G rfl W hlen))
theorem bastore (X : Stand p l e R s m args below meth c T locs cells slots) (hx : p.tables.exec = Jvm.exec) (hZ : Z.Warmed39 s.vm) (eT : T.heap = h) {a : Addr} {kA : ClassId} {n j : Int32} {vs : List Value} {dv : Value} {v : Int32} (hA : Arv Z h a kA .byte n vs dv) (hj0 : ¬ j < 0) (hjn : j < n) (i : Nat) (hi : j.toNatClampNeg = i) (hlen : i < vs.length) {w : Int32} (hw : (nar .byte v) = w) (hd : decode c.code pc = .ok (.bastore, 1)) (hq : pc + 1 = q)
    (k : ∀ (T' : State) (h' : Heap) (L' : List Loc), (∀ n0 ws, Fk n0 ws locs → (a ∈ ws ∨ n0 ≤ a) → Fk n0 ws L') → Stand p l e R s m args below meth c T' L' cells slots → T'.heap = h' → Wr h h' a i (.int w) → Arv Z h' a kA .byte n (vs.set i (.int w)) dv → Wp p e below Q F T' (mkF m q Ls st)) : Wp p e below Q F T (mkF m pc Ls ((.int v) :: .int j :: .ref a :: st)) := by
  subst hq hi hw
  obtain ⟨cl, Ar, q1, S, M, H, G⟩ := hA
  obtain ⟨T', h', X', e', W, st'⟩ := stB X hx hZ eT Ar (j := j) (inb_of S ⟨hj0, hjn⟩) (g := mkF m pc Ls ((.int v) :: .int j :: .ref a :: st)) rfl rfl hd
  exact Wp.st st' (k T' h' _ (fun n0 ws N g => Fk.snoc N g) X' e' W (setCore Ar q1 S M H G (fits_nar_byte _) W hlen))
theorem lastore (X : Stand p l e R s m args below meth c T locs cells slots) (hx : p.tables.exec = Jvm.exec) (hZ : Z.Warmed39 s.vm) (eT : T.heap = h) {a : Addr} {kA : ClassId} {n j : Int32} {vs : List Value} {dv : Value} {v : Int64} (hA : Arv Z h a kA .long n vs dv) (hj0 : ¬ j < 0) (hjn : j < n) (i : Nat) (hi : j.toNatClampNeg = i) (hlen : i < vs.length) {w : Int64} (hw : (v) = w) (hd : decode c.code pc = .ok (.lastore, 1)) (hq : pc + 1 = q)
    (k : ∀ (T' : State) (h' : Heap) (L' : List Loc), (∀ n0 ws, Fk n0 ws locs → (a ∈ ws ∨ n0 ≤ a) → Fk n0 ws L') → Stand p l e R s m args below meth c T' L' cells slots → T'.heap = h' → Wr h h' a i (.long w) → Arv Z h' a kA .long n (vs.set i (.long w)) dv → Wp p e below Q F T' (mkF m q Ls st)) : Wp p e below Q F T (mkF m pc Ls ((.long v) :: .int j :: .ref a :: st)) := by
  subst hq hi hw
  obtain ⟨cl, Ar, q1, S, M, H, G⟩ := hA
  obtain ⟨T', h', X', e', W, st'⟩ := stJ X hx hZ eT Ar (j := j) (inb_of S ⟨hj0, hjn⟩) (g := mkF m pc Ls ((.long v) :: .int j :: .ref a :: st)) rfl rfl hd
  exact Wp.st st' (k T' h' _ (fun n0 ws N g => Fk.snoc N g) X' e' W (setCore Ar q1 S M H G rfl W hlen))
theorem aastore (X : Stand p l e R s m args below meth c T locs cells slots) (hx : p.tables.exec = Jvm.exec) (hZ : Z.Warmed39 s.vm) (eT : T.heap = h) {a : Addr} {kA : ClassId} {n j : Int32} {vs : List Value} {dv : Value} {v : Value} {ty : FieldType} (hA : Arv Z h a kA ty n vs dv) (hty : ty.isReference = true) (hf : fits ty v = true) (hS : Sto Z h a v) (hj0 : ¬ j < 0) (hjn : j < n) (i : Nat) (hi : j.toNatClampNeg = i) (hlen : i < vs.length) (hd : decode c.code pc = .ok (.aastore, 1)) (hq : pc + 1 = q)
    (k : ∀ (T' : State) (h' : Heap) (L' : List Loc), (∀ n0 ws, Fk n0 ws locs → (a ∈ ws ∨ n0 ≤ a) → Fk n0 ws L') → Stand p l e R s m args below meth c T' L' cells slots → T'.heap = h' → Wr h h' a i v → Arv Z h' a kA ty n (vs.set i v) dv → Wp p e below Q F T' (mkF m q Ls st)) : Wp p e below Q F T (mkF m pc Ls (v :: .int j :: .ref a :: st)) := by
  subst hq hi
  obtain ⟨cl, Ar, q1, S, M, H, G⟩ := hA
  obtain ⟨T', h', X', e', W, st'⟩ := stR X hx hZ eT Ar (j := j) (inb_of S ⟨hj0, hjn⟩) hty hS (g := mkF m pc Ls (v :: .int j :: .ref a :: st)) rfl rfl hd
  exact Wp.st st' (k T' h' _ (fun n0 ws N g => Fk.snoc N g) X' e' W (setCore Ar q1 S M H G hf W hlen))
/-- calls: what comes back, in the continuation -/
abbrev Go (p : Program) (l : Launch) (e : Env) (R : Room) (s : State) (m : MethodId) (args : Array Value) (below : List Frame) (meth : Method) (c : Code) (locs : List Loc) (cells slots : Nat) (Q : Option Value → State → List Loc → Prop) (F : Outcome → State → List Loc → Prop) (q : Nat) (Ls : Array Slot) (rest : List Value) (kc ks : Nat) (Qc : Option Value → Heap → List Loc → Prop) : Prop :=
  ∀ (T' : State) (h' : Heap) (v : Option Value) (L : List Loc), Stand p l e R s m args below meth c T' (locs ++ L) (cells + kc) (slots + ks) → T'.heap = h' → Qc v h' L → Wp p e below Q F T' (mkF m q Ls (v.toList ++ rest))
theorem callS (X : Stand p l e R s m args below meth c T locs cells slots) (hx : p.tables.exec = Jvm.exec) (hZ : Z.Warmed39 s.vm) {own : String} {index : Nat} {y : MethodName} {bytes : ByteArray} {maxL : Nat} {ret : Option FieldType} (hown : s.vm.findClass own = some m.cls) (w1 : (Cond.methodLink own index y).before a0 Z = true) (w2 : (Cond.static y).before a0 Z = true) (w3 : (Cond.initialized y.cls).before a0 Z = true) (w4 : (Cond.code y bytes maxL ret).before a0 Z = true)
    (hy : y.cls ≠ "java/lang/invoke/MethodHandle" ∧ y.cls ≠ "java/lang/invoke/VarHandle") {W : Nat} {as' : List Value} {kc ks : Nat} {Qc : Option Value → Heap → List Loc → Prop} (hK : Pay l R p e below s args y 3 W as'.toArray h kc ks Qc) (eT : T.heap = h) (hsize : Ls.size = c.maxLocals) {rest : List Value} (hlen : ∀ sig, parseMethodDescriptor y.desc = some sig → as'.length = sig.parameters.length)
    (hstack : st = as'.reverse ++ rest) (hW : (rest.map fun v => v.category).sum ≤ W) (hd : decode c.code pc = .ok (.invokestatic index, 3)) (hq : pc + 3 = q) (hc : cells + kc ≤ R.cells) (hs : slots + ks ≤ R.slots)
    (k : Go p l e R s m args below meth c locs cells slots Q F q Ls rest kc ks Qc) : Wp p e below Q F T (mkF m pc Ls st) := by
  subst hq
  obtain ⟨v, vm₁, ⟨T', L', k', n'⟩, -, X', ⟨L, hQ, r1, r2, r3⟩, st'⟩ := Jvm.LawKit.callS X hx (y := y) hown (mvT hZ w1) (mvT hZ w2) (mvT hZ w3) (mvT hZ w4) hy hK (g := mkF m pc Ls st) rfl hsize hlen hstack (by show 2 * 0 + _ ≤ _; omega) hd (fun _ _ => ⟨rfl, eT, hc, hs⟩)
  dsimp only [Pt.U, Pt.locs, Pt.cells, Pt.slots] at X' r1 r2 r3 st' hQ
  subst r1 r2 r3
  exact Wp.st st' (k T' _ v L X' rfl hQ)
theorem callI (X : Stand p l e R s m args below meth c T locs cells slots) (hx : p.tables.exec = Jvm.exec) (hZ : Z.Warmed39 s.vm) {own : String} {index : Nat} {y : MethodName} {bytes : ByteArray} {maxL : Nat} (hy1 : y.name = "<init>") (hown : s.vm.findClass own = some m.cls) (w1 : (Cond.methodLink own index y).before a0 Z = true) (w2 : (Cond.instanceMethod y).before a0 Z = true) (w4 : (Cond.code y bytes maxL none).before a0 Z = true)
    (hy : y.cls ≠ "java/lang/invoke/MethodHandle" ∧ y.cls ≠ "java/lang/invoke/VarHandle") {W : Nat} {a : Addr} {as' : List Value} {kc ks : Nat} {Qc : Option Value → Heap → List Loc → Prop} (hK : Pay l R p e below s args y 3 W (.ref a :: as').toArray h kc ks Qc) (eT : T.heap = h) (hsize : Ls.size = c.maxLocals) {rest : List Value} (hlen : ∀ sig, parseMethodDescriptor y.desc = some sig → as'.length = sig.parameters.length)
    (hstack : st = as'.reverse ++ .ref a :: rest) (hW : (rest.map fun v => v.category).sum ≤ W) (hd : decode c.code pc = .ok (.invokespecial index, 3)) (hq : pc + 3 = q) (hc : cells + kc ≤ R.cells) (hs : slots + ks ≤ R.slots)
    (k : Go p l e R s m args below meth c locs cells slots Q F q Ls rest kc ks Qc) : Wp p e below Q F T (mkF m pc Ls st) := by
  subst hq
  obtain ⟨v, vm₁, ⟨T', L', k', n'⟩, -, X', ⟨L, hQ, r1, r2, r3⟩, st'⟩ := X.specialBack hx (y := y) hy1 hown (mvT hZ w1) (mvT hZ w2) (mvT hZ w4) hy hK (g := mkF m pc Ls st) rfl hsize (Steps.refl _) hlen hstack (by show 2 * 0 + _ ≤ _; omega) hd (fun _ _ => ⟨rfl, eT, hc, hs⟩)
  dsimp only [Pt.U, Pt.locs, Pt.cells, Pt.slots] at X' r1 r2 r3 st' hQ
  subst r1 r2 r3
  exact Wp.tr st' (k T' _ v L X' rfl hQ)
theorem callV (X : Stand p l e R s m args below meth c T locs cells slots) (hx : p.tables.exec = Jvm.exec) (hZ : Z.Warmed39 s.vm) {own C : String} {index : Nat} {y z : MethodName} (hown : s.vm.findClass own = some m.cls) (w1 : (Cond.methodLink own index y).before a0 Z = true) (w2 : (Cond.declares y).before a0 Z = true) (hnf : NotFace s y) (w3 : (Cond.selects C y z).before a0 Z = true) (w4 : (Cond.instanceMethod z).before a0 Z = true)
    (hy : y.cls ≠ "java/lang/invoke/MethodHandle" ∧ y.cls ≠ "java/lang/invoke/VarHandle") {W : Nat} {a : Addr} {as' : List Value} {kc ks : Nat} {Qc : Option Value → Heap → List Loc → Prop} (hK : Pay l R p e below s args z 3 W (.ref a :: as').toArray h kc ks Qc) (eT : T.heap = h) (hE : Exa Z h a C) (hsize : Ls.size = c.maxLocals) {rest : List Value} (hlen : ∀ sig, parseMethodDescriptor y.desc = some sig → as'.length = sig.parameters.length)
    (hstack : st = as'.reverse ++ .ref a :: rest) (hW : (rest.map fun v => v.category).sum ≤ W) (hd : decode c.code pc = .ok (.invokevirtual index, 3)) (hq : pc + 3 = q) (hc : cells + kc ≤ R.cells) (hs : slots + ks ≤ R.slots)
    (k : Go p l e R s m args below meth c locs cells slots Q F q Ls rest kc ks Qc) : Wp p e below Q F T (mkF m pc Ls st) := by
  subst hq
  obtain ⟨cq, kq, qa, qb, qc⟩ := isOf hZ eT hE
  obtain ⟨v, vm₁, ⟨T', L', k', n'⟩, -, X', ⟨L, hQ, r1, r2, r3⟩, st'⟩ := X.virtualBack hx (y := y) (z := z) hown (mvT hZ w1) (mvT hZ w2) hnf (mvT hZ w3) (mvT hZ w4) hy hK qa qc (g := mkF m pc Ls st) rfl hsize (Steps.refl _) hlen hstack (by show 2 * 0 + _ ≤ _; omega) hd (fun _ _ => ⟨rfl, eT, hc, hs⟩)
  dsimp only [Pt.U, Pt.locs, Pt.cells, Pt.slots] at X' r1 r2 r3 st' hQ
  subst r1 r2 r3
  exact Wp.tr st' (k T' _ v L X' rfl hQ)
theorem callP (X : Stand p l e R s m args below meth c T locs cells slots) (hx : p.tables.exec = Jvm.exec) (hZ : Z.Warmed39 s.vm) {own C : String} {index : Nat} {y : MethodName} {bytes : ByteArray} {maxL : Nat} {ret : Option FieldType} (hown : s.vm.findClass own = some m.cls) (w1 : (Cond.methodLink own index y).before a0 Z = true) (w2 : (Cond.instanceMethod y).before a0 Z = true) (w3 : (Cond.selects y.cls y y).before a0 Z = true) (w5 : (Cond.privateMethod y).before a0 Z = true) (w4 : (Cond.code y bytes maxL ret).before a0 Z = true)
    (hy : y.cls ≠ "java/lang/invoke/MethodHandle" ∧ y.cls ≠ "java/lang/invoke/VarHandle") {W : Nat} {a : Addr} {as' : List Value} {kc ks : Nat} {Qc : Option Value → Heap → List Loc → Prop} (hK : Pay l R p e below s args y 3 W (.ref a :: as').toArray h kc ks Qc) (eT : T.heap = h) (hE : Exa Z h a C) (hsize : Ls.size = c.maxLocals) {rest : List Value} (hlen : ∀ sig, parseMethodDescriptor y.desc = some sig → as'.length = sig.parameters.length)
    (hstack : st = as'.reverse ++ .ref a :: rest) (hW : (rest.map fun v => v.category).sum ≤ W) (hd : decode c.code pc = .ok (.invokevirtual index, 3)) (hq : pc + 3 = q) (hc : cells + kc ≤ R.cells) (hs : slots + ks ≤ R.slots)
    (k : Go p l e R s m args below meth c locs cells slots Q F q Ls rest kc ks Qc) : Wp p e below Q F T (mkF m pc Ls st) := by
  subst hq
  obtain ⟨cq, q1, q2⟩ := hE.cell
  obtain ⟨v, vm₁, ⟨T', L', k', n'⟩, -, X', ⟨L, hQ, r1, r2, r3⟩, st'⟩ := X.privateBack hx (y := y) hown (mvT hZ w1) (mvT hZ w2) (mvT hZ w3) (Cond.privateMethod_at (mvP hZ w5 (args := #[]))) (mvT hZ w4) hy hK (g := mkF m pc Ls st) rfl hsize (Steps.refl _) (a := a) (by rw [eT]; exact q1) q2 hlen hstack (by show 2 * 0 + _ ≤ _; omega) hd (fun _ _ => ⟨rfl, eT, hc, hs⟩)
  dsimp only [Pt.U, Pt.locs, Pt.cells, Pt.slots] at X' r1 r2 r3 st' hQ
  subst r1 r2 r3
  exact Wp.tr st' (k T' _ v L X' rfl hQ)
theorem callF (X : Stand p l e R s m args below meth c T locs cells slots) (hx : p.tables.exec = Jvm.exec) (hZ : Z.Warmed39 s.vm) {own C : String} {index count : Nat} {y z : MethodName} (hown : s.vm.findClass own = some m.cls) (w1 : (Cond.methodLink own index y).before a0 Z = true) (w2 : (Cond.declares y).before a0 Z = true) (wf : (Cond.interfaceMethod y.cls y.cls y.name y.desc).before args s = true) (w3 : (Cond.selects C y z).before a0 Z = true) (w4 : (Cond.instanceMethod z).before a0 Z = true) (w5 : (Cond.publicMethod z).before a0 Z = true) (w6 : (Cond.unhidden C y.name y.desc).before a0 Z = true) (w7 : (Cond.castable C y.cls).before a0 Z = true)
    (hy : y.cls ≠ "java/lang/invoke/MethodHandle" ∧ y.cls ≠ "java/lang/invoke/VarHandle") {W : Nat} {a : Addr} {as' : List Value} {kc ks : Nat} {Qc : Option Value → Heap → List Loc → Prop} (hK : Pay l R p e below s args z 5 W (.ref a :: as').toArray h kc ks Qc) (eT : T.heap = h) (hE : Exa Z h a C) (hsize : Ls.size = c.maxLocals) {rest : List Value} (hlen : ∀ sig, parseMethodDescriptor y.desc = some sig → as'.length = sig.parameters.length)
    (hstack : st = as'.reverse ++ .ref a :: rest) (hW : (rest.map fun v => v.category).sum ≤ W) (hd : decode c.code pc = .ok (.invokeinterface index count, 5)) (hq : pc + 5 = q) (hc : cells + kc ≤ R.cells) (hs : slots + ks ≤ R.slots)
    (k : Go p l e R s m args below meth c locs cells slots Q F q Ls rest kc ks Qc) : Wp p e below Q F T (mkF m pc Ls st) := by
  subst hq
  obtain ⟨cq, kq, qa, qb, qc⟩ := isOf hZ eT hE
  obtain ⟨v, vm₁, ⟨T', L', k', n'⟩, -, X', ⟨L, hQ, r1, r2, r3⟩, st'⟩ := X.interfaceBack hx (xi := y) (y := z) hown (mvT hZ w1) (mvT hZ w2) wf (mvT hZ w3) (mvT hZ w4) (mvT hZ w5) (mvT hZ w6) (mvT hZ w7) hy hK qa qb qc (g := mkF m pc Ls st) rfl hsize (Steps.refl _) hlen hstack (by show 2 * 0 + _ ≤ _; omega) hd (fun _ _ => ⟨rfl, eT, hc, hs⟩)
  dsimp only [Pt.U, Pt.locs, Pt.cells, Pt.slots] at X' r1 r2 r3 st' hQ
  subst r1 r2 r3
  exact Wp.tr st' (k T' _ v L X' rfl hQ)

/-- ends, narrow: the body's own frame at the leave -/
theorem retI' (X : Stand p l e R s m args below meth c T locs cells slots) (hx : p.tables.exec = Jvm.exec) (hlk : meth.locks = false) (hr : meth.sig.returnType = some .int) {z : Int32} (hd : decode c.code pc = .ok (.ireturn, 1)) {C S : Nat} (hC : cells ≤ C) (hS : slots ≤ S) {Qc : Option Value → Heap → List Loc → Prop} (eT : T.heap = h) (k : Qc (some (.int z)) h locs) : Wp p e below (fun v t L => Qc v t.heap L) (NF s C S) T (mkF m pc Ls (.int z :: st)) := by
  obtain ⟨fs, h1, h2, h3, hW, hs⟩ := X.leave (v := some (.int z)) (fun h => by rw [hr] at h; cases h)
  refine ⟨_, _, _, ?_, h2, h3, (by subst eT; exact k), ⟨_, rfl⟩, hW, hs.mono hC hS⟩
  exact retOut X hx hr rfl (Or.inl ⟨rfl, Or.inl rfl, _, rfl⟩) hd h1
theorem retZ' (X : Stand p l e R s m args below meth c T locs cells slots) (hx : p.tables.exec = Jvm.exec) (hlk : meth.locks = false) {t : FieldType} (hr : meth.sig.returnType = some t) (ht : t = .boolean ∨ t = .byte ∨ t = .char ∨ t = .short) {z : Int32} (hd : decode c.code pc = .ok (.ireturn, 1)) {C S : Nat} (hC : cells ≤ C) (hS : slots ≤ S) {Qc : Option Value → Heap → List Loc → Prop} (eT : T.heap = h) (k : Qc (some (.int (nar t z))) h locs) : Wp p e below (fun v t L => Qc v t.heap L) (NF s C S) T (mkF m pc Ls (.int z :: st)) := by
  obtain ⟨fs, h1, h2, h3, hW, hs⟩ := X.leave (v := some (.int (nar t z))) (fun h => by rw [hr] at h; cases h)
  refine ⟨_, _, _, ?_, h2, h3, (by subst eT; exact k), ⟨_, rfl⟩, hW, hs.mono hC hS⟩
  exact retN X hx (t := t) hr ht hd h1
theorem retJ' (X : Stand p l e R s m args below meth c T locs cells slots) (hx : p.tables.exec = Jvm.exec) (hlk : meth.locks = false) (hr : meth.sig.returnType = some .long) {z : Int64} (hd : decode c.code pc = .ok (.lreturn, 1)) {C S : Nat} (hC : cells ≤ C) (hS : slots ≤ S) {Qc : Option Value → Heap → List Loc → Prop} (eT : T.heap = h) (k : Qc (some (.long z)) h locs) : Wp p e below (fun v t L => Qc v t.heap L) (NF s C S) T (mkF m pc Ls (.long z :: st)) := by
  obtain ⟨fs, h1, h2, h3, hW, hs⟩ := X.leave (v := some (.long z)) (fun h => by rw [hr] at h; cases h)
  refine ⟨_, _, _, ?_, h2, h3, (by subst eT; exact k), ⟨_, rfl⟩, hW, hs.mono hC hS⟩
  exact retOut X hx hr rfl (Or.inr (Or.inl ⟨rfl, rfl, _, rfl⟩)) hd h1
theorem retA' (X : Stand p l e R s m args below meth c T locs cells slots) (hx : p.tables.exec = Jvm.exec) (hlk : meth.locks = false) {t : FieldType} (hr : meth.sig.returnType = some t) (ht : t.isReference = true) {w : Value} (hw : w.isRef = true) (hd : decode c.code pc = .ok (.areturn, 1)) {C S : Nat} (hC : cells ≤ C) (hS : slots ≤ S) {Qc : Option Value → Heap → List Loc → Prop} (eT : T.heap = h) (k : Qc (some w) h locs) : Wp p e below (fun v t L => Qc v t.heap L) (NF s C S) T (mkF m pc Ls (w :: st)) := by
  obtain ⟨fs, h1, h2, h3, hW, hs⟩ := X.leave (v := some w) (fun h => by rw [hr] at h; cases h)
  refine ⟨_, _, _, ?_, h2, h3, (by subst eT; exact k), ⟨_, rfl⟩, hW, hs.mono hC hS⟩
  exact retOut X hx hr (narR ht) (Or.inr (Or.inr (Or.inr (Or.inr ⟨rfl, ht, hw⟩)))) hd h1
theorem ret0' (X : Stand p l e R s m args below meth c T locs cells slots) (hx : p.tables.exec = Jvm.exec) (hlk : meth.locks = false) (hr : meth.sig.returnType = none) (hd : decode c.code pc = .ok (.return_, 1)) {C S : Nat} (hC : cells ≤ C) (hS : slots ≤ S) {Qc : Option Value → Heap → List Loc → Prop} (eT : T.heap = h) (k : Qc none h locs) : Wp p e below (fun v t L => Qc v t.heap L) (NF s C S) T (mkF m pc Ls []) := by
  obtain ⟨fs, h1, h2, h3, hW, hs⟩ := X.leave (v := none) (fun _ => rfl)
  refine ⟨_, _, _, ?_, h2, h3, (by subst eT; exact k), ⟨_, rfl⟩, hW, hs.mono hC hS⟩
  exact X.returnOut hx hr hd h1
end B
end Wk
end Jvm.OwnW
namespace Jvm.OwnW
open Sem ClassFile Op Lib Jvm.Stand Jvm.Free Jvm.LawKit Jvm.RoadKit
section C
variable {p : Program} {l : Launch} {e : Env} {R : Room} {s : State} {m : MethodId} {args : Array Value} {below : List Frame} {meth : Method} {c : Code} {T : State} {locs : List Loc} {cells slots : Nat} {Z : State} {a0 : Array Value} {h : Heap} {vm0 : Vm}
/-- the constant's entry is booked in the tables vm -/
def LitV (Z : State) (vm : Vm) (own : String) (i : Nat) (a : Addr) : Prop := Lit (Z.setVm vm) own i a
theorem LitV.warm {vm1 : Vm} {own : String} {i : Nat} {a : Addr} (L : LitV Z vm0 own i a) (hW : (s.setVm vm0).Warmed39 vm1) : LitV Z vm1 own i a := by
  have L' : Lit (s.setVm vm0) own i a := L
  have q := Lit.stays L' hW
  exact q
theorem ibWarm {vm1 : Vm} {Ts : List String} (I : IB Z vm0 Ts) (hW : (s.setVm vm0).WarmedH vm1) : IB Z vm1 Ts := by
  obtain ⟨more, e, q⟩ := I
  exact ⟨more, hW.interned_eq.trans e, q⟩
theorem ibMono {Ts Ts' : List String} (I : IB Z vm0 Ts) (q : ∀ t ∈ Ts, t ∈ Ts') : IB Z vm0 Ts' := by
  obtain ⟨more, e, r⟩ := I
  exact ⟨more, e, fun x hx => by obtain ⟨t, h1, h2⟩ := r x hx; exact ⟨t, q t h1, h2⟩⟩
theorem sinceMono {vm1 : Vm} {n n' : Nat} (h : s.Since vm1 n) (q : n ≤ n') : s.Since vm1 n' := ⟨h.1, fun j p a b => ⟨(h.2 j p a b).1, Nat.lt_of_lt_of_le (h.2 j p a b).2 q⟩⟩
/-- a body's contract: wide (it may load String constants) -/
abbrev CtrW (l : Launch) (Z : State) (y : MethodName) (bytes : ByteArray) (maxL : Nat) (ret : Option FieldType) (ws : List Jvm.Cond) (rm : Room) (as' : Array Value) (h0 : Heap) (P : Vm → Prop) (Q : Option Value → Vm → Heap → List Loc → Prop) : Prop :=
  MetFree l y (head1 (Jvm.Cond.code y bytes maxL ret :: ws) rm) (fun a U => a = as' ∧ Z.Warmed39 U.vm ∧ U.heap = h0 ∧ P U.vm) (fun _ _ _ _ _ => True) (fun _ U o U' => ∃ v L, o = .returned v ∧ Q v U'.vm U'.heap L ∧ ReturnedEndW U o U' L rm.cells rm.slots)
theorem CtrW.intro {y : MethodName} {bytes : ByteArray} {maxL : Nat} {ret : Option FieldType} {ws : List Jvm.Cond} {rm : Room} {as' : Array Value} {h0 : Heap} {P : Vm → Prop} {Q : Option Value → Vm → Heap → List Loc → Prop} {Ls : MethodId → Array Slot} (hn : plainFor y = true) (hef : ∀ m, entryFrame m as' maxL = mkF m 0 (Ls m) [])
    (body : ∀ (p : Program) (e : Env) (s : State) (m : MethodId) (below : List Frame) (meth : Method) (c : Code) (s₁ : State) (vm : Vm), p.tables.exec = Jvm.exec → c.code = bytes → c.maxLocals = maxL → meth.sig.returnType = ret → meth.locks = false → Z.Warmed39 vm → vm.findClass y.cls = some m.cls → meth.name = y.name → s.heap = h0 → Stand p l e rm (s.setVm vm) m as' below meth c s₁ [] 0 0 → s₁.heap = h0 → s.Since vm h0.size → P vm →
      Wp p e below (fun v t L => Q v t.vm t.heap L) (WF s rm.cells rm.slots) s₁ (mkF m 0 (Ls m) [])) : CtrW l Z y bytes maxL ret ws rm as' h0 P Q := by
  refine MetFree.of_bodySF hn hisR ?_
  intro p e s m args below meth c s₁ Bd hml0 hP hK
  obtain ⟨rfl, hZ, hh, hPv⟩ := hP
  obtain ⟨t, v, L, h1, h2, h3, h4, h5⟩ := body p e s m below meth c s₁ s.vm Bd.exec Bd.bytes hml0 Bd.returns Bd.notSynchronized hZ (findClass_of_methodNamed Bd.named) (name_of_methodNamed Bd.named Bd.method).1 hh (Stand.of_body Bd) (by rw [← hh, Bd.state]; rfl) ((State.WarmedH.refl s).since _) hPv
  exact ⟨t, _, castTop (hef m) h1, h2, h3, v, L, rfl, h4, h5⟩
abbrev PayW (l : Launch) (R : Room) (p : Program) (e : Env) (below : List Frame) (s : State) (args : Array Value) (y : MethodName) (len W : Nat) (as' : Array Value) (h : Heap) (kc ks : Nat) (Q : Option Value → Vm → Heap → List Loc → Prop) : Prop :=
  BackS l R p e below s args y len W (fun A a => a = as' ∧ A.U.heap = h ∧ A.cells + kc ≤ R.cells ∧ A.slots + ks ≤ R.slots) (fun A _ v B => ∃ L, Q v B.U.vm B.U.heap L ∧ B.locs = A.locs ++ L ∧ B.cells = A.cells + kc ∧ B.slots = A.slots + ks)
theorem payW {y : MethodName} {bytes : ByteArray} {maxL : Nat} {ret : Option FieldType} {rm : Room} {len W : Nat} {as' : Array Value} {P : Vm → Prop} {Q : Option Value → Vm → Heap → List Loc → Prop}
    (hM : CtrW l Z y bytes maxL ret [] rm as' h P Q) (hZ : Z.Warmed39 s.vm) (wc : (Cond.code y bytes maxL ret).before a0 Z = true) (wz : (Cond.initialized y.cls).before a0 Z = true) (hf : rm.frames + 1 ≤ R.frames) (hl : W + (maxL + 11) + rm.locals ≤ R.locals) (hP : ∀ vm, s.WarmedH vm → P vm) :
    PayW l R p e below s args y len W as' h rm.cells rm.slots Q :=
  BackS.of_freeW (bytes := bytes) (maxL := maxL) (ret := ret) (E := fun _ _ o t L k n => k = rm.cells ∧ n = rm.slots ∧ ∃ v, o = .returned v ∧ Q v t.vm t.heap L) hM hf hl
    (fun m meth c A a Y hp => have hU : Z.Warmed39 A.U.vm := wtrans hZ Y.warmed
      ⟨by show (Cond.and _ .tt).before a A.U = true; rw [Cond.before_and, mv hU wc]; rfl, mv hU wc, mv hU wz, hp.2.2.1, hp.2.2.2⟩)
    (fun m meth c A a g mk Y hp => ⟨hp.1, wtrans hZ Y.warmed, hp.2.1, hP _ Y.warmed⟩) (fun _ _ _ _ _ _ _ _ _ => trivial)
    (fun _ _ _ _ ⟨v, L, h1, h2, h3⟩ => ⟨L, _, _, h3, rfl, rfl, v, h1, h2⟩)
    (fun m meth c A a g mk v t L k n Y hp _ _ ⟨e1, e2, v', e3, e4⟩ => by cases e3; subst e1 e2; exact ⟨L, e4, rfl, rfl, rfl⟩)
end C
namespace Wk
section D
variable {p : Program} {l : Launch} {e : Env} {R : Room} {s : State} {m : MethodId} {args : Array Value} {below : List Frame} {meth : Method} {c : Code} {T : State} {locs : List Loc} {cells slots : Nat} {Z : State} {a0 : Array Value} {h : Heap} {Q : Option Value → State → List Loc → Prop} {F : Outcome → State → List Loc → Prop} {pc q : Nat} {Ls : Array Slot} {st : List Value} {vm0 : Vm}
/-- behind a call that may have interned -/
abbrev GoW (p : Program) (l : Launch) (e : Env) (R : Room) (s : State) (m : MethodId) (args : Array Value) (below : List Frame) (meth : Method) (c : Code) (locs : List Loc) (cells slots : Nat) (Q : Option Value → State → List Loc → Prop) (F : Outcome → State → List Loc → Prop) (q : Nat) (Ls : Array Slot) (rest : List Value) (Z : State) (vm0 : Vm) (own : String) (kc ks : Nat) (Qc : Option Value → Vm → Heap → List Loc → Prop) : Prop :=
  ∀ (T' : State) (h' : Heap) (v : Option Value) (L : List Loc) (vm1 : Vm), Stand p l e R (s.setVm vm1) m args below meth c T' (locs ++ L) (cells + kc) (slots + ks) → T'.heap = h' → s.Since vm1 h'.size → Z.Warmed39 vm1 → vm1.findClass own = some m.cls → (s.setVm vm0).Warmed39 vm1 → Qc v vm1 h' L → Wp p e below Q F T' (mkF m q Ls (v.toList ++ rest))
theorem callSW (X : Stand p l e R (s.setVm vm0) m args below meth c T locs cells slots) (hx : p.tables.exec = Jvm.exec) {k0 : Nat} (hS : s.Since vm0 k0) (hk : k0 ≤ h.size) (hZ : Z.Warmed39 vm0) {own : String} {index : Nat} {y : MethodName} {bytes : ByteArray} {maxL : Nat} {ret : Option FieldType} (hown : vm0.findClass own = some m.cls) (w1 : (Cond.methodLink own index y).before a0 Z = true) (w2 : (Cond.static y).before a0 Z = true) (w3 : (Cond.initialized y.cls).before a0 Z = true) (w4 : (Cond.code y bytes maxL ret).before a0 Z = true)
    (hy : y.cls ≠ "java/lang/invoke/MethodHandle" ∧ y.cls ≠ "java/lang/invoke/VarHandle") {W : Nat} {as' : List Value} {kc ks : Nat} {Qc : Option Value → Vm → Heap → List Loc → Prop} (hK : PayW l R p e below (s.setVm vm0) args y 3 W as'.toArray h kc ks Qc) (eT : T.heap = h) (hsize : Ls.size = c.maxLocals) {rest : List Value} (hlen : ∀ sig, parseMethodDescriptor y.desc = some sig → as'.length = sig.parameters.length)
    (hstack : st = as'.reverse ++ rest) (hW : (rest.map fun v => v.category).sum ≤ W) (hd : decode c.code pc = .ok (.invokestatic index, 3)) (hq : pc + 3 = q) (hc : cells + kc ≤ R.cells) (hs : slots + ks ≤ R.slots)
    (k : GoW p l e R s m args below meth c locs cells slots Q F q Ls rest Z vm0 own kc ks Qc) : Wp p e below Q F T (mkF m pc Ls st) := by
  subst hq
  have hZ' : Z.Warmed39 (s.setVm vm0).vm := hZ
  have hown' : (s.setVm vm0).vm.findClass own = some m.cls := hown
  obtain ⟨v, vm₁, ⟨T', L', k', n'⟩, -, X', h2, g2, ⟨L, hQ, r1, r2, r3⟩, st'⟩ := callSS X hx (y := y) hown' (mvT hZ' w1) (mvT hZ' w2) (mvT hZ' w3) (mvT hZ' w4) hy hK (g := mkF m pc Ls st) rfl hsize hlen hstack (by show 2 * 0 + _ ≤ _; omega) hd (fun _ _ => ⟨rfl, eT, hc, hs⟩)
  dsimp only [Pt.U, Pt.locs, Pt.cells, Pt.slots] at X' r1 r2 r3 st' hQ h2 g2
  subst r1 r2 r3
  obtain ⟨X2, hS2, hZ2, ho2⟩ := rebS hS (by rw [eT]; exact hk : k0 ≤ T.heap.size) X' h2 g2 hZ' hown'
  exact Wp.tr st' (k T' _ v L T'.vm X2 rfl hS2 hZ2 ho2 h2.1 hQ)
theorem callIW (X : Stand p l e R (s.setVm vm0) m args below meth c T locs cells slots) (hx : p.tables.exec = Jvm.exec) {k0 : Nat} (hS : s.Since vm0 k0) (hk : k0 ≤ h.size) (hZ : Z.Warmed39 vm0) {own : String} {index : Nat} {y : MethodName} {bytes : ByteArray} {maxL : Nat} (hy1 : y.name = "<init>") (hown : vm0.findClass own = some m.cls) (w1 : (Cond.methodLink own index y).before a0 Z = true) (w2 : (Cond.instanceMethod y).before a0 Z = true) (w4 : (Cond.code y bytes maxL none).before a0 Z = true)
    (hy : y.cls ≠ "java/lang/invoke/MethodHandle" ∧ y.cls ≠ "java/lang/invoke/VarHandle") {W : Nat} {a : Addr} {as' : List Value} {kc ks : Nat} {Qc : Option Value → Vm → Heap → List Loc → Prop} (hK : PayW l R p e below (s.setVm vm0) args y 3 W (.ref a :: as').toArray h kc ks Qc) (eT : T.heap = h) (hsize : Ls.size = c.maxLocals) {rest : List Value} (hlen : ∀ sig, parseMethodDescriptor y.desc = some sig → as'.length = sig.parameters.length)
    (hstack : st = as'.reverse ++ .ref a :: rest) (hW : (rest.map fun v => v.category).sum ≤ W) (hd : decode c.code pc = .ok (.invokespecial index, 3)) (hq : pc + 3 = q) (hc : cells + kc ≤ R.cells) (hs : slots + ks ≤ R.slots)
    (k : GoW p l e R s m args below meth c locs cells slots Q F q Ls rest Z vm0 own kc ks Qc) : Wp p e below Q F T (mkF m pc Ls st) := by
  subst hq
  have hZ' : Z.Warmed39 (s.setVm vm0).vm := hZ
  have hown' : (s.setVm vm0).vm.findClass own = some m.cls := hown
  obtain ⟨v, vm₁, ⟨T', L', k', n'⟩, -, X', h2, g2, ⟨L, hQ, r1, r2, r3⟩, st'⟩ := X.specialBackS hx (y := y) hy1 hown' (mvT hZ' w1) (mvT hZ' w2) (mvT hZ' w4) hy hK (g := mkF m pc Ls st) rfl hsize (Steps.refl _) hlen hstack (by show 2 * 0 + _ ≤ _; omega) hd (fun _ _ => ⟨rfl, eT, hc, hs⟩)
  dsimp only [Pt.U, Pt.locs, Pt.cells, Pt.slots] at X' r1 r2 r3 st' hQ h2 g2
  subst r1 r2 r3
  obtain ⟨X2, hS2, hZ2, ho2⟩ := rebS hS (by rw [eT]; exact hk : k0 ≤ T.heap.size) X' h2 g2 hZ' hown'
  exact Wp.tr st' (k T' _ v L T'.vm X2 rfl hS2 hZ2 ho2 h2.1 hQ)
theorem callVW (X : Stand p l e R (s.setVm vm0) m args below meth c T locs cells slots) (hx : p.tables.exec = Jvm.exec) {k0 : Nat} (hS : s.Since vm0 k0) (hk : k0 ≤ h.size) (hZ : Z.Warmed39 vm0) {own C : String} {index : Nat} {y z : MethodName} (hown : vm0.findClass own = some m.cls) (w1 : (Cond.methodLink own index y).before a0 Z = true) (w2 : (Cond.declares y).before a0 Z = true) (hnf : NotFace (s.setVm vm0) y) (w3 : (Cond.selects C y z).before a0 Z = true) (w4 : (Cond.instanceMethod z).before a0 Z = true)
    (hy : y.cls ≠ "java/lang/invoke/MethodHandle" ∧ y.cls ≠ "java/lang/invoke/VarHandle") {W : Nat} {a : Addr} {as' : List Value} {kc ks : Nat} {Qc : Option Value → Vm → Heap → List Loc → Prop} (hK : PayW l R p e below (s.setVm vm0) args z 3 W (.ref a :: as').toArray h kc ks Qc) (eT : T.heap = h) (hE : Exa Z h a C) (hsize : Ls.size = c.maxLocals) {rest : List Value} (hlen : ∀ sig, parseMethodDescriptor y.desc = some sig → as'.length = sig.parameters.length)
    (hstack : st = as'.reverse ++ .ref a :: rest) (hW : (rest.map fun v => v.category).sum ≤ W) (hd : decode c.code pc = .ok (.invokevirtual index, 3)) (hq : pc + 3 = q) (hc : cells + kc ≤ R.cells) (hs : slots + ks ≤ R.slots)
    (k : GoW p l e R s m args below meth c locs cells slots Q F q Ls rest Z vm0 own kc ks Qc) : Wp p e below Q F T (mkF m pc Ls st) := by
  subst hq
  have hZ' : Z.Warmed39 (s.setVm vm0).vm := hZ
  have hown' : (s.setVm vm0).vm.findClass own = some m.cls := hown
  obtain ⟨cq, kq, qa, qb, qc⟩ := isOf hZ' eT hE
  obtain ⟨v, vm₁, ⟨T', L', k', n'⟩, -, X', h2, g2, ⟨L, hQ, r1, r2, r3⟩, st'⟩ := X.virtualBackS hx (y := y) (z := z) hown' (mvT hZ' w1) (mvT hZ' w2) hnf (mvT hZ' w3) (mvT hZ' w4) hy hK qa qc (g := mkF m pc Ls st) rfl hsize (Steps.refl _) hlen hstack (by show 2 * 0 + _ ≤ _; omega) hd (fun _ _ => ⟨rfl, eT, hc, hs⟩)
  dsimp only [Pt.U, Pt.locs, Pt.cells, Pt.slots] at X' r1 r2 r3 st' hQ h2 g2
  subst r1 r2 r3
  obtain ⟨X2, hS2, hZ2, ho2⟩ := rebS hS (by rw [eT]; exact hk : k0 ≤ T.heap.size) X' h2 g2 hZ' hown'
  exact Wp.tr st' (k T' _ v L T'.vm X2 rfl hS2 hZ2 ho2 h2.1 hQ)
/-- a String constant, its text not yet loaded since the case's start -/
theorem ldcNew (X : Stand p l e R (s.setVm vm0) m args below meth c T locs cells slots) (hx : p.tables.exec = Jvm.exec) (hZ : Z.Warmed39 vm0) {own text : String} {index : Nat} (hown : vm0.findClass own = some m.cls) (w : (Cond.stringLink own index text).before a0 Z = true) (wS : ∀ a ∈ Bundle.stringAtoms, a.before a0 Z = true) (eT : T.heap = h) {k0 : Nat} (hS : s.Since vm0 k0) (hk : k0 ≤ h.size) (N : Fr s.heap.size locs) (O : Old Z Z.heap.size s.heap) {Ts : List String} (I : IB Z vm0 Ts) (hnot : text ∉ Ts) (hh : Jvm.Lit.constHeld Z own index) (hcw : Jvm.Lit.compactW.before a0 Z = true)
    {vs : List Value} {z : Int32} (ht : (∀ c ∈ text.toList, c.toNat < 256) ∧ text.toList.map (fun c => Value.int (Jvm.Lit.byteI c.toNat.toUInt16)) = vs) (hz : ¬ z < 0) (hl : z.toNatClampNeg = vs.length) (hd : decode c.code pc = .ok (.ldc index, 2)) (hq : pc + 2 = q) (n : Nat) (hn : 4 * text.toList.length ≤ n) (hbig : n ≤ 536870912) (hc : cells + 2 ≤ R.cells) (hl' : slots + (n + 4) ≤ R.slots)
    (k : ∀ (T' : State) (h' : Heap) (a b : Addr) (kb : ClassId) (vm1 : Vm), Stand p l e R (s.setVm vm1) m args below meth c T' locs (cells + 2) (slots + (n + 4)) → T'.heap = h' → Ext h h' → s.Since vm1 h'.size → Z.Warmed39 vm1 → vm1.findClass own = some m.cls → (s.setVm vm0).Warmed39 vm1 → Exa Z h' a "java/lang/String" → Fld Z h' a "java/lang/String" "coder" "B" (.int 0) → Fld Z h' a "java/lang/String" "value" "[B" (.ref b) → Arv Z h' b kb .byte z vs (.int 0) → IB Z vm1 (text :: Ts) → LitV Z vm1 own index a → Wp p e below Q F T' (mkF m q Ls (.ref a :: st))) : Wp p e below Q F T (mkF m pc Ls st) := by
  subst hq
  have h00 : (s.setVm vm0).Since vm0 h.size := (State.WarmedH.refl (s.setVm vm0)).since _
  obtain ⟨a, T', h', k1, b, kb, X', e', E, hS', hk', hZ', ho', A1, A2, A3, A4, -, -, I', L', st'⟩ := ldcSVL (s := s.setVm vm0) (vm0 := vm0) X hx hZ hown w wS eT h00 (Nat.le_refl _) N (fun b cl q => O.2.2 b cl q) I hnot hh hcw ht hz hl (g := mkF m pc Ls st) rfl hd hn hbig hc hl'
  exact Wp.st st' (k T' h' a b kb T'.vm X' e' E (hS.trans (sinceMono hS' hk') (Nat.le_trans hk E.1)) hZ' ho' hS'.1 A1 A2 A3 A4 I' L')
/-- .. loaded already -/
theorem ldcOld (X : Stand p l e R (s.setVm vm0) m args below meth c T locs cells slots) (hx : p.tables.exec = Jvm.exec) (hZ : Z.Warmed39 vm0) {own text : String} {index : Nat} (hown : vm0.findClass own = some m.cls) (w : (Cond.stringLink own index text).before a0 Z = true) {a : Addr} (L : LitV Z vm0 own index a) (hd : decode c.code pc = .ok (.ldc index, 2)) (hq : pc + 2 = q) (k : Wp p e below Q F T (mkF m q Ls (.ref a :: st))) : Wp p e below Q F T (mkF m pc Ls st) := by
  subst hq
  exact Wp.st (ldcAgain X hx hZ hown w (L : Lit (s.setVm vm0) own index a) (g := mkF m pc Ls st) rfl hd) k
/-- .. what it holds doesn't matter -/
theorem ldcAny (X : Stand p l e R (s.setVm vm0) m args below meth c T locs cells slots) (hx : p.tables.exec = Jvm.exec) (hZ : Z.Warmed39 vm0) {own text : String} {index : Nat} (hown : vm0.findClass own = some m.cls) (w : (Cond.stringLink own index text).before a0 Z = true) (wS : ∀ a ∈ Bundle.stringAtoms, a.before a0 Z = true) (eT : T.heap = h) {k0 : Nat} (hS : s.Since vm0 k0) (hk : k0 ≤ h.size) (hd : decode c.code pc = .ok (.ldc index, 2)) (hq : pc + 2 = q) (n : Nat) (hn : 4 * text.toList.length ≤ n) (hbig : n ≤ 536870912) (hc : cells + 2 ≤ R.cells) (hl' : slots + (n + 4) ≤ R.slots)
    (k : ∀ (T' : State) (h' : Heap) (a : Addr) (vm1 : Vm), Stand p l e R (s.setVm vm1) m args below meth c T' locs (cells + 2) (slots + (n + 4)) → T'.heap = h' → Ext h h' → s.Since vm1 h'.size → Z.Warmed39 vm1 → vm1.findClass own = some m.cls → (s.setVm vm0).Warmed39 vm1 → Wp p e below Q F T' (mkF m q Ls (.ref a :: st))) : Wp p e below Q F T (mkF m pc Ls st) := by
  subst hq
  have h00 : (s.setVm vm0).Since vm0 h.size := (State.WarmedH.refl (s.setVm vm0)).since _
  obtain ⟨a, T', h', k1, X', e', E, hS', hk', hZ', ho', st'⟩ := ldcS (s := s.setVm vm0) (vm0 := vm0) X hx hZ hown w wS eT h00 (Nat.le_refl _) (g := mkF m pc Ls st) rfl hd hn hbig hc hl'
  exact Wp.st st' (k T' h' a T'.vm X' e' E (hS.trans (sinceMono hS' hk') (Nat.le_trans hk E.1)) hZ' ho' hS'.1)
/-- ends, wide -/
theorem retIW (X : Stand p l e R (s.setVm vm0) m args below meth c T locs cells slots) (hx : p.tables.exec = Jvm.exec) {k0 : Nat} (hS : s.Since vm0 k0) (hk : k0 ≤ h.size) (hlk : meth.locks = false) (hr : meth.sig.returnType = some .int) {z : Int32} (hd : decode c.code pc = .ok (.ireturn, 1)) {C S : Nat} (hC : cells ≤ C) (hSl : slots ≤ S) {Qc : Option Value → Vm → Heap → List Loc → Prop} (eT : T.heap = h) (k : ∀ vm, (s.setVm vm0).WarmedH vm → Qc (some (.int z)) vm h locs) : Wp p e below (fun v t L => Qc v t.vm t.heap L) (WF s C S) T (mkF m pc Ls (.int z :: st)) := by
  obtain ⟨fs, h1, h2, h3, hs⟩ := X.leaveW hS (by rw [eT]; exact hk) (v := some (.int z)) (fun h => by rw [hr] at h; cases h)
  refine ⟨_, _, _, ?_, h2, h3, (by subst eT; exact k _ X.warmed), hs.1, hs.2.1, hs.2.2.1, hs.2.2.2.mono hC hSl⟩
  exact retOut X hx hr rfl (Or.inl ⟨rfl, Or.inl rfl, _, rfl⟩) hd h1
theorem retZW (X : Stand p l e R (s.setVm vm0) m args below meth c T locs cells slots) (hx : p.tables.exec = Jvm.exec) {k0 : Nat} (hS : s.Since vm0 k0) (hk : k0 ≤ h.size) (hlk : meth.locks = false) {t : FieldType} (hr : meth.sig.returnType = some t) (ht : t = .boolean ∨ t = .byte ∨ t = .char ∨ t = .short) {z : Int32} (hd : decode c.code pc = .ok (.ireturn, 1)) {C S : Nat} (hC : cells ≤ C) (hSl : slots ≤ S) {Qc : Option Value → Vm → Heap → List Loc → Prop} (eT : T.heap = h) (k : ∀ vm, (s.setVm vm0).WarmedH vm → Qc (some (.int (nar t z))) vm h locs) : Wp p e below (fun v t L => Qc v t.vm t.heap L) (WF s C S) T (mkF m pc Ls (.int z :: st)) := by
  obtain ⟨fs, h1, h2, h3, hs⟩ := X.leaveW hS (by rw [eT]; exact hk) (v := some (.int (nar t z))) (fun h => by rw [hr] at h; cases h)
  refine ⟨_, _, _, ?_, h2, h3, (by subst eT; exact k _ X.warmed), hs.1, hs.2.1, hs.2.2.1, hs.2.2.2.mono hC hSl⟩
  exact retN X hx (t := t) hr ht hd h1
theorem retAW (X : Stand p l e R (s.setVm vm0) m args below meth c T locs cells slots) (hx : p.tables.exec = Jvm.exec) {k0 : Nat} (hS : s.Since vm0 k0) (hk : k0 ≤ h.size) (hlk : meth.locks = false) {t : FieldType} (hr : meth.sig.returnType = some t) (ht : t.isReference = true) {w : Value} (hw : w.isRef = true) (hd : decode c.code pc = .ok (.areturn, 1)) {C S : Nat} (hC : cells ≤ C) (hSl : slots ≤ S) {Qc : Option Value → Vm → Heap → List Loc → Prop} (eT : T.heap = h) (k : ∀ vm, (s.setVm vm0).WarmedH vm → Qc (some w) vm h locs) : Wp p e below (fun v t L => Qc v t.vm t.heap L) (WF s C S) T (mkF m pc Ls (w :: st)) := by
  obtain ⟨fs, h1, h2, h3, hs⟩ := X.leaveW hS (by rw [eT]; exact hk) (v := some w) (fun h => by rw [hr] at h; cases h)
  refine ⟨_, _, _, ?_, h2, h3, (by subst eT; exact k _ X.warmed), hs.1, hs.2.1, hs.2.2.1, hs.2.2.2.mono hC hSl⟩
  exact retOut X hx hr (narR ht) (Or.inr (Or.inr (Or.inr (Or.inr ⟨rfl, ht, hw⟩)))) hd h1
theorem ret0W (X : Stand p l e R (s.setVm vm0) m args below meth c T locs cells slots) (hx : p.tables.exec = Jvm.exec) {k0 : Nat} (hS : s.Since vm0 k0) (hk : k0 ≤ h.size) (hlk : meth.locks = false) (hr : meth.sig.returnType = none) (hd : decode c.code pc = .ok (.return_, 1)) {C S : Nat} (hC : cells ≤ C) (hSl : slots ≤ S) {Qc : Option Value → Vm → Heap → List Loc → Prop} (eT : T.heap = h) (k : ∀ vm, (s.setVm vm0).WarmedH vm → Qc none vm h locs) : Wp p e below (fun v t L => Qc v t.vm t.heap L) (WF s C S) T (mkF m pc Ls []) := by
  obtain ⟨fs, h1, h2, h3, hs⟩ := X.leaveW hS (by rw [eT]; exact hk) (v := none) (fun _ => rfl)
  refine ⟨_, _, _, ?_, h2, h3, (by subst eT; exact k _ X.warmed), hs.1, hs.2.1, hs.2.2.1, hs.2.2.2.mono hC hSl⟩
  exact X.returnOut hx hr hd h1
end D
end Wk
end Jvm.OwnW
/- laws to paste: Road.backV (cut by pick.py; bodies as the Statement names them) -/
namespace Jvm.Pilot.@@N@@
namespace StrChars
open Jvm Sem ClassFile Op Lib Jvm.Stand Jvm.Free.XT Jvm.Free.ALB Jvm.Free.JM Jvm.Free
open Jvm.Lib.Cold (StaticIs)
/-- a char array whose places are chars -/
def Ch (a : Addr) (A : Cell) (U : State) : Prop := Arr .char a A U ∧ Typed .char A
theorem Ch.mv {a : Addr} {A : Cell} {U U' : State} (h : Ch a A U) (hal : U.vm.Alike U'.vm) (hh : U'.heap = U.heap) : Ch a A U' := ⟨h.1.mv hal hh, h.2⟩
theorem Ch.keep {a : Addr} {A : Cell} {U U' : State} (h : Ch a A U) (hal : U.vm.Alike U'.vm) (hk : U'.heap[a]? = some A) : Ch a A U' := ⟨h.1.keep hal hk, h.2⟩
/-- what place i of a char[]'s cell holds -/
def cv (A : Cell) (i : Nat) : Int32 := match A.slots[i]? with | some (.int x) => x | _ => 0
theorem Ch.get {a : Addr} {A : Cell} {U : State} (h : Ch a A U) {i : Nat} (hi : i < A.slots.size) : A.slots[i]? = some (.int (cv A i)) := by
  have e := Array.getElem?_eq_getElem hi
  have f := h.2 i _ e
  unfold cv; rw [e]
  generalize A.slots[i] = v at f
  cases v <;> simp [fits] at f ⊢
/-- the byte that i2b leaves of a char -/
def lo8 (x : Int32) : Int32 := x.toInt8.toInt32
theorem fits_lo8 (y : Int32) : fits .byte (.int (lo8 y)) = true := by
  have h1 := y.toInt8.le_toInt
  have h2 := y.toInt8.toInt_lt
  simp only [lo8, fits, Bool.and_eq_true, decide_eq_true_eq, Int32.le_iff_toInt_le, Int8.toInt_toInt32, show (-128 : Int32).toInt = -128 from by decide, show (127 : Int32).toInt = 127 from by decide]
  omega
/-- A' is A but that each place j of lo .. hi - 1 holds f j -/
def Laid (A A' : Cell) (lo hi : Nat) (f : Nat → Value) : Prop := A'.cls = A.cls ∧ A'.vm = A.vm ∧ A'.slots.size = A.slots.size ∧ ∀ i, A'.slots[i]? = if lo ≤ i ∧ i < hi then some (f i) else A.slots[i]?
theorem Laid.zero (A : Cell) (lo : Nat) (f : Nat → Value) : Laid A A lo (lo + 0) f := ⟨rfl, rfl, rfl, fun i => by rw [if_neg (by omega)]⟩
theorem Laid.step {A Ak : Cell} {lo k : Nat} {f : Nat → Value} {v : Value} (h : Laid A Ak lo k f) (hlo : lo ≤ k) (hk : k < Ak.slots.size) (hv : v = f k) : Laid A (Ak.setSlot k v) lo (k + 1) f := by
  refine ⟨h.1, h.2.1, by simpa [Cell.setSlot] using h.2.2.1, fun i => ?_⟩
  by_cases e : k = i
  · subst e; rw [Cell.slots_setSlot_self v hk, if_pos (by omega), hv]
  · rw [Cell.slots_setSlot_ne v e, h.2.2.2 i]
    by_cases q : lo ≤ i ∧ i < k
    · rw [if_pos q, if_pos (by omega)]
    · rw [if_neg q, if_neg (by omega)]
def U16 : String := "java/lang/StringUTF16"
namespace Cmp5
def yN : MethodName := ⟨"java/lang/StringUTF16", "compress", "([CI[BII)I"⟩
abbrev yB : ByteArray := jdk_52_method_21_code
theorem d0 : decode yB 0 = .ok (.iconst 0, 1) := by decide +kernel
theorem d1 : decode yB 1 = .ok (.istore 5, 2) := by decide +kernel
theorem d3 : decode yB 3 = .ok (.iload 5, 2) := by decide +kernel
theorem d5 : decode yB 5 = .ok (.iload 4, 2) := by decide +kernel
theorem d7 : decode yB 7 = .ok (.if_icmp (.ge) 37, 3) := by decide +kernel
theorem d10 : decode yB 10 = .ok (.aload_n 0, 1) := by decide +kernel
theorem d11 : decode yB 11 = .ok (.iload_n 1, 1) := by decide +kernel
theorem d12 : decode yB 12 = .ok (.caload, 1) := by decide +kernel
theorem d13 : decode yB 13 = .ok (.istore 6, 2) := by decide +kernel
theorem d15 : decode yB 15 = .ok (.iload 6, 2) := by decide +kernel
theorem d17 : decode yB 17 = .ok (.sipush 255, 3) := by decide +kernel
theorem d20 : decode yB 20 = .ok (.if_icmp (.le) 6, 3) := by decide +kernel
theorem d26 : decode yB 26 = .ok (.aload_n 2, 1) := by decide +kernel
theorem d27 : decode yB 27 = .ok (.iload_n 3, 1) := by decide +kernel
theorem d28 : decode yB 28 = .ok (.iload 6, 2) := by decide +kernel
theorem d30 : decode yB 30 = .ok (.i2b, 1) := by decide +kernel
theorem d31 : decode yB 31 = .ok (.bastore, 1) := by decide +kernel
theorem d32 : decode yB 32 = .ok (.iinc 1 1, 3) := by decide +kernel
theorem d35 : decode yB 35 = .ok (.iinc 3 1, 3) := by decide +kernel
theorem d38 : decode yB 38 = .ok (.iinc 5 1, 3) := by decide +kernel
theorem d41 : decode yB 41 = .ok (.goto (-38), 3) := by decide +kernel
theorem d44 : decode yB 44 = .ok (.iload 4, 2) := by decide +kernel
theorem d46 : decode yB 46 = .ok (.ireturn, 1) := by decide +kernel
def site : List Cond := []
def tab : Cond := tabOf yN yB 7 (some .int) site
def P (b : Addr) (A : Cell) (d : Addr) (B : Cell) (o q len : Nat) (args : Array Value) (s : State) : Prop := args = #[.ref b, .int (Int32.ofNat o), .ref d, .int (Int32.ofNat q), .int (Int32.ofNat len)] ∧ Ch b A s ∧ Arr .byte d B s ∧ b ≠ d ∧ o + len ≤ A.slots.size ∧ q + len ≤ B.slots.size ∧ ∀ i, i < len → ¬ 255 < cv A (o + i)
def E (b : Addr) (A : Cell) (d : Addr) (B : Cell) (o q len : Nat) (r : Option Value) (s u : State) : Prop := r = some (.int (Int32.ofNat len)) ∧ ∃ B', Put d B' s u ∧ Laid B B' q (q + len) (fun j => Value.int (lo8 (cv A (o + (j - q)))))
/-- no char of the range above 255: len; the places written hold each char's low byte -/
theorem law (l : Launch) (b : Addr) (A : Cell) (d : Addr) (B : Cell) (o q len : Nat) : Law l yN 5 5 0 0 yB 7 (some .int) site (P b A d B o q len) (E b A d B o q len) (copyLocs d q len) 0 0 := by
  refine Law.of_walk (plainFor_of_name (by decide +kernel)) (by decide +kernel) (by decide +kernel) (by decide) (fun _ _ h => by rw [h.1]; rfl) (fun _ U U' hal hh h => ⟨h.1, h.2.1.mv hal hh, h.2.2.1.mv hal hh, h.2.2.2⟩) (fun r U U' V V' h1 hal h2 h => ⟨h.1, h.2.elim fun B' q => ⟨B', q.1.mv h1 h2, q.2⟩⟩) ?_
  intro p e s m args below meth c s₁ X0 hexec hbytes hml hret hlk hnm hown hh0 W hP
  obtain ⟨rfl, hA, hB, hne, l1, l2, hp⟩ := hP
  have c1 : Steps p.tables e below (s₁.setTop (entryFrame m #[.ref b, .int (Int32.ofNat o), .ref d, .int (Int32.ofNat q), .int (Int32.ofNat len)] 7)) (s₁.setTop (mkF m 0 #[.val (.ref b), .val (.int (Int32.ofNat o)), .val (.ref d), .val (.int (Int32.ofNat q)), .val (.int (Int32.ofNat len)), .unset, .unset] [])) := entry rfl
  have hA0 := hA.1.mv X0.warmed.alike hh0
  have hB0 := hB.mv X0.warmed.alike hh0
  have a31 := hA.1.2.2.2
  have c2 : Steps p.tables e below (s₁.setTop (entryFrame m #[.ref b, .int (Int32.ofNat o), .ref d, .int (Int32.ofNat q), .int (Int32.ofNat len)] 7)) (s₁.setTop (mkF m 3 #[.val (.ref b), .val (.int (Int32.ofNat o)), .val (.ref d), .val (.int (Int32.ofNat q)), .val (.int (Int32.ofNat len)), .val (.int 0), .unset] [])) := c1.trans (by
    refine iconstV X0.here hexec rfl 0 (hb hbytes d0) (by decide) ?_
    refine XS.istore X0.here hexec rfl (hb hbytes d1) rfl rfl ?_
    exact Steps.refl _)
  have loop : ∀ (r i : Nat), i + r = len → ∀ (z : Slot), (z = .unset ∨ ∃ w, z = .val w ∧ w.category = 1) → ∀ (Tl : State) (Bk : Cell), Stand p l e { frames := 0, locals := 0, cells := 0, slots := 0 } s m #[.ref b, .int (Int32.ofNat o), .ref d, .int (Int32.ofNat q), .int (Int32.ofNat len)] below meth c Tl ([] ++ copyLocs d q i) 0 0 → Put d Bk s₁ Tl → Laid B Bk q (q + i) (fun j => Value.int (lo8 (cv A (o + (j - q))))) →
      Steps p.tables e below (s₁.setTop (entryFrame m #[.ref b, .int (Int32.ofNat o), .ref d, .int (Int32.ofNat q), .int (Int32.ofNat len)] 7)) (Tl.setTop (mkF m 3 #[.val (.ref b), .val (.int (Int32.ofNat (o + i))), .val (.ref d), .val (.int (Int32.ofNat (q + i))), .val (.int (Int32.ofNat len)), .val (.int (Int32.ofNat i)), z] [])) → ∃ (T' : State) (B' : Cell) (z' : Slot), Stand p l e { frames := 0, locals := 0, cells := 0, slots := 0 } s m #[.ref b, .int (Int32.ofNat o), .ref d, .int (Int32.ofNat q), .int (Int32.ofNat len)] below meth c T' ([] ++ copyLocs d q len) 0 0 ∧ Put d B' s₁ T' ∧ Laid B B' q (q + len) (fun j => Value.int (lo8 (cv A (o + (j - q))))) ∧
      Steps p.tables e below (s₁.setTop (entryFrame m #[.ref b, .int (Int32.ofNat o), .ref d, .int (Int32.ofNat q), .int (Int32.ofNat len)] 7)) (T'.setTop (mkF m 3 #[.val (.ref b), .val (.int (Int32.ofNat (o + len))), .val (.ref d), .val (.int (Int32.ofNat (q + len))), .val (.int (Int32.ofNat len)), .val (.int (Int32.ofNat len)), z'] [])) := by
    intro r
    induction r with
    | zero =>
      intro i hi z hz Tl Bk Xl pl fl cl
      have hil : i = len := by omega
      rw [hil] at Xl fl cl
      exact ⟨Tl, Bk, z, Xl, pl, fl, cl⟩
    | succ r ih =>
      intro i hi z hz Tl Bk Xl pl fl cl
      have all := X0.warmed.alike.symm.trans Xl.warmed.alike
      have hAl := hA0.keep all (pl.other hne hA0.1)
      have hBk := hB0.like all pl.1 fl.1 fl.2.1 fl.2.2.1
      have hlt : q + i < Bk.slots.size := by rw [fl.2.2.1]; omega
      have c3 : Steps p.tables e below (s₁.setTop (entryFrame m #[.ref b, .int (Int32.ofNat o), .ref d, .int (Int32.ofNat q), .int (Int32.ofNat len)] 7)) (Tl.setTop (mkF m 12 #[.val (.ref b), .val (.int (Int32.ofNat (o + i))), .val (.ref d), .val (.int (Int32.ofNat (q + i))), .val (.int (Int32.ofNat len)), .val (.int (Int32.ofNat i)), z] [.int (Int32.ofNat (o + i)), .ref b])) := cl.trans (by
        refine XS.iload Xl.here hexec rfl (hb hbytes d3) rfl ?_
        refine XS.iload Xl.here hexec rfl (hb hbytes d5) rfl ?_
        refine XS.icmpNo Xl.here hexec rfl (hb hbytes d7) rfl (ii_ge_f (lt32 (by omega) (by omega))) ?_
        refine XS.aloadN Xl.here hexec rfl (hb hbytes d10) rfl rfl ?_
        refine XS.iloadN Xl.here hexec rfl (hb hbytes d11) rfl ?_
        exact Steps.refl _)
      have c4 : Steps p.tables e below (s₁.setTop (entryFrame m #[.ref b, .int (Int32.ofNat o), .ref d, .int (Int32.ofNat q), .int (Int32.ofNat len)] 7)) (Tl.setTop (mkF m 13 #[.val (.ref b), .val (.int (Int32.ofNat (o + i))), .val (.ref d), .val (.int (Int32.ofNat (q + i))), .val (.int (Int32.ofNat len)), .val (.int (Int32.ofNat i)), z] [.int (cv A (o + i))])) := c3.trans (by
        refine Xl.aget hexec hAl rfl (hA.get (i := o + i) (by omega)) rfl rfl (hb hbytes d12) ?_
        exact Steps.refl _)
      have c5 : Steps p.tables e below (s₁.setTop (entryFrame m #[.ref b, .int (Int32.ofNat o), .ref d, .int (Int32.ofNat q), .int (Int32.ofNat len)] 7)) (Tl.setTop (mkF m 15 #[.val (.ref b), .val (.int (Int32.ofNat (o + i))), .val (.ref d), .val (.int (Int32.ofNat (q + i))), .val (.int (Int32.ofNat len)), .val (.int (Int32.ofNat i)), .val (.int (cv A (o + i)))] [])) := c4.trans (by
        refine XS.istoreS Xl.here hexec rfl (hb hbytes d13) rfl rfl hz ?_
        exact Steps.refl _)
      have c6 : Steps p.tables e below (s₁.setTop (entryFrame m #[.ref b, .int (Int32.ofNat o), .ref d, .int (Int32.ofNat q), .int (Int32.ofNat len)] 7)) (Tl.setTop (mkF m 31 #[.val (.ref b), .val (.int (Int32.ofNat (o + i))), .val (.ref d), .val (.int (Int32.ofNat (q + i))), .val (.int (Int32.ofNat len)), .val (.int (Int32.ofNat i)), .val (.int (cv A (o + i)))] [.int (lo8 (cv A (o + i))), .int (Int32.ofNat (q + i)), .ref d])) := c5.trans (by
        refine XS.iload Xl.here hexec rfl (hb hbytes d15) rfl ?_
        refine sipushV Xl.here hexec rfl 255 (hb hbytes d17) (by decide) ?_
        refine XS.icmpYes Xl.here hexec rfl (pc0 := 20) rfl (hb hbytes d20) rfl (ii_le_t (hp i (by omega))) (by decide) rfl ?_
        refine XS.aloadN Xl.here hexec rfl (hb hbytes d26) rfl rfl ?_
        refine XS.iloadN Xl.here hexec rfl (hb hbytes d27) rfl ?_
        refine XS.iload Xl.here hexec rfl (hb hbytes d28) rfl ?_
        refine i2b Xl.here hexec rfl (hb hbytes d30) rfl ?_
        exact Steps.refl _)
      obtain ⟨T7, X7, p7, st7⟩ := Xl.aput hexec hBk rfl hlt rfl (fits_lo8 (cv A (o + i))) (g := (mkF m 31 #[.val (.ref b), .val (.int (Int32.ofNat (o + i))), .val (.ref d), .val (.int (Int32.ofNat (q + i))), .val (.int (Int32.ofNat len)), .val (.int (Int32.ofNat i)), .val (.int (cv A (o + i)))] [.int (lo8 (cv A (o + i))), .int (Int32.ofNat (q + i)), .ref d])) rfl (rest := []) rfl (hb hbytes d31)
      have c8 : Steps p.tables e below (s₁.setTop (entryFrame m #[.ref b, .int (Int32.ofNat o), .ref d, .int (Int32.ofNat q), .int (Int32.ofNat len)] 7)) (T7.setTop (mkF m 32 #[.val (.ref b), .val (.int (Int32.ofNat (o + i))), .val (.ref d), .val (.int (Int32.ofNat (q + i))), .val (.int (Int32.ofNat len)), .val (.int (Int32.ofNat i)), .val (.int (cv A (o + i)))] [])) := c6.trans (st7 _ (Steps.refl _))
      have c9 : Steps p.tables e below (s₁.setTop (entryFrame m #[.ref b, .int (Int32.ofNat o), .ref d, .int (Int32.ofNat q), .int (Int32.ofNat len)] 7)) (T7.setTop (mkF m 3 #[.val (.ref b), .val (.int (Int32.ofNat (o + i) + 1)), .val (.ref d), .val (.int (Int32.ofNat (q + i) + 1)), .val (.int (Int32.ofNat len)), .val (.int (Int32.ofNat i + 1)), .val (.int (cv A (o + i)))] [])) := c8.trans (by
        refine iincV X7.here hexec rfl 1 (hb hbytes d32) (by decide) rfl rfl ?_
        refine iincV X7.here hexec rfl 1 (hb hbytes d35) (by decide) rfl rfl ?_
        refine iincV X7.here hexec rfl 1 (hb hbytes d38) (by decide) rfl rfl ?_
        refine XS.goto X7.here hexec rfl (pc0 := 41) rfl (hb hbytes d41) (by decide) rfl ?_
        exact Steps.refl _)
      have c10 : Steps p.tables e below (s₁.setTop (entryFrame m #[.ref b, .int (Int32.ofNat o), .ref d, .int (Int32.ofNat q), .int (Int32.ofNat len)] 7)) (T7.setTop (mkF m 3 #[.val (.ref b), .val (.int (Int32.ofNat (o + (i + 1)))), .val (.ref d), .val (.int (Int32.ofNat (q + (i + 1)))), .val (.int (Int32.ofNat len)), .val (.int (Int32.ofNat (i + 1))), .val (.int (cv A (o + i)))] [])) := by
        have := c9
        rw [succ32, succ32, succ32] at this
        exact this
      exact ih (i + 1) (by omega) _ (Or.inr ⟨_, rfl, rfl⟩) T7 _ (by rw [copyLocs_step, ← List.append_assoc]; exact X7) (pl.trans p7) (fl.step (by omega) hlt (by simp)) c10
  obtain ⟨T9, B9, z9, X9, p9, f9, g9⟩ := loop len 0 (by omega) .unset (Or.inl rfl) s₁ B (by simpa [copyLocs] using X0) ⟨hB0.1, fun _ _ => rfl, rfl⟩ (Laid.zero _ _ _) c2
  have c11 : Steps p.tables e below (s₁.setTop (entryFrame m #[.ref b, .int (Int32.ofNat o), .ref d, .int (Int32.ofNat q), .int (Int32.ofNat len)] 7)) (T9.setTop (mkF m 46 #[.val (.ref b), .val (.int (Int32.ofNat (o + len))), .val (.ref d), .val (.int (Int32.ofNat (q + len))), .val (.int (Int32.ofNat len)), .val (.int (Int32.ofNat len)), z9] [.int (Int32.ofNat len)])) := g9.trans (by
    refine XS.iload X9.here hexec rfl (hb hbytes d3) rfl ?_
    refine XS.iload X9.here hexec rfl (hb hbytes d5) rfl ?_
    refine XS.icmpYes X9.here hexec rfl (pc0 := 7) rfl (hb hbytes d7) rfl (ii_ge_t (nlt32 (by omega) (Nat.le_refl _))) (by decide) rfl ?_
    refine XS.iload X9.here hexec rfl (hb hbytes d44) rfl ?_
    exact Steps.refl _)
  exact ⟨T9, some (.int (Int32.ofNat len)), _, _, _, X9, by simp, rfl, rfl, (fun h => by cases h), ⟨rfl, B9, p9.from hh0, f9⟩, fun fs hl => c11.trans (X9.ireturnOut hexec hret rfl (Or.inl rfl) (hb hbytes d46) hl)⟩
end Cmp5
namespace Cmp3
def yN : MethodName := ⟨"java/lang/StringUTF16", "compress", "([CII)[B"⟩
abbrev yB : ByteArray := jdk_52_method_16_code
theorem d0 : decode yB 0 = .ok (.iload_n 2, 1) := by decide +kernel
theorem d1 : decode yB 1 = .ok (.newarray .byte, 2) := by decide +kernel
theorem d3 : decode yB 3 = .ok (.astore_n 3, 1) := by decide +kernel
theorem d4 : decode yB 4 = .ok (.aload_n 0, 1) := by decide +kernel
theorem d5 : decode yB 5 = .ok (.iload_n 1, 1) := by decide +kernel
theorem d6 : decode yB 6 = .ok (.aload_n 3, 1) := by decide +kernel
theorem d7 : decode yB 7 = .ok (.iconst 0, 1) := by decide +kernel
theorem d8 : decode yB 8 = .ok (.iload_n 2, 1) := by decide +kernel
theorem d9 : decode yB 9 = .ok (.invokestatic 115, 3) := by decide +kernel
theorem d12 : decode yB 12 = .ok (.istore 4, 2) := by decide +kernel
theorem d14 : decode yB 14 = .ok (.iload 4, 2) := by decide +kernel
theorem d16 : decode yB 16 = .ok (.iload_n 2, 1) := by decide +kernel
theorem d17 : decode yB 17 = .ok (.if_icmp (.eq) 40, 3) := by decide +kernel
theorem d57 : decode yB 57 = .ok (.aload_n 3, 1) := by decide +kernel
theorem d58 : decode yB 58 = .ok (.areturn, 1) := by decide +kernel
def site : List Cond := [.arrayClass .byte, Cmp5.tab] ++ staticW U16 115 Cmp5.yN
def tab : Cond := tabOf yN yB 6 (some (.array .byte)) site
def P (b : Addr) (A : Cell) (o len : Nat) (args : Array Value) (s : State) : Prop := args = #[.ref b, .int (Int32.ofNat o), .int (Int32.ofNat len)] ∧ Ch b A s ∧ o + len ≤ A.slots.size ∧ len ≤ 536870912 ∧ ∀ i, i < len → ¬ 255 < cv A (o + i)
def E (b : Addr) (A : Cell) (o len : Nat) (r : Option Value) (s u : State) : Prop := NewArr .byte "[B" len (fun j => .int (lo8 (cv A (o + j)))) r s u ∧ u.heap.size = s.heap.size + 1
/-- no char of the range above 255: a new byte[] of their low bytes -/
theorem law (l : Launch) (b : Addr) (A : Cell) (o len : Nat) : Law l yN 3 3 1 18 yB 6 (some (.array .byte)) site (P b A o len) (E b A o len) [] 1 len := by
  refine Law.of_walk (plainFor_of_name (by decide +kernel)) (by decide +kernel) (by decide +kernel) (by decide) (fun _ _ h => by rw [h.1]; rfl) (fun _ U U' hal hh h => ⟨h.1, h.2.1.mv hal hh, h.2.2⟩) (fun r U U' V V' h1 hal h2 h => ⟨NewArr.mv r U U' V V' h1 hal h2 h.1, by rw [h1, h2]; exact h.2⟩) ?_
  intro p e s m args below meth c s₁ X0 hexec hbytes hml hret hlk hnm hown hh0 W hP
  obtain ⟨rfl, hA, l1, l2, hp⟩ := hP
  have a31 := hA.1.2.2.2
  have c1 : Steps p.tables e below (s₁.setTop (entryFrame m #[.ref b, .int (Int32.ofNat o), .int (Int32.ofNat len)] 6)) (s₁.setTop (mkF m 0 #[.val (.ref b), .val (.int (Int32.ofNat o)), .val (.int (Int32.ofNat len)), .unset, .unset, .unset] [])) := entry rfl
  have c2 : Steps p.tables e below (s₁.setTop (entryFrame m #[.ref b, .int (Int32.ofNat o), .int (Int32.ofNat len)] 6)) (s₁.setTop (mkF m 1 #[.val (.ref b), .val (.int (Int32.ofNat o)), .val (.int (Int32.ofNat len)), .unset, .unset, .unset] [.int (Int32.ofNat len)])) := c1.trans (by
    refine XS.iloadN X0.here hexec rfl (hb hbytes d0) rfl ?_
    exact Steps.refl _)
  obtain ⟨T3, B3, X3, ba3, bs3, bv3, bh3, bf3, st3⟩ := X0.anew hexec (atype := .byte) (wk W (.arrayClass .byte)) rfl (by show len * 1 ≤ _; omega) (by omega) (g := (mkF m 1 #[.val (.ref b), .val (.int (Int32.ofNat o)), .val (.int (Int32.ofNat len)), .unset, .unset, .unset] [.int (Int32.ofNat len)])) rfl (hb hbytes d1) (rest := []) rfl (Nat.le_refl _) (by show 0 + len ≤ len; omega)
  rw [hh0] at ba3 st3
  have kp3 : XT.Kept s T3 := (XT.Kept.of_eq hh0).push bh3
  have hA3 := hA.keep X3.warmed.alike (kp3 _ _ hA.1.1)
  have hne : b ≠ s.heap.size := hA.1.ne
  have c4 : Steps p.tables e below (s₁.setTop (entryFrame m #[.ref b, .int (Int32.ofNat o), .int (Int32.ofNat len)] 6)) (T3.setTop (mkF m 3 #[.val (.ref b), .val (.int (Int32.ofNat o)), .val (.int (Int32.ofNat len)), .unset, .unset, .unset] [.ref s.heap.size])) := c2.trans (st3 _ (Steps.refl _))
  have c5 : Steps p.tables e below (s₁.setTop (entryFrame m #[.ref b, .int (Int32.ofNat o), .int (Int32.ofNat len)] 6)) (T3.setTop (mkF m 9 #[.val (.ref b), .val (.int (Int32.ofNat o)), .val (.int (Int32.ofNat len)), .val (.ref s.heap.size), .unset, .unset] [.int (Int32.ofNat len), .int 0, .ref s.heap.size, .int (Int32.ofNat o), .ref b])) := c4.trans (by
    refine XS.astoreN X3.here hexec rfl (hb hbytes d3) rfl rfl rfl ?_
    refine XS.aloadN X3.here hexec rfl (hb hbytes d4) rfl rfl ?_
    refine XS.iloadN X3.here hexec rfl (hb hbytes d5) rfl ?_
    refine XS.aloadN X3.here hexec rfl (hb hbytes d6) rfl rfl ?_
    refine iconstV X3.here hexec rfl 0 (hb hbytes d7) (by decide) ?_
    refine XS.iloadN X3.here hexec rfl (hb hbytes d8) rfl ?_
    exact Steps.refl _)
  obtain ⟨v6, T6, X6, E6, g6⟩ := X3.callS hexec (Cmp5.law l b A s.heap.size B3 o 0 len) hown (wks W (staticW U16 115 Cmp5.yN)) (wk W Cmp5.tab) (W := 0) (Nat.le_of_ble_eq_true rfl) (Nat.le_of_ble_eq_true rfl) (Nat.le_refl _) (by show 0 + len + 0 ≤ len; omega) (g := (mkF m 9 #[.val (.ref b), .val (.int (Int32.ofNat o)), .val (.int (Int32.ofNat len)), .val (.ref s.heap.size), .unset, .unset] [.int (Int32.ofNat len), .int (Int32.ofNat 0), .ref s.heap.size, .int (Int32.ofNat o), .ref b])) rfl (by rw [hml]; rfl) c5 (argsL := [.ref b, .int (Int32.ofNat o), .ref s.heap.size, .int (Int32.ofNat 0), .int (Int32.ofNat len)]) (rest := []) rfl rfl (by show 2 * 0 + 0 ≤ _; decide) (hb hbytes d9) (⟨rfl, hA3, ba3, hne, l1, by rw [bs3]; simp, hp⟩)
  obtain ⟨rfl, B6, p6, f6⟩ := E6
  have c7 : Steps p.tables e below (s₁.setTop (entryFrame m #[.ref b, .int (Int32.ofNat o), .int (Int32.ofNat len)] 6)) (T6.setTop (mkF m 12 #[.val (.ref b), .val (.int (Int32.ofNat o)), .val (.int (Int32.ofNat len)), .val (.ref s.heap.size), .unset, .unset] [.int (Int32.ofNat len)])) := g6
  have c8 : Steps p.tables e below (s₁.setTop (entryFrame m #[.ref b, .int (Int32.ofNat o), .int (Int32.ofNat len)] 6)) (T6.setTop (mkF m 58 #[.val (.ref b), .val (.int (Int32.ofNat o)), .val (.int (Int32.ofNat len)), .val (.ref s.heap.size), .val (.int (Int32.ofNat len)), .unset] [.ref s.heap.size])) := c7.trans (by
    refine XS.istore X6.here hexec rfl (hb hbytes d12) rfl rfl ?_
    refine XS.iload X6.here hexec rfl (hb hbytes d14) rfl ?_
    refine XS.iloadN X6.here hexec rfl (hb hbytes d16) rfl ?_
    refine XS.icmpYes X6.here hexec rfl (pc0 := 17) rfl (hb hbytes d17) rfl (ii_eq_t rfl) (by decide) rfl ?_
    refine XS.aloadN X6.here hexec rfl (hb hbytes d57) rfl rfl ?_
    exact Steps.refl _)
  have X8 := X6.wide (L' := []) (cells' := 1) (slots' := len) (fun x hx hlt => by
    simp only [List.nil_append, copyLocs, List.mem_map, List.mem_range] at hx
    obtain ⟨i, -, rfl⟩ := hx
    exact absurd hlt (Nat.lt_irrefl _)) (Nat.le_refl _) (by omega)
  exact ⟨T6, some (.ref s.heap.size), _, _, _, X8, rfl, rfl, rfl, (fun h => by cases h), ⟨⟨rfl, B6, ba3.like (X3.warmed.alike.symm.trans X6.warmed.alike) p6.1 f6.1 f6.2.1 f6.2.2.1, f6.2.1.trans bv3, by rw [X6.warmed.alike.findClass, f6.1]; exact bf3, by rw [f6.2.2.1, bs3]; simp, fun j hj => by rw [f6.2.2.2 j, if_pos (by omega)]; rfl, kp3.put p6 (Nat.le_refl _)⟩, by rw [p6.2.2, bh3, hh0]; simp⟩, fun fs hl => c8.trans (X8.areturnOut hexec rfl hret rfl (hb hbytes d58) hl)⟩
end Cmp3
namespace CodL
def yN : MethodName := ⟨"java/lang/StringUTF16", "coderFromArrayLen", "([BI)B"⟩
abbrev yB : ByteArray := jdk_52_method_15_code
theorem d0 : decode yB 0 = .ok (.iload_n 1, 1) := by decide +kernel
theorem d1 : decode yB 1 = .ok (.aload_n 0, 1) := by decide +kernel
theorem d2 : decode yB 2 = .ok (.arraylength, 1) := by decide +kernel
theorem d3 : decode yB 3 = .ok (.isub, 1) := by decide +kernel
theorem d4 : decode yB 4 = .ok (.bipush 31, 2) := by decide +kernel
theorem d6 : decode yB 6 = .ok (.iushr, 1) := by decide +kernel
theorem d7 : decode yB 7 = .ok (.i2b, 1) := by decide +kernel
theorem d8 : decode yB 8 = .ok (.ireturn, 1) := by decide +kernel
def site : List Cond := []
def tab : Cond := tabOf yN yB 2 (some .byte) site
def P (d : Addr) (B : Cell) (args : Array Value) (s : State) : Prop := args = #[.ref d, .int (Int32.ofNat B.slots.size)] ∧ Arr .byte d B s
def E (r : Option Value) (s u : State) : Prop := XT.PureE (some (.int 0)) r s u
/-- an array as long as the number of chars: LATIN1 -/
theorem law (l : Launch) (d : Addr) (B : Cell) : Law l yN 2 2 0 0 yB 2 (some .byte) site (P d B) E [] 0 0 := by
  refine Law.of_walk (plainFor_of_name (by decide +kernel)) (by decide +kernel) (by decide +kernel) (by decide) (fun _ _ h => by rw [h.1]; rfl) (fun _ U U' hal hh h => ⟨h.1, h.2.mv hal hh⟩) (fun r U U' V V' h1 hal h2 h => XT.PureE.mv r U U' V V' h1 hal h2 h) ?_
  intro p e s m args below meth c s₁ X0 hexec hbytes hml hret hlk hnm hown hh0 W hP
  obtain ⟨rfl, hB⟩ := hP
  have hB0 := hB.mv X0.warmed.alike hh0
  have c1 : Steps p.tables e below (s₁.setTop (entryFrame m #[.ref d, .int (Int32.ofNat B.slots.size)] 2)) (s₁.setTop (mkF m 0 #[.val (.ref d), .val (.int (Int32.ofNat B.slots.size))] [])) := entry rfl
  have c2 : Steps p.tables e below (s₁.setTop (entryFrame m #[.ref d, .int (Int32.ofNat B.slots.size)] 2)) (s₁.setTop (mkF m 2 #[.val (.ref d), .val (.int (Int32.ofNat B.slots.size))] [.ref d, .int (Int32.ofNat B.slots.size)])) := c1.trans (by
    refine XS.iloadN X0.here hexec rfl (hb hbytes d0) rfl ?_
    refine XS.aloadN X0.here hexec rfl (hb hbytes d1) rfl rfl ?_
    exact Steps.refl _)
  have c3 : Steps p.tables e below (s₁.setTop (entryFrame m #[.ref d, .int (Int32.ofNat B.slots.size)] 2)) (s₁.setTop (mkF m 8 #[.val (.ref d), .val (.int (Int32.ofNat B.slots.size))] [.int (lo8 (ushr (Int32.ofNat B.slots.size - Int32.ofNat B.slots.size) 31))])) := c2.trans (by
    refine X0.alen hexec hB0 rfl rfl (hb hbytes d2) ?_
    refine XS.isub X0.here hexec rfl (hb hbytes d3) rfl ?_
    refine bipushV X0.here hexec rfl 31 (hb hbytes d4) (by decide) ?_
    refine iushr X0.here hexec rfl (hb hbytes d6) rfl ?_
    refine i2b X0.here hexec rfl (hb hbytes d7) rfl ?_
    exact Steps.refl _)
  have e0 : lo8 (ushr (Int32.ofNat B.slots.size - Int32.ofNat B.slots.size) 31) = 0 := by rw [Int32.sub_self]; decide
  rw [e0] at c3
  exact ⟨s₁, some (.int 0), _, _, _, X0, rfl, rfl, rfl, (fun h => by cases h), ⟨rfl, hh0⟩, fun fs hl => c3.trans (X0.ireturnOut hexec hret rfl (Or.inr (Or.inr (Or.inl rfl))) (hb hbytes d8) hl)⟩
end CodL
/-- the String at a is Latin-1 over a new byte[] (the heap's one new cell): the low bytes of the len chars of A from o on; every cell but a is kept -/
def Got (a : Addr) (D : Cell) (fV fC : Field) (A : Cell) (o len : Nat) (r : Option Value) (s u : State) : Prop := r = none ∧ ∃ D' V : Cell, Blank "java/lang/String" a D' u ∧ Same D D' [fV.slot, fC.slot] ∧ D'.slots[fV.slot]? = some (.ref s.heap.size) ∧ D'.slots[fC.slot]? = some (.int 0) ∧ Arr .byte s.heap.size V u ∧ V.vm = .none ∧ u.vm.findClass "[B" = some V.cls ∧ V.slots.size = len ∧ (∀ j, j < len → V.slots[j]? = some (.int (lo8 (cv A (o + j))))) ∧ (∀ (y : Addr) (c : Cell), y ≠ a → s.heap[y]? = some c → u.heap[y]? = some c) ∧ u.heap.size = s.heap.size + 1
theorem Got.mv {a : Addr} {D A : Cell} {fV fC : Field} {o len : Nat} : ∀ r (U U' V V' : State), U'.heap = U.heap → V.vm.Alike V'.vm → V'.heap = V.heap → Got a D fV fC A o len r U V → Got a D fV fC A o len r U' V' :=
  fun r U U' V V' h1 hal h2 ⟨e0, D', X, a1, a2, a3, a4, a5, a6, a7, a8, a9, a10, a11⟩ => ⟨e0, D', X, a1.mv hal h2, a2, by rw [h1]; exact a3, a4, by rw [h1]; exact a5.mv hal h2, a6, by rw [hal.findClass]; exact a7, a8, a9, by rw [h1, h2]; exact a10, by rw [h1, h2]; exact a11⟩
namespace New4
def yN : MethodName := ⟨"java/lang/String", "<init>", "([CIILjava/lang/Void;)V"⟩
abbrev yB : ByteArray := jdk_42_method_149_code
theorem d0 : decode yB 0 = .ok (.aload_n 0, 1) := by decide +kernel
theorem d1 : decode yB 1 = .ok (.invokespecial 1, 3) := by decide +kernel
theorem d4 : decode yB 4 = .ok (.iload_n 3, 1) := by decide +kernel
theorem d5 : decode yB 5 = .ok (.ifCond (.ne) 22, 3) := by decide +kernel
theorem d27 : decode yB 27 = .ok (.getstatic 38, 3) := by decide +kernel
theorem d30 : decode yB 30 = .ok (.ifCond (.eq) 28, 3) := by decide +kernel
theorem d33 : decode yB 33 = .ok (.aload_n 1, 1) := by decide +kernel
theorem d34 : decode yB 34 = .ok (.iload_n 2, 1) := by decide +kernel
theorem d35 : decode yB 35 = .ok (.iload_n 3, 1) := by decide +kernel
theorem d36 : decode yB 36 = .ok (.invokestatic 177, 3) := by decide +kernel
theorem d39 : decode yB 39 = .ok (.astore 5, 2) := by decide +kernel
theorem d41 : decode yB 41 = .ok (.aload_n 0, 1) := by decide +kernel
theorem d42 : decode yB 42 = .ok (.aload 5, 2) := by decide +kernel
theorem d44 : decode yB 44 = .ok (.iload_n 3, 1) := by decide +kernel
theorem d45 : decode yB 45 = .ok (.invokestatic 47, 3) := by decide +kernel
theorem d48 : decode yB 48 = .ok (.putfield 15, 3) := by decide +kernel
theorem d51 : decode yB 51 = .ok (.aload_n 0, 1) := by decide +kernel
theorem d52 : decode yB 52 = .ok (.aload 5, 2) := by decide +kernel
theorem d54 : decode yB 54 = .ok (.putfield 9, 3) := by decide +kernel
theorem d57 : decode yB 57 = .ok (.return_, 1) := by decide +kernel
def site : List Cond := [.fieldLink "java/lang/String" 38 "java/lang/String" "COMPACT_STRINGS" "Z", Cmp3.tab, CodL.tab, .laysFinal "java/lang/String" "java/lang/String" "value" "[B", .fieldLink "java/lang/String" 9 "java/lang/String" "value" "[B", .laysFinal "java/lang/String" "java/lang/String" "coder" "B", .fieldLink "java/lang/String" 15 "java/lang/String" "coder" "B"] ++ objW "java/lang/String" 1 ++ staticW "java/lang/String" 177 Cmp3.yN ++ staticW "java/lang/String" 47 CodL.yN
def tab : Cond := tabOf yN yB 6 none site
def P (a : Addr) (D : Cell) (fV fC : Field) (b : Addr) (A : Cell) (z : Int32) (o len : Nat) (args : Array Value) (s : State) : Prop := args = #[.ref a, .ref b, .int (Int32.ofNat o), .int (Int32.ofNat len), .null] ∧ Blank "java/lang/String" a D s ∧ Found "java/lang/String" "value" "[B" fV s ∧ Found "java/lang/String" "coder" "B" fC s ∧ Ch b A s ∧ StaticIs s "java/lang/String" "COMPACT_STRINGS" "Z" (.int z) ∧ ¬ z = 0 ∧ 0 < len ∧ o + len ≤ A.slots.size ∧ len ≤ 536870912 ∧ ∀ i, i < len → ¬ 255 < cv A (o + i)
def E (a : Addr) (D : Cell) (fV fC : Field) (A : Cell) (o len : Nat) (r : Option Value) (s u : State) : Prop := Got a D fV fC A o len r s u
/-- len > 0, no char of the range above 255: a Latin-1 String of their low bytes -/
theorem law (l : Launch) (a : Addr) (D : Cell) (fV fC : Field) (b : Addr) (A : Cell) (z : Int32) (o len : Nat) : Law l yN 5 4 2 35 yB 6 none site (P a D fV fC b A z o len) (E a D fV fC A o len) [⟨a, fC.slot⟩, ⟨a, fV.slot⟩] 1 len := by
  refine Law.of_walk (plainFor_of_name (by decide +kernel)) (by decide +kernel) (by decide +kernel) (by decide) (fun _ _ h => by rw [h.1]; rfl) (fun _ U U' hal hh h => ⟨h.1, h.2.1.mv hal hh, h.2.2.1.al hal, h.2.2.2.1.al hal, h.2.2.2.2.1.mv hal hh, h.2.2.2.2.2.1.there hal hh, h.2.2.2.2.2.2⟩) (fun r U U' V V' h1 hal h2 h => Got.mv r U U' V V' h1 hal h2 h) ?_
  intro p e s m args below meth c s₁ X0 hexec hbytes hml hret hlk hnm hown hh0 W hP
  obtain ⟨rfl, hB, f1, f2, hA, s1, hz, l0, l1, l2, hp⟩ := hP
  have a31 := hA.1.2.2.2
  have c1 : Steps p.tables e below (s₁.setTop (entryFrame m #[.ref a, .ref b, .int (Int32.ofNat o), .int (Int32.ofNat len), .null] 6)) (s₁.setTop (mkF m 0 #[.val (.ref a), .val (.ref b), .val (.int (Int32.ofNat o)), .val (.int (Int32.ofNat len)), .val .null, .unset] [])) := entry rfl
  have c2 : Steps p.tables e below (s₁.setTop (entryFrame m #[.ref a, .ref b, .int (Int32.ofNat o), .int (Int32.ofNat len), .null] 6)) (s₁.setTop (mkF m 1 #[.val (.ref a), .val (.ref b), .val (.int (Int32.ofNat o)), .val (.int (Int32.ofNat len)), .val .null, .unset] [.ref a])) := c1.trans (by
    refine XS.aloadN X0.here hexec rfl (hb hbytes d0) rfl rfl ?_
    exact Steps.refl _)
  obtain ⟨T3, X3, q3, st3⟩ := X0.oinit hexec hown (wks W (objW "java/lang/String" 1)) (g := (mkF m 1 #[.val (.ref a), .val (.ref b), .val (.int (Int32.ofNat o)), .val (.int (Int32.ofNat len)), .val .null, .unset] [.ref a])) rfl (by rw [hml]; rfl) (rest := []) rfl (hb hbytes d1) (W := 0) (by show 2 * 0 + 0 ≤ _; decide) (Nat.le_of_ble_eq_true rfl) (Nat.le_of_ble_eq_true rfl)
  have hh3 := q3.trans hh0
  have c4 : Steps p.tables e below (s₁.setTop (entryFrame m #[.ref a, .ref b, .int (Int32.ofNat o), .int (Int32.ofNat len), .null] 6)) (T3.setTop (mkF m 27 #[.val (.ref a), .val (.ref b), .val (.int (Int32.ofNat o)), .val (.int (Int32.ofNat len)), .val .null, .unset] [])) := (c2.trans (st3 _ (Steps.refl _))).trans (by
    refine XS.iloadN X3.here hexec rfl (hb hbytes d4) rfl ?_
    refine XS.ifYes X3.here hexec rfl (pc0 := 5) rfl (hb hbytes d5) rfl (i0_ne_t (nz32 (by omega) l0)) (by decide) rfl ?_
    exact Steps.refl _)
  obtain ⟨T5, X5, q5, st5⟩ := X3.sget hexec hown (wk W (.fieldLink "java/lang/String" 38 "java/lang/String" "COMPACT_STRINGS" "Z")) s1 (fun _ _ h => by rw [hh3]; exact h) (g := (mkF m 27 #[.val (.ref a), .val (.ref b), .val (.int (Int32.ofNat o)), .val (.int (Int32.ofNat len)), .val .null, .unset] [])) rfl (hb hbytes d27)
  have hh5 := q5.trans hh3
  have c6 : Steps p.tables e below (s₁.setTop (entryFrame m #[.ref a, .ref b, .int (Int32.ofNat o), .int (Int32.ofNat len), .null] 6)) (T5.setTop (mkF m 30 #[.val (.ref a), .val (.ref b), .val (.int (Int32.ofNat o)), .val (.int (Int32.ofNat len)), .val .null, .unset] [.int z])) := c4.trans (st5 _ (Steps.refl _))
  have c7 : Steps p.tables e below (s₁.setTop (entryFrame m #[.ref a, .ref b, .int (Int32.ofNat o), .int (Int32.ofNat len), .null] 6)) (T5.setTop (mkF m 36 #[.val (.ref a), .val (.ref b), .val (.int (Int32.ofNat o)), .val (.int (Int32.ofNat len)), .val .null, .unset] [.int (Int32.ofNat len), .int (Int32.ofNat o), .ref b])) := c6.trans (by
    refine XS.ifNo X5.here hexec rfl (hb hbytes d30) rfl (i0_eq_f hz) ?_
    refine XS.aloadN X5.here hexec rfl (hb hbytes d33) rfl rfl ?_
    refine XS.iloadN X5.here hexec rfl (hb hbytes d34) rfl ?_
    refine XS.iloadN X5.here hexec rfl (hb hbytes d35) rfl ?_
    exact Steps.refl _)
  obtain ⟨v8, T8, X8, E8, g8⟩ := X5.callS hexec (Cmp3.law l b A o len) hown (wks W (staticW "java/lang/String" 177 Cmp3.yN)) (wk W Cmp3.tab) (W := 0) (Nat.le_of_ble_eq_true rfl) (Nat.le_of_ble_eq_true rfl) (Nat.le_refl _) (by show 0 + len ≤ len; omega) (g := (mkF m 36 #[.val (.ref a), .val (.ref b), .val (.int (Int32.ofNat o)), .val (.int (Int32.ofNat len)), .val .null, .unset] [.int (Int32.ofNat len), .int (Int32.ofNat o), .ref b])) rfl (by rw [hml]; rfl) c7 (argsL := [.ref b, .int (Int32.ofNat o), .int (Int32.ofNat len)]) (rest := []) rfl rfl (by show 2 * 0 + 0 ≤ _; decide) (hb hbytes d36) (⟨rfl, hA.mv X5.warmed.alike hh5, l1, l2, hp⟩)
  obtain ⟨e8, z8⟩ := E8
  obtain ⟨rfl, N, n1, n2, n3, n4, n5, n6⟩ := NewArr.mv _ T5 s _ _ hh5.symm (Vm.Alike.refl _) rfl e8
  rw [hh5] at z8
  have hB1 := hB.keep X8.warmed.alike (n6 _ _ hB.1)
  have hne : s.heap.size ≠ a := (Nat.ne_of_lt (Array.getElem?_eq_some_iff.mp hB.1).1).symm
  have c9 : Steps p.tables e below (s₁.setTop (entryFrame m #[.ref a, .ref b, .int (Int32.ofNat o), .int (Int32.ofNat len), .null] 6)) (T8.setTop (mkF m 39 #[.val (.ref a), .val (.ref b), .val (.int (Int32.ofNat o)), .val (.int (Int32.ofNat len)), .val .null, .unset] [.ref s.heap.size])) := g8
  have c10 : Steps p.tables e below (s₁.setTop (entryFrame m #[.ref a, .ref b, .int (Int32.ofNat o), .int (Int32.ofNat len), .null] 6)) (T8.setTop (mkF m 45 #[.val (.ref a), .val (.ref b), .val (.int (Int32.ofNat o)), .val (.int (Int32.ofNat len)), .val .null, .val (.ref s.heap.size)] [.int (Int32.ofNat N.slots.size), .ref s.heap.size, .ref a])) := by
    have hc : Steps p.tables e below (s₁.setTop (entryFrame m #[.ref a, .ref b, .int (Int32.ofNat o), .int (Int32.ofNat len), .null] 6)) (T8.setTop (mkF m 45 #[.val (.ref a), .val (.ref b), .val (.int (Int32.ofNat o)), .val (.int (Int32.ofNat len)), .val .null, .val (.ref s.heap.size)] [.int (Int32.ofNat len), .ref s.heap.size, .ref a])) := c9.trans (by
      refine XS.astore X8.here hexec rfl (hb hbytes d39) rfl rfl rfl ?_
      refine XS.aloadN X8.here hexec rfl (hb hbytes d41) rfl rfl ?_
      refine XS.aload X8.here hexec rfl (hb hbytes d42) rfl rfl ?_
      refine XS.iloadN X8.here hexec rfl (hb hbytes d44) rfl ?_
      exact Steps.refl _)
    rw [n4]; exact hc
  obtain ⟨v11, T11, X11, E11, g11⟩ := X8.callS hexec (CodL.law l s.heap.size N) hown (wks W (staticW "java/lang/String" 47 CodL.yN)) (wk W CodL.tab) (W := 1) (Nat.le_of_ble_eq_true rfl) (Nat.le_of_ble_eq_true rfl) (Nat.le_refl _) (by show 0 + len + 0 ≤ len; omega) (g := (mkF m 45 #[.val (.ref a), .val (.ref b), .val (.int (Int32.ofNat o)), .val (.int (Int32.ofNat len)), .val .null, .val (.ref s.heap.size)] [.int (Int32.ofNat N.slots.size), .ref s.heap.size, .ref a])) rfl (by rw [hml]; rfl) c10 (argsL := [.ref s.heap.size, .int (Int32.ofNat N.slots.size)]) (rest := [.ref a]) rfl rfl (by show 2 * 0 + (1 + 0) ≤ _; decide) (hb hbytes d45) (⟨rfl, n1⟩)
  obtain ⟨rfl, q11⟩ := E11
  have hB11 := hB1.mv (X8.warmed.alike.symm.trans X11.warmed.alike) q11
  have c12 : Steps p.tables e below (s₁.setTop (entryFrame m #[.ref a, .ref b, .int (Int32.ofNat o), .int (Int32.ofNat len), .null] 6)) (T11.setTop (mkF m 48 #[.val (.ref a), .val (.ref b), .val (.int (Int32.ofNat o)), .val (.int (Int32.ofNat len)), .val .null, .val (.ref s.heap.size)] [.int 0, .ref a])) := g11
  obtain ⟨T13, X13, p13, bl13, sl13, st13⟩ := X11.finit hexec hown (wk W (.fieldLink "java/lang/String" 15 "java/lang/String" "coder" "B")) (Or.inr ⟨_, (wk W (.laysFinal "java/lang/String" "java/lang/String" "coder" "B"))⟩) (Or.inl ⟨rfl, hnm⟩) f2 (Or.inl rfl) hB11 (t := .byte) (by decide +kernel) rfl (g := (mkF m 48 #[.val (.ref a), .val (.ref b), .val (.int (Int32.ofNat o)), .val (.int (Int32.ofNat len)), .val .null, .val (.ref s.heap.size)] [.int 0, .ref a])) rfl (rest := []) rfl (hb hbytes d48)
  have c14 : Steps p.tables e below (s₁.setTop (entryFrame m #[.ref a, .ref b, .int (Int32.ofNat o), .int (Int32.ofNat len), .null] 6)) (T13.setTop (mkF m 54 #[.val (.ref a), .val (.ref b), .val (.int (Int32.ofNat o)), .val (.int (Int32.ofNat len)), .val .null, .val (.ref s.heap.size)] [.ref s.heap.size, .ref a])) := (c12.trans (st13 _ (Steps.refl _))).trans (by
    refine XS.aloadN X13.here hexec rfl (hb hbytes d51) rfl rfl ?_
    refine XS.aload X13.here hexec rfl (hb hbytes d52) rfl rfl ?_
    exact Steps.refl _)
  obtain ⟨T15, X15, p15, bl15, sl15, st15⟩ := X13.finit hexec hown (wk W (.fieldLink "java/lang/String" 9 "java/lang/String" "value" "[B")) (Or.inr ⟨_, (wk W (.laysFinal "java/lang/String" "java/lang/String" "value" "[B"))⟩) (Or.inl ⟨rfl, hnm⟩) f1 (Or.inl rfl) bl13 (t := (.array .byte)) (by decide +kernel) rfl (g := (mkF m 54 #[.val (.ref a), .val (.ref b), .val (.int (Int32.ofNat o)), .val (.int (Int32.ofNat len)), .val .null, .val (.ref s.heap.size)] [.ref s.heap.size, .ref a])) rfl (rest := []) rfl (hb hbytes d54)
  have c16 : Steps p.tables e below (s₁.setTop (entryFrame m #[.ref a, .ref b, .int (Int32.ofNat o), .int (Int32.ofNat len), .null] 6)) (T15.setTop (mkF m 57 #[.val (.ref a), .val (.ref b), .val (.int (Int32.ofNat o)), .val (.int (Int32.ofNat len)), .val .null, .val (.ref s.heap.size)] [])) := c14.trans (st15 _ (Steps.refl _))
  have ap := apart (Or.inr ⟨_, (wk W (.laysFinal "java/lang/String" "java/lang/String" "value" "[B"))⟩) (Or.inr ⟨_, (wk W (.laysFinal "java/lang/String" "java/lang/String" "coder" "B"))⟩) f1 f2 (t₁ := .array .byte) (t₂ := .byte) (by decide +kernel) (by decide +kernel) (by decide)
  have al := X8.warmed.alike.symm.trans X15.warmed.alike
  have n7 : T11.heap[s.heap.size]? = some N := by rw [q11]; exact n1.1
  exact ⟨T15, none, _, _, _, X15, by simp, rfl, by omega, (fun _ => rfl), ⟨rfl, _, N, bl15, ((Same.refl D _).set _ (by simp)).set _ (by simp), sl15, (Cell.slots_setSlot_ne _ ap).trans sl13, n1.keep al (p15.other hne (p13.other hne n7)), n2, by rw [al.findClass]; exact n3, n4, n5, fun y c h1 h2 => p15.other h1 (p13.other h1 (by rw [q11]; exact n6 y c h2)), by rw [p15.2.2, p13.2.2, q11]; exact z8⟩, fun fs hl => c16.trans (X15.returnOut hexec hret (hb hbytes d57) hl)⟩
end New4
namespace New1
def yN : MethodName := ⟨"java/lang/String", "<init>", "([C)V"⟩
abbrev yB : ByteArray := jdk_42_method_3_code
theorem d0 : decode yB 0 = .ok (.aload_n 0, 1) := by decide +kernel
theorem d1 : decode yB 1 = .ok (.aload_n 1, 1) := by decide +kernel
theorem d2 : decode yB 2 = .ok (.iconst 0, 1) := by decide +kernel
theorem d3 : decode yB 3 = .ok (.aload_n 1, 1) := by decide +kernel
theorem d4 : decode yB 4 = .ok (.arraylength, 1) := by decide +kernel
theorem d5 : decode yB 5 = .ok (.aconst_null, 1) := by decide +kernel
theorem d6 : decode yB 6 = .ok (.invokespecial 27, 3) := by decide +kernel
theorem d9 : decode yB 9 = .ok (.return_, 1) := by decide +kernel
def site : List Cond := [New4.tab] ++ initW "java/lang/String" 27 New4.yN
def tab : Cond := tabOf yN yB 2 none site
def P (a : Addr) (D : Cell) (fV fC : Field) (b : Addr) (A : Cell) (z : Int32) (args : Array Value) (s : State) : Prop := args = #[.ref a, .ref b] ∧ Blank "java/lang/String" a D s ∧ Found "java/lang/String" "value" "[B" fV s ∧ Found "java/lang/String" "coder" "B" fC s ∧ Ch b A s ∧ StaticIs s "java/lang/String" "COMPACT_STRINGS" "Z" (.int z) ∧ ¬ z = 0 ∧ 0 < A.slots.size ∧ A.slots.size ≤ 536870912 ∧ ∀ i, i < A.slots.size → ¬ 255 < cv A i
def E (a : Addr) (D : Cell) (fV fC : Field) (A : Cell) (r : Option Value) (s u : State) : Prop := Got a D fV fC A 0 A.slots.size r s u
/-- new String(chars), not empty, no char above 255: a Latin-1 String of their low bytes -/
theorem law (l : Launch) (a : Addr) (D : Cell) (fV fC : Field) (b : Addr) (A : Cell) (z : Int32) : Law l yN 2 1 3 52 yB 2 none site (P a D fV fC b A z) (E a D fV fC A) [⟨a, fC.slot⟩, ⟨a, fV.slot⟩] 1 A.slots.size := by
  refine Law.of_walk (plainFor_of_name (by decide +kernel)) (by decide +kernel) (by decide +kernel) (by decide) (fun _ _ h => by rw [h.1]; rfl) (fun _ U U' hal hh h => ⟨h.1, h.2.1.mv hal hh, h.2.2.1.al hal, h.2.2.2.1.al hal, h.2.2.2.2.1.mv hal hh, h.2.2.2.2.2.1.there hal hh, h.2.2.2.2.2.2⟩) (fun r U U' V V' h1 hal h2 h => Got.mv r U U' V V' h1 hal h2 h) ?_
  intro p e s m args below meth c s₁ X0 hexec hbytes hml hret hlk hnm hown hh0 W hP
  obtain ⟨rfl, hB, f1, f2, hA, s1, hz, l0, l2, hp⟩ := hP
  have c1 : Steps p.tables e below (s₁.setTop (entryFrame m #[.ref a, .ref b] 2)) (s₁.setTop (mkF m 0 #[.val (.ref a), .val (.ref b)] [])) := entry rfl
  have c2 : Steps p.tables e below (s₁.setTop (entryFrame m #[.ref a, .ref b] 2)) (s₁.setTop (mkF m 6 #[.val (.ref a), .val (.ref b)] [.null, .int (Int32.ofNat A.slots.size), .int 0, .ref b, .ref a])) := c1.trans (by
    refine XS.aloadN X0.here hexec rfl (hb hbytes d0) rfl rfl ?_
    refine XS.aloadN X0.here hexec rfl (hb hbytes d1) rfl rfl ?_
    refine iconstV X0.here hexec rfl 0 (hb hbytes d2) (by decide) ?_
    refine XS.aloadN X0.here hexec rfl (hb hbytes d3) rfl rfl ?_
    refine X0.alen hexec (hA.1.mv X0.warmed.alike hh0) rfl rfl (hb hbytes d4) ?_
    refine XS.aconstNull X0.here hexec rfl (hb hbytes d5) ?_
    exact Steps.refl _)
  obtain ⟨v3, T3, X3, E3, g3⟩ := X0.callN hexec (New4.law l a D fV fC b A z 0 A.slots.size) rfl hown (wks W (initW "java/lang/String" 27 New4.yN)) (W New4.tab (by simp only [site, List.mem_cons, List.mem_append, true_or, or_true])) (W := 0) (Nat.le_of_ble_eq_true rfl) (Nat.le_of_ble_eq_true rfl) (Nat.le_refl _) (by show 0 + A.slots.size ≤ A.slots.size; omega) (g := (mkF m 6 #[.val (.ref a), .val (.ref b)] [.null, .int (Int32.ofNat A.slots.size), .int (Int32.ofNat 0), .ref b, .ref a])) rfl (by rw [hml]; rfl) c2 (argsL := [.ref b, .int (Int32.ofNat 0), .int (Int32.ofNat A.slots.size), .null]) (rest := []) rfl rfl (by show 2 * 0 + 0 ≤ _; decide) (hb hbytes d6) (⟨rfl, hB.mv X0.warmed.alike hh0, f1.al X0.warmed.alike, f2.al X0.warmed.alike, hA.mv X0.warmed.alike hh0, s1.there X0.warmed.alike hh0, hz, l0, by omega, l2, fun i hi => by rw [Nat.zero_add]; exact hp i hi⟩)
  have e0 := Got.mv _ s₁ s _ _ hh0.symm (Vm.Alike.refl _) rfl E3
  obtain rfl := e0.1
  have c4 : Steps p.tables e below (s₁.setTop (entryFrame m #[.ref a, .ref b] 2)) (T3.setTop (mkF m 9 #[.val (.ref a), .val (.ref b)] [])) := g3
  exact ⟨T3, none, _, _, _, X3, by simp, rfl, by omega, (fun _ => rfl), e0, fun fs hl => c4.trans (X3.returnOut hexec hret (hb hbytes d9) hl)⟩
theorem pays {l : Launch} {R : Room} {p : Program} {e : Env} {below : List Frame} {s : State} {sargs : Array Value} {len W : Nat} (a : Addr) (D : Cell) (fV fC : Field) (b : Addr) (A : Cell) (z : Int32) (htab : tab.before sargs s = true) (hfr : 4 ≤ R.frames) (hlo : W + 65 ≤ R.locals) :
    Back l R p e below s sargs yN len W (fun A₁ a₁ => A₁.cells + 1 ≤ R.cells ∧ A₁.slots + A.slots.size ≤ R.slots ∧ P a D fV fC b A z a₁ A₁.U) (fun A₁ _ v₁ B₁ => E a D fV fC A v₁ A₁.U B₁.U ∧ B₁.locs = A₁.locs ++ [⟨a, fC.slot⟩, ⟨a, fV.slot⟩] ∧ B₁.cells = A₁.cells + 1 ∧ B₁.slots = A₁.slots + A.slots.size) :=
  (law l a D fV fC b A z).pays htab hfr (by omega)
end New1
end StrChars
namespace StrChars.Road
open Jvm Sem ClassFile Op Lib Jvm.Stand Jvm.Free Jvm.Free.XT
open Jvm.Lib.Cold (StaticIs)
abbrev ST : String := "java/lang/String"
/-- every table word that New1's law asks, flat -/
abbrev words : List Jvm.Cond := [.code New1.yN New1.yB 2 none, .initialized ST, .methodLink ST 27 New4.yN, .instanceMethod New4.yN,
  .code New4.yN New4.yB 6 none, .fieldLink ST 38 ST "COMPACT_STRINGS" "Z", .laysFinal ST ST "value" "[B", .fieldLink ST 9 ST "value" "[B", .laysFinal ST ST "coder" "B", .fieldLink ST 15 ST "coder" "B",
  .methodLink ST 1 Lib.objectInit, .instanceMethod Lib.objectInit, .code Lib.objectInit ⟨#[0xb1]⟩ 1 none, .methodLink ST 177 Cmp3.yN, .static Cmp3.yN, .methodLink ST 47 CodL.yN, .static CodL.yN,
  .code Cmp3.yN Cmp3.yB 6 (some (.array .byte)), .initialized U16, .arrayClass .byte, .methodLink U16 115 Cmp5.yN, .static Cmp5.yN, .code Cmp5.yN Cmp5.yB 7 (some .int), .code CodL.yN CodL.yB 2 (some .byte)]
theorem tab_of {a : Array Value} {s : State} (h : ∀ w ∈ words, w.before a s = true) : New1.tab.before a s = true := by
  have h5 : Cmp5.tab.before a s = true := unparts (wk h (.code Cmp5.yN Cmp5.yB 7 (some .int))) (wks h (.initialized Cmp5.yN.cls :: Cmp5.site))
  have hc : CodL.tab.before a s = true := unparts (wk h (.code CodL.yN CodL.yB 2 (some .byte))) (wks h (.initialized CodL.yN.cls :: CodL.site))
  have q5 : ∀ w ∈ Cmp5.tab :: words, w.before a s = true := fun w hw => (List.mem_cons.mp hw).elim (fun e => e ▸ h5) (h w)
  have h3 : Cmp3.tab.before a s = true := unparts (wk q5 (.code Cmp3.yN Cmp3.yB 6 (some (.array .byte)))) (wks q5 (.initialized Cmp3.yN.cls :: Cmp3.site))
  have q3 : ∀ w ∈ Cmp3.tab :: CodL.tab :: words, w.before a s = true := fun w hw => (List.mem_cons.mp hw).elim (fun e => e ▸ h3) fun hw => (List.mem_cons.mp hw).elim (fun e => e ▸ hc) (h w)
  have h4 : New4.tab.before a s = true := unparts (wk q3 (.code New4.yN New4.yB 6 none)) (wks q3 (.initialized New4.yN.cls :: New4.site))
  have q4 : ∀ w ∈ New4.tab :: words, w.before a s = true := fun w hw => (List.mem_cons.mp hw).elim (fun e => e ▸ h4) (h w)
  exact unparts (wk q4 (.code New1.yN New1.yB 2 none)) (wks q4 (.initialized New1.yN.cls :: New1.site))
/-- the words ride from the start Z to the walk's own state -/
theorem moved {Z s : State} {a0 args : Array Value} (hZ : Z.Warmed39 s.vm) (hw : ∀ d ∈ words, d.before a0 Z = true) : ∀ d ∈ words, d.before args s = true := fun d hd => by
  have q := hw d hd
  have t : ∀ d ∈ words, d = .arrayClass .byte ∨ (d.onTables && d.keepsFace) = true := by decide +kernel
  rcases t d hd with rfl | t
  · exact RoadKit.mvA hZ q
  · exact RoadKit.mv hZ q t
/-- WHAT COMES BACK, over the tables of the start Z: h the heap at the call, h' behind it -/
def Q (Z : State) (x : Addr) (A : Cell) (h : Heap) (v : Option Value) (h' : Heap) (L : List Loc) : Prop := v = none ∧ (∀ y ∈ L, y.base = x) ∧ RoadKit.Keep h h' [x] ∧ h'.size = h.size + 1 ∧ RoadKit.Exa Z h' x ST ∧ RoadKit.Fld Z h' x ST "value" "[B" (.ref h.size) ∧ RoadKit.Fld Z h' x ST "coder" "B" (.int 0) ∧
  (∃ V : Cell, RoadKit.Arr Z h' h.size V .byte ∧ V.vm = .none ∧ Z.vm.findClass "[B" = some V.cls ∧ V.slots.size = A.slots.size ∧ ∀ j, j < A.slots.size → V.slots[j]? = some (.int (lo8 (cv A j)))) ∧
  ∀ (O n d : String) (w : Value), RoadKit.Fld Z h x O n d w → RoadKit.slotOf Z O n d ≠ RoadKit.slotOf Z ST "value" "[B" → RoadKit.slotOf Z O n d ≠ RoadKit.slotOf Z ST "coder" "B" → RoadKit.Fld Z h' x O n d w
/-- **new String(chars) AT A CALL, IN THE ROAD'S FORM**: for specialBack behind newO: x the fresh String, b the char[] with the cell A -/
theorem back {p : Program} {l : Launch} {e : Env} {R : Room} {s : State} {args : Array Value} {below : List Frame} {len W : Nat} {Z : State} {a0 : Array Value} {h : Heap} (hZ : Z.Warmed39 s.vm) (hw : ∀ d ∈ words, d.before a0 Z = true) {kI : Nat} (wi : (Jvm.Cond.instantiable ST kI).before a0 Z = true)
    {x b : Addr} {A : Cell} {z : Int32} {v0 c0 : Value} (E : RoadKit.Exa Z h x ST) (V : RoadKit.Fld Z h x ST "value" "[B" v0) (C : RoadKit.Fld Z h x ST "coder" "B" c0) (K : RoadKit.Arr Z h b A .char) (hty : Typed .char A) (S : RoadKit.Sta Z h ST "COMPACT_STRINGS" "Z" (.int z)) (hz : ¬ z = 0)
    (l0 : 0 < A.slots.size) (l2 : A.slots.size ≤ 536870912) (hp : ∀ i, i < A.slots.size → ¬ 255 < cv A i) (hfr : 4 ≤ R.frames) (hlo : W + 65 ≤ R.locals) :
    Back l R p e below s args New1.yN len W (fun P a => a = #[.ref x, .ref b] ∧ P.U.heap = h ∧ P.cells + 1 ≤ R.cells ∧ P.slots + A.slots.size ≤ R.slots)
      (fun P _ v B => ∃ L, Q Z x A h v B.U.heap L ∧ B.locs = P.locs ++ L ∧ B.cells = P.cells + 1 ∧ B.slots = P.slots + A.slots.size) := by
  intro m meth c P g ig mk a X hg hsize hdg hW hn hp'
  obtain ⟨rfl, rfl, r1, r2⟩ := hp'
  have al : Z.vm.Alike P.U.vm := hZ.alike.trans X.warmed.alike
  obtain ⟨D, cfV, kV, iV, fV, hD, gV, stV, knV, obV, asV, slV⟩ := id V
  obtain ⟨D', cfC, kC, iC, fC, hD', gC, stC, -, -, asC, slC⟩ := id C
  cases hD.symm.trans hD'
  obtain ⟨D2, kD, e1, e2, e3, e4, e5⟩ := id E
  cases hD.symm.trans e1
  obtain ⟨c2, k2, i1, i2, i3, -⟩ := Cond.instantiable_spec wi
  cases e2.symm.trans i1
  cases e3.symm.trans i2
  obtain ⟨kU, u1, u2⟩ := al.2.2 _ _ e3
  have hB : Blank ST x D P.U := ⟨hD, ⟨knV, fun q hq => by rw [hq] at obV; cases obV⟩, by rw [al.findClass]; exact e2, kU, u1, by rw [u2]; exact i3, by rw [u2]; exact e5 i3⟩
  have F1 : Found ST "value" "[B" fV P.U := ⟨SBG.found_only al ⟨cfV, kV, iV, gV⟩, stV⟩
  have F2 : Found ST "coder" "B" fC P.U := ⟨SBG.found_only al ⟨cfC, kC, iC, gC⟩, stC⟩
  have hA : Ch b A P.U := ⟨⟨K.1, State.isArrayOf_alike al K.2.1, K.2.2, by omega⟩, hty⟩
  have hS : StaticIs P.U ST "COMPACT_STRINGS" "Z" (.int z) := by
    obtain ⟨cfS, iS, kS, fS, st, cS, t1, t2, t3, t4, t5, t6, t7⟩ := S
    exact StaticIs.there (s := { Z with heap := P.U.heap }) ⟨cfS, iS, kS, fS, st, cS, t1, t2, t3, t4, t5, (fun q => by rw [q] at t6; cases t6), t7⟩ al rfl
  obtain ⟨v, B, X', ⟨⟨hv, E', V', q1, q2, q3, q4, q5, q6, q7, q8, q9, q10, q11⟩, hl, hc, hs⟩, st⟩ := New1.pays x D fV fC b A z (tab_of (moved hZ hw)) hfr hlo m meth c P g ig mk _ X hg hsize hdg hW hn ⟨r1, r2, rfl, hB, F1, F2, hA, hS, hz, l0, l2, hp⟩
  have al' : Z.vm.Alike B.U.vm := hZ.alike.trans X'.warmed.alike
  have hsz : E'.slots.size = D.slots.size := by
    obtain ⟨-, -, -, kB, w1, w2, w3⟩ := q1
    obtain ⟨kB', y1, y2⟩ := al'.2.2 _ _ e3
    rw [q2.2.1] at w1
    cases w1.symm.trans y1
    rw [w3, e5 i3, y2]
  refine ⟨v, B, X', ⟨_, ⟨hv, ?_, ⟨by omega, fun y cy hy hn' => q10 y cy (by simpa using hn') hy, fun y cy hy => ?_⟩, q11, ⟨E', _, q1.1, by rw [q2.2.1]; exact e2, by rw [q2.2.1]; exact e3, by rw [q2.1]; exact obV, fun _ => by rw [hsz]; exact e5 i3⟩,
    ⟨E', cfV, kV, iV, fV, q1.1, gV, stV, by rw [q2.1]; exact knV, by rw [q2.1]; exact obV, by rw [q2.2.1]; exact asV, q3⟩, ⟨E', cfC, kC, iC, fC, q1.1, gC, stC, by rw [q2.1]; exact knV, by rw [q2.1]; exact obV, by rw [q2.2.1]; exact asC, q4⟩,
    ⟨V', ⟨q5.1, State.isArrayOf_alike al'.symm q5.2.1, q5.2.2.1⟩, q6, by rw [← al'.findClass]; exact q7, q8, fun j hj => by have := q9 j hj; rwa [Nat.zero_add] at this⟩, fun O n d w F n1 n2 => ?_⟩, hl, hc, hs⟩, st⟩
  · intro y hy
    simp only [List.mem_cons, List.not_mem_nil, or_false] at hy
    rcases hy with rfl | rfl <;> rfl
  · by_cases q : y = x
    · subst q
      cases hD.symm.trans hy
      exact ⟨E', q1.1, q2.2.1, q2.1, hsz⟩
    · exact ⟨cy, q10 y cy q hy, rfl, rfl, rfl⟩
  · obtain ⟨D3, cf, k, i, f, g1, g2, g3, g4, g5, g6, g7⟩ := F
    cases hD.symm.trans g1
    simp only [RoadKit.slotOf, g2, gV, gC, Option.map_some, Option.getD_some] at n1 n2
    exact ⟨E', cf, k, i, f, q1.1, g2, g3, by rw [q2.1]; exact g4, by rw [q2.1]; exact g5, by rw [q2.2.1]; exact g6, by rw [q2.2.2 f.slot (by simp [n1, n2])]; exact g7⟩
end StrChars.Road
namespace StrChars.Road
open Jvm Sem ClassFile Op Lib Jvm.Stand Jvm.Free Jvm.Free.XT
/-- WHAT COMES BACK, the byte[] as a list of values -/
def QA (Z : State) (x : Addr) (zn : Int32) (cs : List Int32) (h : Heap) (v : Option Value) (h' : Heap) (L : List Loc) : Prop := v = none ∧ (∀ y ∈ L, y.base = x) ∧ RoadKit.Keep h h' [x] ∧ h'.size = h.size + 1 ∧ RoadKit.Exa Z h' x ST ∧ RoadKit.Fld Z h' x ST "value" "[B" (.ref h.size) ∧ RoadKit.Fld Z h' x ST "coder" "B" (.int 0) ∧
  (∃ kb, Z.vm.findClass "[B" = some kb ∧ RoadKit.Arv Z h' h.size kb .byte zn (cs.map fun c => .int (lo8 c)) (.int 0)) ∧
  ∀ (O n d : String) (w : Value), RoadKit.Fld Z h x O n d w → RoadKit.slotOf Z O n d ≠ RoadKit.slotOf Z ST "value" "[B" → RoadKit.slotOf Z O n d ≠ RoadKit.slotOf Z ST "coder" "B" → RoadKit.Fld Z h' x O n d w
/-- **new String(chars) AT A CALL, THE ARRAYS AS LISTS**: the char[] at b holds cs, not empty, no char above 255 -/
theorem backArv {p : Program} {l : Launch} {e : Env} {R : Room} {s : State} {args : Array Value} {below : List Frame} {len W : Nat} {Z : State} {a0 : Array Value} {h : Heap} (hZ : Z.Warmed39 s.vm) (hw : ∀ d ∈ words, d.before a0 Z = true) {kI : Nat} (wi : (Jvm.Cond.instantiable ST kI).before a0 Z = true)
    {x b : Addr} {k : ClassId} {zn z : Int32} {cs : List Int32} {dv v0 c0 : Value} (E : RoadKit.Exa Z h x ST) (V : RoadKit.Fld Z h x ST "value" "[B" v0) (C : RoadKit.Fld Z h x ST "coder" "B" c0) (K : RoadKit.Arv Z h b k .char zn (cs.map Value.int) dv) (S : RoadKit.Sta Z h ST "COMPACT_STRINGS" "Z" (.int z)) (hz : ¬ z = 0)
    (hlen : zn.toNatClampNeg = cs.length) (h0 : 0 < cs.length) (hbig : cs.length ≤ 536870912) (hall : ∀ c ∈ cs, ¬ 255 < c) (hfr : 4 ≤ R.frames) (hlo : W + 65 ≤ R.locals) :
    Back l R p e below s args New1.yN len W (fun P a => a = #[.ref x, .ref b] ∧ P.U.heap = h ∧ P.cells + 1 ≤ R.cells ∧ P.slots + cs.length ≤ R.slots)
      (fun P _ v B => ∃ L, QA Z x zn cs h v B.U.heap L ∧ B.locs = P.locs ++ L ∧ B.cells = P.cells + 1 ∧ B.slots = P.slots + cs.length) := by
  obtain ⟨A, K1, K2, K3, K4, K5, K6⟩ := K
  have e : A.slots.size = cs.length := K3.trans hlen
  have hat : ∀ (i : Nat) (hi : i < cs.length), A.slots[i]? = some (.int cs[i]) := fun i hi => by rw [K5 i (by omega)]; simp [List.getD_eq_getElem?_getD, hi]
  have hcv : ∀ (i : Nat) (hi : i < cs.length), cv A i = cs[i] := fun i hi => by unfold cv; rw [hat i hi]
  have hty : Typed .char A := fun i v hv => by
    have hi : i < A.slots.size := (Array.getElem?_eq_some_iff.mp hv).1
    have q := K5 i hi
    rw [hv] at q
    rw [Option.some.inj q]
    exact K6 i hi
  refine Back.mono (back hZ hw wi E V C K1 hty S hz (by omega) (by omega) (fun i hi => by rw [hcv i (by omega)]; exact hall _ (List.getElem_mem _)) hfr hlo) (fun P a hp => ⟨hp.1, hp.2.1, hp.2.2.1, by rw [e]; exact hp.2.2.2⟩) (fun P a v B hp hq => ?_)
  obtain ⟨L, ⟨q1, q2, q3, q4, q5, q6, q7, ⟨V', v1, v2, v3, v4, v5⟩, q9⟩, hl, hc, hs⟩ := hq
  refine ⟨L, ⟨q1, q2, q3, q4, q5, q6, q7, ⟨V'.cls, v3, V', v1, rfl, by rw [v4, e, hlen], K4, fun i hi => ?_, fun i hi => ?_⟩, q9⟩, hl, hc, by rw [hs, e]⟩
  · have hi' : i < cs.length := by omega
    rw [v5 i (by omega), hcv i hi']; simp [List.getD_eq_getElem?_getD, hi']
  · have hi' : i < cs.length := by omega
    simp only [List.getD_eq_getElem?_getD, List.getElem?_map, List.getElem?_eq_getElem hi', Option.map_some, Option.getD_some]
    exact fits_lo8 _
end StrChars.Road
namespace StrChars.Road
open Jvm Sem ClassFile Op Lib Jvm.Stand Jvm.Free Jvm.Free.XT
/-- WHAT COMES BACK, in the writer's own shape -/
def QV (Z : State) (x : Addr) (N : Int32) (bs : List Int32) (h : Heap) (n0 : Nat) (v : Option Value) (h' : Heap) (L : List Loc) : Prop := v = none ∧ RoadKit.Fr n0 L ∧ RoadKit.Keep h h' [x] ∧ RoadKit.Exa Z h' x ST ∧ RoadKit.Fld Z h' x ST "coder" "B" (.int 0) ∧
  ∃ (t : Addr) (kb : ClassId), n0 ≤ t ∧ h.size ≤ t ∧ ¬ t = x ∧ RoadKit.Fld Z h' x ST "value" "[B" (.ref t) ∧ RoadKit.Arv Z h' t kb .byte N (bs.map Value.int) (.int 0)
/-- **new String(chars) AT A CALL, FOR THE WRITER**: a char[] of n known ints, each 0 to 255 -/
theorem backV {p : Program} {l : Launch} {e : Env} {R : Room} {s : State} {args : Array Value} {below : List Frame} {len W : Nat} {Z : State} {a0 : Array Value} {h : Heap} (hZ : Z.Warmed39 s.vm) (hw : ∀ d ∈ words, d.before a0 Z = true) {kI : Nat} (wi : (Jvm.Cond.instantiable ST kI).before a0 Z = true)
    {x b : Addr} {kC : ClassId} {cs bs : List Int32} {d v0 c0 : Value} {z N : Int32} {n n0 : Nat} (hx0 : n0 ≤ x) (hh0 : n0 ≤ h.size) (E : RoadKit.Exa Z h x ST) (V : RoadKit.Fld Z h x ST "value" "[B" v0) (C : RoadKit.Fld Z h x ST "coder" "B" c0) (K : RoadKit.Arv Z h b kC .char N (cs.map Value.int) d) (S : RoadKit.Sta Z h ST "COMPACT_STRINGS" "Z" (.int z)) (hz : ¬ z = 0)
    (hn : cs.length = n) (hN : N = Int32.ofNat n) (l0 : 0 < n) (l2 : n ≤ 4000) (hp : ∀ c ∈ cs, ¬ c < 0 ∧ ¬ (255 : Int32) < c) (hb : bs = cs.map (fun c => c.toInt8.toInt32)) (hfr : 4 ≤ R.frames) (hlo : W + 65 ≤ R.locals) :
    Back l R p e below s args (⟨"java/lang/String", "<init>", "([C)V"⟩ : MethodName) len W (fun P a => a = #[.ref x, .ref b] ∧ P.U.heap = h ∧ P.cells + 1 ≤ R.cells ∧ P.slots + n ≤ R.slots)
      (fun P _ v B => ∃ L, QV Z x N bs h n0 v B.U.heap L ∧ B.locs = P.locs ++ L ∧ B.cells = P.cells + 1 ∧ B.slots = P.slots + n) := by
  subst hn hN hb
  refine Back.mono (backArv hZ hw wi E V C K S hz (n32 (by omega)) l0 (by omega) (fun c hc => (hp c hc).2) hfr hlo) (fun P a hp => hp) (fun P a v B hp hq => ?_)
  obtain ⟨L, ⟨q1, q2, q3, q4, q5, q6, q7, ⟨kb, v1, v2⟩, q9⟩, hl, hc, hs⟩ := hq
  exact ⟨L, ⟨q1, fun y hy => by rw [q2 y hy]; exact hx0, q3, q5, q7, h.size, kb, hh0, Nat.le_refl _, Nat.ne_of_gt E.lt, q6, by rw [List.map_map]; exact v2⟩, hl, hc, hs⟩
end StrChars.Road
end Jvm.Pilot.@@N@@
namespace Jvm.Pilot.@@N@@
open Jvm Jvm.ClassFile Sem Op Lib Jvm.Free Jvm.Stand Jvm.LawKit Jvm.RoadKit Jvm.OwnW Bundle Jvm.Pilot.@@N@@.Jvm.D
def own_b0 (z : Int32) : Int32 := (z >>> ((0 : Int32) &&& 31)).toInt8.toInt32
def own_b1 (z : Int32) : Int32 := (z >>> ((8 : Int32) &&& 31)).toInt8.toInt32
theorem own_join0 {z : Int32} : (((own_b0 z &&& (255 : Int32)) <<< ((0 : Int32) &&& 31)) ||| ((own_b1 z &&& (255 : Int32)) <<< ((8 : Int32) &&& 31))).toUInt32.toUInt16.toUInt32.toInt32 = z.toUInt32.toUInt16.toUInt32.toInt32 := by
  apply Int32.toBitVec_inj.mp
  have e : ∀ w : Int32, (w.toUInt32.toUInt16.toUInt32.toInt32).toBitVec = (w.toBitVec.setWidth 16).setWidth 32 := fun _ => rfl
  rw [e, e]
  congr 1
  have h8 : ((8 : Int32) &&& 31) = 8 := by decide
  have h0 : ((0 : Int32) &&& 31) = 0 := by decide
  have hb0 : (own_b0 z).toBitVec = (z.toBitVec.signExtend 8).signExtend 32 := by
    simp [own_b0, h0]
  have hb1 : (own_b1 z).toBitVec = ((z.toBitVec.sshiftRight 8).signExtend 8).signExtend 32 := by
    simp [own_b1, h8]
  apply BitVec.eq_of_getLsbD_eq
  intro i hi
  rw [h0, h8]
  have k255 : ∀ j, j < 32 → ((255 : Int32).toBitVec).getLsbD j = decide (j < 8) := by decide
  have s0 : (0 : Int32).toBitVec.smod 32 = 0#32 := by decide
  have s8 : (8 : Int32).toBitVec.smod 32 = 8#32 := by decide
  simp only [Int32.toBitVec_or, Int32.toBitVec_shiftLeft, Int32.toBitVec_and, hb0, hb1, s0, s8]
  simp only [BitVec.getLsbD_setWidth, BitVec.getLsbD_or, BitVec.getLsbD_and, BitVec.shiftLeft_eq', BitVec.getLsbD_shiftLeft, BitVec.toNat_ofNat]
  have i32 : i < 32 := by omega
  have m0 : 0 % 2 ^ 32 = 0 := by decide
  have m8 : 8 % 2 ^ 32 = 8 := by decide
  rw [m0, m8, Nat.sub_zero, k255 i i32, k255 (i - 8) (by omega)]
  by_cases hi8 : i < 8
  · simp [BitVec.getLsbD_signExtend, hi8, i32, hi, -BitVec.getLsbD_eq_getElem]
  · have h2 : i - 8 < 32 := by omega
    have h3 : i - 8 < 8 := by omega
    have h4 : 8 + (i - 8) = i := by omega
    have h5 : i - 8 < 16 := by omega
    simp [BitVec.getLsbD_signExtend, BitVec.getLsbD_sshiftRight, hi8, i32, hi, h2, h3, h4, -BitVec.getLsbD_eq_getElem]
theorem own_join {z v : Int32} (h : Chr z) (hv : v = (((own_b0 z &&& (255 : Int32)) <<< ((0 : Int32) &&& 31)) ||| ((own_b1 z &&& (255 : Int32)) <<< ((8 : Int32) &&& 31))).toUInt32.toUInt16.toUInt32.toInt32) : z = v := (hv.trans (own_join0.trans (i2c_id h))).symm
theorem own_q {x : Int32} (k : Int32) (h : k = x &&& 3) : k = 0 ∨ k = 1 ∨ k = 2 ∨ k = 3 := by
  have r := mask_rng x 3 (by decide)
  have e : (3 : Int32).toInt = 3 := rfl
  subst h
  have : (x &&& 3).toInt = 0 ∨ (x &&& 3).toInt = 1 ∨ (x &&& 3).toInt = 2 ∨ (x &&& 3).toInt = 3 := by omega
  rcases this with q | q | q | q
  · exact Or.inl (Int32.toInt_inj.mp q)
  · exact Or.inr (Or.inl (Int32.toInt_inj.mp q))
  · exact Or.inr (Or.inr (Or.inl (Int32.toInt_inj.mp q)))
  · exact Or.inr (Or.inr (Or.inr (Int32.toInt_inj.mp q)))
def Hi (z : Int32) : Prop := 55296 ≤ z.toInt ∧ z.toInt ≤ 56319
def Lo (z : Int32) : Prop := 56320 ≤ z.toInt ∧ z.toInt ≤ 57343
theorem own_k1 : (55296 : Int32).toInt = 55296 ∧ (56319 : Int32).toInt = 56319 ∧ (56320 : Int32).toInt = 56320 ∧ (57343 : Int32).toInt = 57343 ∧ (57344 : Int32).toInt = 57344 ∧ (255 : Int32).toInt = 255 := by decide
theorem own_hi {z : Int32} : (z < 55296 → ¬ Hi z) ∧ (¬ z < 55296 → z < 56320 → Hi z) ∧ (¬ z < 56320 → ¬ Hi z) ∧ (¬ z < 55296 → ¬ (56319 : Int32) < z → Hi z) ∧ ((56319 : Int32) < z → ¬ Hi z) := by
  simp only [Hi, Int32.lt_iff_toInt_lt]
  have := own_k1
  omega
theorem own_lo {z : Int32} : (z < 56320 → ¬ Lo z) ∧ (¬ z < 56320 → z < 57344 → Lo z) ∧ (¬ z < 57344 → ¬ Lo z) ∧ (¬ z < 56320 → ¬ (57343 : Int32) < z → Lo z) ∧ ((57343 : Int32) < z → ¬ Lo z) := by
  simp only [Lo, Int32.lt_iff_toInt_lt]
  have := own_k1
  omega
theorem own_hl {z : Int32} (h : Hi z) : ¬ Lo z := by simp only [Hi, Lo] at *; omega
theorem own_lat {z : Int32} (h : ¬ (255 : Int32) < z) : ¬ Hi z ∧ ¬ Lo z := by
  simp only [Hi, Lo, Int32.lt_iff_toInt_lt] at *
  have := own_k1
  omega
/-- what is counted -/
def Cnt1 (a r : Int32) : Prop := r = 1
def Cnt2 (a b r : Int32) : Prop := (Hi a ∧ Lo b ∧ r = 1) ∨ (¬ (Hi a ∧ Lo b) ∧ r = 2)
def Cnt3 (a b c r : Int32) : Prop := (Hi a ∧ Lo b ∧ r = 2) ∨ (¬ (Hi a ∧ Lo b) ∧ Hi b ∧ Lo c ∧ r = 2) ∨ (¬ (Hi a ∧ Lo b) ∧ ¬ (Hi b ∧ Lo c) ∧ r = 3)
theorem Cnt1.uniq {a r r' : Int32} (h : Cnt1 a r) (h' : Cnt1 a r') : r = r' := Eq.trans h (Eq.symm h')
theorem Cnt2.uniq {a b r r' : Int32} (h : Cnt2 a b r) (h' : Cnt2 a b r') : r = r' := by
  rcases h with ⟨x, y, rfl⟩ | ⟨x, rfl⟩ <;> rcases h' with ⟨x', y', rfl⟩ | ⟨x', rfl⟩ <;> simp_all
theorem Cnt3.uniq {a b c r r' : Int32} (h : Cnt3 a b c r) (h' : Cnt3 a b c r') : r = r' := by
  rcases h with ⟨x, y, rfl⟩ | ⟨x, y, z, rfl⟩ | ⟨x, y, rfl⟩ <;> rcases h' with ⟨x', y', rfl⟩ | ⟨x', y', z', rfl⟩ | ⟨x', y', rfl⟩ <;> simp_all
def Wth (r n lo hi : Int32) : Prop := (r = 1 ∧ ¬ n < lo ∧ ¬ hi < n) ∨ (r = 0 ∧ (n < lo ∨ hi < n))
theorem pn0 : plainName "java/lang/StringUTF16" = true := by first | (simp [plainName, overriddenIn]; done) | decide +kernel
theorem d19_0 : decode jdk_52_method_4_code 0 = .ok (.getstatic 44, 3) := by decide +kernel
theorem d19_3 : decode jdk_52_method_4_code 3 = .ok (.ifCond .ne 25, 3) := by decide +kernel
theorem d19_28 : decode jdk_52_method_4_code 28 = .ok (.iload_n 1, 1) := by decide +kernel
theorem d19_29 : decode jdk_52_method_4_code 29 = .ok (.iconst 1, 1) := by decide +kernel
theorem d19_30 : decode jdk_52_method_4_code 30 = .ok (.ishl, 1) := by decide +kernel
theorem d19_31 : decode jdk_52_method_4_code 31 = .ok (.istore_n 1, 1) := by decide +kernel
theorem d19_32 : decode jdk_52_method_4_code 32 = .ok (.aload_n 0, 1) := by decide +kernel
theorem d19_33 : decode jdk_52_method_4_code 33 = .ok (.iload_n 1, 1) := by decide +kernel
theorem d19_34 : decode jdk_52_method_4_code 34 = .ok (.iinc 1 1, 3) := by decide +kernel
theorem d19_37 : decode jdk_52_method_4_code 37 = .ok (.iload_n 2, 1) := by decide +kernel
theorem d19_38 : decode jdk_52_method_4_code 38 = .ok (.getstatic 59, 3) := by decide +kernel
theorem d19_41 : decode jdk_52_method_4_code 41 = .ok (.ishr, 1) := by decide +kernel
theorem d19_42 : decode jdk_52_method_4_code 42 = .ok (.i2b, 1) := by decide +kernel
theorem d19_43 : decode jdk_52_method_4_code 43 = .ok (.bastore, 1) := by decide +kernel
theorem d19_44 : decode jdk_52_method_4_code 44 = .ok (.aload_n 0, 1) := by decide +kernel
theorem d19_45 : decode jdk_52_method_4_code 45 = .ok (.iload_n 1, 1) := by decide +kernel
theorem d19_46 : decode jdk_52_method_4_code 46 = .ok (.iload_n 2, 1) := by decide +kernel
theorem d19_47 : decode jdk_52_method_4_code 47 = .ok (.getstatic 63, 3) := by decide +kernel
theorem d19_50 : decode jdk_52_method_4_code 50 = .ok (.ishr, 1) := by decide +kernel
theorem d19_51 : decode jdk_52_method_4_code 51 = .ok (.i2b, 1) := by decide +kernel
theorem d19_52 : decode jdk_52_method_4_code 52 = .ok (.bastore, 1) := by decide +kernel
theorem d19_53 : decode jdk_52_method_4_code 53 = .ok (.return_, 1) := by decide +kernel
def Q_rm_put0 (Z : State) (t : Addr) (zz : Int32) (kb : ClassId) (nn : Int32) (vs : List Value) (h0 : Heap) (v : Option Value) (h : Heap) (L : List Loc) : Prop := v = none ∧ Fk h0.size [t] L ∧ Keep h0 h [t] ∧ Arv Z h t kb .byte nn ((vs.set 0 (.int (own_b0 zz))).set 1 (.int (own_b1 zz))) (.int (0 : Int32))
set_option maxRecDepth 65536 in
set_option maxHeartbeats 40000000 in
theorem rm_put0 (l : Launch) (Z : State) (a0 : Array Value) (hw : ∀ d ∈ tables_1, d.before a0 Z = true) (ws : List Jvm.Cond) (t : Addr) (zz : Int32) (kb : ClassId) (nn : Int32) (vs : List Value) (h0 : Heap) (O0 : Old Z Z.heap.size h0) (sH : Sta Z Z.heap "java/lang/StringUTF16" "HI_BYTE_SHIFT" "I" (.int (0 : Int32))) (sL : Sta Z Z.heap "java/lang/StringUTF16" "LO_BYTE_SHIFT" "I" (.int (8 : Int32))) (sA : Sta Z Z.heap "java/lang/StringUTF16" "$assertionsDisabled" "Z" (.int (1 : Int32))) (hA : Arv Z h0 t kb .byte nn vs (.int (0 : Int32))) (hn0 : (0 : Int32) < nn) (hn1 : (1 : Int32) < nn) (hl : 1 < vs.length) (ht : Z.heap.size ≤ t) :
    Ctr l Z (⟨"java/lang/StringUTF16", "putChar", "([BII)V"⟩ : MethodName) jdk_52_method_4_code 3 none ws ({ frames := 0, cells := 0, slots := 0, locals := 0 } : Room) #[(.ref t), (.int (0 : Int32)), (.int zz)] h0 (Q_rm_put0 Z t zz kb nn vs h0) := by
  refine Ctr.intro (Ls := fun _ => #[.val (.ref t), .val (.int (0 : Int32)), .val (.int zz)]) (plainFor_of_name pn0) (fun m => by first | rfl | (simp [entryFrame, mkF, argsToLocals, Value.category]; done)) ?_
  intro p e s m below meth c s₁ hx hby hml hr hlk hZ hown hnm hs0 X0 e0
  have w : ∀ (k : Nat) (d : Jvm.Cond), tables_1[k]? = some d → d.before a0 Z = true := fun k d q => hw d (List.mem_of_getElem? q)
  have N0 := Fk.nil h0.size [t]
  refine Wk.getstatic X0 hx hZ hown (host := "") (Or.inl (w 89 _ rfl)) Via.refl e0 (sA.ext O0.2) (hb hby d19_0) rfl ?_
  intro T1 X1 e1
  refine Wk.ifYes X1 hx (hb hby d19_3) (by decide) (q := 28) rfl ((if0 _ _).trans (feq (by decide : ¬ ((1 : Int32) = (0 : Int32)))).2) ?_
  refine Wk.iloadN X1 hx (hb hby d19_28) rfl rfl ?_
  refine Wk.iconst X1 hx (v := (1 : Int32)) (hb hby d19_29) rfl rfl ?_
  refine Wk.ishl X1 hx (hb hby d19_30) rfl ?_
  rw [(by decide : (((0 : Int32) <<< ((1 : Int32) &&& 31)) : Int32) = (0 : Int32))]
  refine Wk.istoreN X1 hx (Ls' := #[.val (.ref t), .val (.int (0 : Int32)), .val (.int zz)]) (hb hby d19_31) rfl rfl ?_
  refine Wk.aloadN X1 hx (hb hby d19_32) rfl rfl rfl ?_
  refine Wk.iloadN X1 hx (hb hby d19_33) rfl rfl ?_
  refine Wk.iinc X1 hx (Ls' := #[.val (.ref t), .val (.int (1 : Int32)), .val (.int zz)]) (hb hby d19_34) rfl rfl rfl ?_
  refine Wk.iloadN X1 hx (hb hby d19_37) rfl rfl ?_
  refine Wk.getstatic X1 hx hZ hown (host := "") (Or.inl (w 90 _ rfl)) Via.refl e1 (sH.ext O0.2) (hb hby d19_38) rfl ?_
  intro T2 X2 e2
  refine Wk.ishr X2 hx (hb hby d19_41) rfl ?_
  refine Wk.i2b X2 hx (hb hby d19_42) rfl ?_
  intro c3 hc3
  refine Wk.bastore X2 hx hZ e2 hA (by decide) hn0 0 rfl (Nat.lt_of_succ_lt hl) (w := (own_b0 zz)) (by rw [hc3]; exact byteId _) (hb hby d19_43) rfl ?_
  intro T4 h4 L4 M4 X4 e4 W4 A4
  have N4 := M4 _ _ N0 (Or.inl (List.mem_of_getElem? (i := 0) rfl))
  have O5 : Old Z Z.heap.size h4 := O0.wr W4 ht
  have V4 : Arv Z h4 t kb .byte nn (vs.set 0 (.int (own_b0 zz))) (.int (0 : Int32)) := A4
  refine Wk.aloadN X4 hx (hb hby d19_44) rfl rfl rfl ?_
  refine Wk.iloadN X4 hx (hb hby d19_45) rfl rfl ?_
  refine Wk.iloadN X4 hx (hb hby d19_46) rfl rfl ?_
  refine Wk.getstatic X4 hx hZ hown (host := "") (Or.inl (w 91 _ rfl)) Via.refl e4 (sL.ext O5.2) (hb hby d19_47) rfl ?_
  intro T6 X6 e6
  refine Wk.ishr X6 hx (hb hby d19_50) rfl ?_
  refine Wk.i2b X6 hx (hb hby d19_51) rfl ?_
  intro c7 hc7
  refine Wk.bastore X6 hx hZ e6 V4 (by decide) hn1 1 rfl (by rw [List.length_set]; exact hl) (w := (own_b1 zz)) (by rw [hc7]; exact byteId _) (hb hby d19_52) rfl ?_
  intro T8 h8 L8 M8 X8 e8 W8 A8
  have N8 := M8 _ _ N4 (Or.inl (List.mem_of_getElem? (i := 0) rfl))
  have O9 : Old Z Z.heap.size h8 := O5.wr W8 ht
  have V8 : Arv Z h8 t kb .byte nn ((vs.set 0 (.int (own_b0 zz))).set 1 (.int (own_b1 zz))) (.int (0 : Int32)) := A8
  have KK10 : Keep h0 h8 [t] := (((Keep.refl h0 [t]).wr W4 (Or.inl (List.mem_of_getElem? (i := 0) rfl))).wr W8 (Or.inl (List.mem_of_getElem? (i := 0) rfl)))
  exact Wk.ret0' X8 hx hlk hr (hb hby d19_53) (by decide) (by decide) (Qc := Q_rm_put0 Z t zz kb nn vs h0) e8 ⟨rfl, N8, KK10, V8⟩
theorem d20_0 : decode jdk_52_method_5_code 0 = .ok (.getstatic 44, 3) := by decide +kernel
theorem d20_3 : decode jdk_52_method_5_code 3 = .ok (.ifCond .ne 25, 3) := by decide +kernel
theorem d20_28 : decode jdk_52_method_5_code 28 = .ok (.iload_n 1, 1) := by decide +kernel
theorem d20_29 : decode jdk_52_method_5_code 29 = .ok (.iconst 1, 1) := by decide +kernel
theorem d20_30 : decode jdk_52_method_5_code 30 = .ok (.ishl, 1) := by decide +kernel
theorem d20_31 : decode jdk_52_method_5_code 31 = .ok (.istore_n 1, 1) := by decide +kernel
theorem d20_32 : decode jdk_52_method_5_code 32 = .ok (.aload_n 0, 1) := by decide +kernel
theorem d20_33 : decode jdk_52_method_5_code 33 = .ok (.iload_n 1, 1) := by decide +kernel
theorem d20_34 : decode jdk_52_method_5_code 34 = .ok (.iinc 1 1, 3) := by decide +kernel
theorem d20_37 : decode jdk_52_method_5_code 37 = .ok (.baload, 1) := by decide +kernel
theorem d20_38 : decode jdk_52_method_5_code 38 = .ok (.sipush 255, 3) := by decide +kernel
theorem d20_41 : decode jdk_52_method_5_code 41 = .ok (.iand, 1) := by decide +kernel
theorem d20_42 : decode jdk_52_method_5_code 42 = .ok (.getstatic 59, 3) := by decide +kernel
theorem d20_45 : decode jdk_52_method_5_code 45 = .ok (.ishl, 1) := by decide +kernel
theorem d20_46 : decode jdk_52_method_5_code 46 = .ok (.aload_n 0, 1) := by decide +kernel
theorem d20_47 : decode jdk_52_method_5_code 47 = .ok (.iload_n 1, 1) := by decide +kernel
theorem d20_48 : decode jdk_52_method_5_code 48 = .ok (.baload, 1) := by decide +kernel
theorem d20_49 : decode jdk_52_method_5_code 49 = .ok (.sipush 255, 3) := by decide +kernel
theorem d20_52 : decode jdk_52_method_5_code 52 = .ok (.iand, 1) := by decide +kernel
theorem d20_53 : decode jdk_52_method_5_code 53 = .ok (.getstatic 63, 3) := by decide +kernel
theorem d20_56 : decode jdk_52_method_5_code 56 = .ok (.ishl, 1) := by decide +kernel
theorem d20_57 : decode jdk_52_method_5_code 57 = .ok (.ior, 1) := by decide +kernel
theorem d20_58 : decode jdk_52_method_5_code 58 = .ok (.i2c, 1) := by decide +kernel
theorem d20_59 : decode jdk_52_method_5_code 59 = .ok (.ireturn, 1) := by decide +kernel
def Q_rm_get0 (Z : State) (t : Addr) (zz : Int32) (kb : ClassId) (nn : Int32) (vs : List Value) (h0 : Heap) (v : Option Value) (h : Heap) (L : List Loc) : Prop := v = some (.int zz) ∧ Fk h0.size [] L ∧ h = h0
set_option maxRecDepth 65536 in
set_option maxHeartbeats 40000000 in
theorem rm_get0 (l : Launch) (Z : State) (a0 : Array Value) (hw : ∀ d ∈ tables_1, d.before a0 Z = true) (ws : List Jvm.Cond) (t : Addr) (zz : Int32) (kb : ClassId) (nn : Int32) (vs : List Value) (h0 : Heap) (O0 : Old Z Z.heap.size h0) (sH : Sta Z Z.heap "java/lang/StringUTF16" "HI_BYTE_SHIFT" "I" (.int (0 : Int32))) (sL : Sta Z Z.heap "java/lang/StringUTF16" "LO_BYTE_SHIFT" "I" (.int (8 : Int32))) (sA : Sta Z Z.heap "java/lang/StringUTF16" "$assertionsDisabled" "Z" (.int (1 : Int32))) (hA : Arv Z h0 t kb .byte nn vs (.int (0 : Int32))) (hn0 : (0 : Int32) < nn) (hn1 : (1 : Int32) < nn) (hv0 : vs.getD (0 : Int32).toNatClampNeg (.int (0 : Int32)) = .int (own_b0 zz)) (hv1 : vs.getD (1 : Int32).toNatClampNeg (.int (0 : Int32)) = .int (own_b1 zz)) (hZc : Chr zz) :
    Ctr l Z (⟨"java/lang/StringUTF16", "getChar", "([BI)C"⟩ : MethodName) jdk_52_method_5_code 2 (some .char) ws ({ frames := 0, cells := 0, slots := 0, locals := 0 } : Room) #[(.ref t), (.int (0 : Int32))] h0 (Q_rm_get0 Z t zz kb nn vs h0) := by
  refine Ctr.intro (Ls := fun _ => #[.val (.ref t), .val (.int (0 : Int32))]) (plainFor_of_name pn0) (fun m => by first | rfl | (simp [entryFrame, mkF, argsToLocals, Value.category]; done)) ?_
  intro p e s m below meth c s₁ hx hby hml hr hlk hZ hown hnm hs0 X0 e0
  have w : ∀ (k : Nat) (d : Jvm.Cond), tables_1[k]? = some d → d.before a0 Z = true := fun k d q => hw d (List.mem_of_getElem? q)
  have N0 := Fk.nil h0.size []
  refine Wk.getstatic X0 hx hZ hown (host := "") (Or.inl (w 89 _ rfl)) Via.refl e0 (sA.ext O0.2) (hb hby d20_0) rfl ?_
  intro T1 X1 e1
  refine Wk.ifYes X1 hx (hb hby d20_3) (by decide) (q := 28) rfl ((if0 _ _).trans (feq (by decide : ¬ ((1 : Int32) = (0 : Int32)))).2) ?_
  refine Wk.iloadN X1 hx (hb hby d20_28) rfl rfl ?_
  refine Wk.iconst X1 hx (v := (1 : Int32)) (hb hby d20_29) rfl rfl ?_
  refine Wk.ishl X1 hx (hb hby d20_30) rfl ?_
  rw [(by decide : (((0 : Int32) <<< ((1 : Int32) &&& 31)) : Int32) = (0 : Int32))]
  refine Wk.istoreN X1 hx (Ls' := #[.val (.ref t), .val (.int (0 : Int32))]) (hb hby d20_31) rfl rfl ?_
  refine Wk.aloadN X1 hx (hb hby d20_32) rfl rfl rfl ?_
  refine Wk.iloadN X1 hx (hb hby d20_33) rfl rfl ?_
  refine Wk.iinc X1 hx (Ls' := #[.val (.ref t), .val (.int (1 : Int32))]) (hb hby d20_34) rfl rfl rfl ?_
  refine Wk.baload X1 hx hZ e1 hA (by decide) hn0 (v := (own_b0 zz)) hv0 (hb hby d20_37) rfl ?_
  refine Wk.sipush X1 hx (v := (255 : Int32)) (hb hby d20_38) rfl rfl ?_
  refine Wk.iand X1 hx (hb hby d20_41) rfl ?_
  refine Wk.getstatic X1 hx hZ hown (host := "") (Or.inl (w 90 _ rfl)) Via.refl e1 (sH.ext O0.2) (hb hby d20_42) rfl ?_
  intro T2 X2 e2
  refine Wk.ishl X2 hx (hb hby d20_45) rfl ?_
  refine Wk.aloadN X2 hx (hb hby d20_46) rfl rfl rfl ?_
  refine Wk.iloadN X2 hx (hb hby d20_47) rfl rfl ?_
  refine Wk.baload X2 hx hZ e2 hA (by decide) hn1 (v := (own_b1 zz)) hv1 (hb hby d20_48) rfl ?_
  refine Wk.sipush X2 hx (v := (255 : Int32)) (hb hby d20_49) rfl rfl ?_
  refine Wk.iand X2 hx (hb hby d20_52) rfl ?_
  refine Wk.getstatic X2 hx hZ hown (host := "") (Or.inl (w 91 _ rfl)) Via.refl e2 (sL.ext O0.2) (hb hby d20_53) rfl ?_
  intro T3 X3 e3
  refine Wk.ishl X3 hx (hb hby d20_56) rfl ?_
  refine Wk.ior X3 hx (hb hby d20_57) rfl ?_
  refine Wk.i2c X3 hx (hb hby d20_58) rfl ?_
  intro c4 hc4
  have Lc4 : Chr c4 := chr_i2c hc4
  obtain rfl : zz = c4 := own_join hZc hc4
  exact Wk.retZ' X3 hx hlk hr (by simp) (hb hby d20_59) (by decide) (by decide) (Qc := Q_rm_get0 Z t zz kb nn vs h0) e3 ⟨(congrArg (fun q => some (Value.int q)) (narC hZc)), N0, rfl⟩
def Q_rm_put1 (Z : State) (t : Addr) (zz : Int32) (kb : ClassId) (nn : Int32) (vs : List Value) (h0 : Heap) (v : Option Value) (h : Heap) (L : List Loc) : Prop := v = none ∧ Fk h0.size [t] L ∧ Keep h0 h [t] ∧ Arv Z h t kb .byte nn ((vs.set 2 (.int (own_b0 zz))).set 3 (.int (own_b1 zz))) (.int (0 : Int32))
set_option maxRecDepth 65536 in
set_option maxHeartbeats 40000000 in
theorem rm_put1 (l : Launch) (Z : State) (a0 : Array Value) (hw : ∀ d ∈ tables_1, d.before a0 Z = true) (ws : List Jvm.Cond) (t : Addr) (zz : Int32) (kb : ClassId) (nn : Int32) (vs : List Value) (h0 : Heap) (O0 : Old Z Z.heap.size h0) (sH : Sta Z Z.heap "java/lang/StringUTF16" "HI_BYTE_SHIFT" "I" (.int (0 : Int32))) (sL : Sta Z Z.heap "java/lang/StringUTF16" "LO_BYTE_SHIFT" "I" (.int (8 : Int32))) (sA : Sta Z Z.heap "java/lang/StringUTF16" "$assertionsDisabled" "Z" (.int (1 : Int32))) (hA : Arv Z h0 t kb .byte nn vs (.int (0 : Int32))) (hn0 : (2 : Int32) < nn) (hn1 : (3 : Int32) < nn) (hl : 3 < vs.length) (ht : Z.heap.size ≤ t) :
    Ctr l Z (⟨"java/lang/StringUTF16", "putChar", "([BII)V"⟩ : MethodName) jdk_52_method_4_code 3 none ws ({ frames := 0, cells := 0, slots := 0, locals := 0 } : Room) #[(.ref t), (.int (1 : Int32)), (.int zz)] h0 (Q_rm_put1 Z t zz kb nn vs h0) := by
  refine Ctr.intro (Ls := fun _ => #[.val (.ref t), .val (.int (1 : Int32)), .val (.int zz)]) (plainFor_of_name pn0) (fun m => by first | rfl | (simp [entryFrame, mkF, argsToLocals, Value.category]; done)) ?_
  intro p e s m below meth c s₁ hx hby hml hr hlk hZ hown hnm hs0 X0 e0
  have w : ∀ (k : Nat) (d : Jvm.Cond), tables_1[k]? = some d → d.before a0 Z = true := fun k d q => hw d (List.mem_of_getElem? q)
  have N0 := Fk.nil h0.size [t]
  refine Wk.getstatic X0 hx hZ hown (host := "") (Or.inl (w 89 _ rfl)) Via.refl e0 (sA.ext O0.2) (hb hby d19_0) rfl ?_
  intro T1 X1 e1
  refine Wk.ifYes X1 hx (hb hby d19_3) (by decide) (q := 28) rfl ((if0 _ _).trans (feq (by decide : ¬ ((1 : Int32) = (0 : Int32)))).2) ?_
  refine Wk.iloadN X1 hx (hb hby d19_28) rfl rfl ?_
  refine Wk.iconst X1 hx (v := (1 : Int32)) (hb hby d19_29) rfl rfl ?_
  refine Wk.ishl X1 hx (hb hby d19_30) rfl ?_
  rw [(by decide : (((1 : Int32) <<< ((1 : Int32) &&& 31)) : Int32) = (2 : Int32))]
  refine Wk.istoreN X1 hx (Ls' := #[.val (.ref t), .val (.int (2 : Int32)), .val (.int zz)]) (hb hby d19_31) rfl rfl ?_
  refine Wk.aloadN X1 hx (hb hby d19_32) rfl rfl rfl ?_
  refine Wk.iloadN X1 hx (hb hby d19_33) rfl rfl ?_
  refine Wk.iinc X1 hx (Ls' := #[.val (.ref t), .val (.int (3 : Int32)), .val (.int zz)]) (hb hby d19_34) rfl rfl rfl ?_
  refine Wk.iloadN X1 hx (hb hby d19_37) rfl rfl ?_
  refine Wk.getstatic X1 hx hZ hown (host := "") (Or.inl (w 90 _ rfl)) Via.refl e1 (sH.ext O0.2) (hb hby d19_38) rfl ?_
  intro T2 X2 e2
  refine Wk.ishr X2 hx (hb hby d19_41) rfl ?_
  refine Wk.i2b X2 hx (hb hby d19_42) rfl ?_
  intro c3 hc3
  refine Wk.bastore X2 hx hZ e2 hA (by decide) hn0 2 rfl (Nat.lt_of_succ_lt hl) (w := (own_b0 zz)) (by rw [hc3]; exact byteId _) (hb hby d19_43) rfl ?_
  intro T4 h4 L4 M4 X4 e4 W4 A4
  have N4 := M4 _ _ N0 (Or.inl (List.mem_of_getElem? (i := 0) rfl))
  have O5 : Old Z Z.heap.size h4 := O0.wr W4 ht
  have V4 : Arv Z h4 t kb .byte nn (vs.set 2 (.int (own_b0 zz))) (.int (0 : Int32)) := A4
  refine Wk.aloadN X4 hx (hb hby d19_44) rfl rfl rfl ?_
  refine Wk.iloadN X4 hx (hb hby d19_45) rfl rfl ?_
  refine Wk.iloadN X4 hx (hb hby d19_46) rfl rfl ?_
  refine Wk.getstatic X4 hx hZ hown (host := "") (Or.inl (w 91 _ rfl)) Via.refl e4 (sL.ext O5.2) (hb hby d19_47) rfl ?_
  intro T6 X6 e6
  refine Wk.ishr X6 hx (hb hby d19_50) rfl ?_
  refine Wk.i2b X6 hx (hb hby d19_51) rfl ?_
  intro c7 hc7
  refine Wk.bastore X6 hx hZ e6 V4 (by decide) hn1 3 rfl (by rw [List.length_set]; exact hl) (w := (own_b1 zz)) (by rw [hc7]; exact byteId _) (hb hby d19_52) rfl ?_
  intro T8 h8 L8 M8 X8 e8 W8 A8
  have N8 := M8 _ _ N4 (Or.inl (List.mem_of_getElem? (i := 0) rfl))
  have O9 : Old Z Z.heap.size h8 := O5.wr W8 ht
  have V8 : Arv Z h8 t kb .byte nn ((vs.set 2 (.int (own_b0 zz))).set 3 (.int (own_b1 zz))) (.int (0 : Int32)) := A8
  have KK10 : Keep h0 h8 [t] := (((Keep.refl h0 [t]).wr W4 (Or.inl (List.mem_of_getElem? (i := 0) rfl))).wr W8 (Or.inl (List.mem_of_getElem? (i := 0) rfl)))
  exact Wk.ret0' X8 hx hlk hr (hb hby d19_53) (by decide) (by decide) (Qc := Q_rm_put1 Z t zz kb nn vs h0) e8 ⟨rfl, N8, KK10, V8⟩
def Q_rm_get1 (Z : State) (t : Addr) (zz : Int32) (kb : ClassId) (nn : Int32) (vs : List Value) (h0 : Heap) (v : Option Value) (h : Heap) (L : List Loc) : Prop := v = some (.int zz) ∧ Fk h0.size [] L ∧ h = h0
set_option maxRecDepth 65536 in
set_option maxHeartbeats 40000000 in
theorem rm_get1 (l : Launch) (Z : State) (a0 : Array Value) (hw : ∀ d ∈ tables_1, d.before a0 Z = true) (ws : List Jvm.Cond) (t : Addr) (zz : Int32) (kb : ClassId) (nn : Int32) (vs : List Value) (h0 : Heap) (O0 : Old Z Z.heap.size h0) (sH : Sta Z Z.heap "java/lang/StringUTF16" "HI_BYTE_SHIFT" "I" (.int (0 : Int32))) (sL : Sta Z Z.heap "java/lang/StringUTF16" "LO_BYTE_SHIFT" "I" (.int (8 : Int32))) (sA : Sta Z Z.heap "java/lang/StringUTF16" "$assertionsDisabled" "Z" (.int (1 : Int32))) (hA : Arv Z h0 t kb .byte nn vs (.int (0 : Int32))) (hn0 : (2 : Int32) < nn) (hn1 : (3 : Int32) < nn) (hv0 : vs.getD (2 : Int32).toNatClampNeg (.int (0 : Int32)) = .int (own_b0 zz)) (hv1 : vs.getD (3 : Int32).toNatClampNeg (.int (0 : Int32)) = .int (own_b1 zz)) (hZc : Chr zz) :
    Ctr l Z (⟨"java/lang/StringUTF16", "getChar", "([BI)C"⟩ : MethodName) jdk_52_method_5_code 2 (some .char) ws ({ frames := 0, cells := 0, slots := 0, locals := 0 } : Room) #[(.ref t), (.int (1 : Int32))] h0 (Q_rm_get1 Z t zz kb nn vs h0) := by
  refine Ctr.intro (Ls := fun _ => #[.val (.ref t), .val (.int (1 : Int32))]) (plainFor_of_name pn0) (fun m => by first | rfl | (simp [entryFrame, mkF, argsToLocals, Value.category]; done)) ?_
  intro p e s m below meth c s₁ hx hby hml hr hlk hZ hown hnm hs0 X0 e0
  have w : ∀ (k : Nat) (d : Jvm.Cond), tables_1[k]? = some d → d.before a0 Z = true := fun k d q => hw d (List.mem_of_getElem? q)
  have N0 := Fk.nil h0.size []
  refine Wk.getstatic X0 hx hZ hown (host := "") (Or.inl (w 89 _ rfl)) Via.refl e0 (sA.ext O0.2) (hb hby d20_0) rfl ?_
  intro T1 X1 e1
  refine Wk.ifYes X1 hx (hb hby d20_3) (by decide) (q := 28) rfl ((if0 _ _).trans (feq (by decide : ¬ ((1 : Int32) = (0 : Int32)))).2) ?_
  refine Wk.iloadN X1 hx (hb hby d20_28) rfl rfl ?_
  refine Wk.iconst X1 hx (v := (1 : Int32)) (hb hby d20_29) rfl rfl ?_
  refine Wk.ishl X1 hx (hb hby d20_30) rfl ?_
  rw [(by decide : (((1 : Int32) <<< ((1 : Int32) &&& 31)) : Int32) = (2 : Int32))]
  refine Wk.istoreN X1 hx (Ls' := #[.val (.ref t), .val (.int (2 : Int32))]) (hb hby d20_31) rfl rfl ?_
  refine Wk.aloadN X1 hx (hb hby d20_32) rfl rfl rfl ?_
  refine Wk.iloadN X1 hx (hb hby d20_33) rfl rfl ?_
  refine Wk.iinc X1 hx (Ls' := #[.val (.ref t), .val (.int (3 : Int32))]) (hb hby d20_34) rfl rfl rfl ?_
  refine Wk.baload X1 hx hZ e1 hA (by decide) hn0 (v := (own_b0 zz)) hv0 (hb hby d20_37) rfl ?_
  refine Wk.sipush X1 hx (v := (255 : Int32)) (hb hby d20_38) rfl rfl ?_
  refine Wk.iand X1 hx (hb hby d20_41) rfl ?_
  refine Wk.getstatic X1 hx hZ hown (host := "") (Or.inl (w 90 _ rfl)) Via.refl e1 (sH.ext O0.2) (hb hby d20_42) rfl ?_
  intro T2 X2 e2
  refine Wk.ishl X2 hx (hb hby d20_45) rfl ?_
  refine Wk.aloadN X2 hx (hb hby d20_46) rfl rfl rfl ?_
  refine Wk.iloadN X2 hx (hb hby d20_47) rfl rfl ?_
  refine Wk.baload X2 hx hZ e2 hA (by decide) hn1 (v := (own_b1 zz)) hv1 (hb hby d20_48) rfl ?_
  refine Wk.sipush X2 hx (v := (255 : Int32)) (hb hby d20_49) rfl rfl ?_
  refine Wk.iand X2 hx (hb hby d20_52) rfl ?_
  refine Wk.getstatic X2 hx hZ hown (host := "") (Or.inl (w 91 _ rfl)) Via.refl e2 (sL.ext O0.2) (hb hby d20_53) rfl ?_
  intro T3 X3 e3
  refine Wk.ishl X3 hx (hb hby d20_56) rfl ?_
  refine Wk.ior X3 hx (hb hby d20_57) rfl ?_
  refine Wk.i2c X3 hx (hb hby d20_58) rfl ?_
  intro c4 hc4
  have Lc4 : Chr c4 := chr_i2c hc4
  obtain rfl : zz = c4 := own_join hZc hc4
  exact Wk.retZ' X3 hx hlk hr (by simp) (hb hby d20_59) (by decide) (by decide) (Qc := Q_rm_get1 Z t zz kb nn vs h0) e3 ⟨(congrArg (fun q => some (Value.int q)) (narC hZc)), N0, rfl⟩
def Q_rm_put2 (Z : State) (t : Addr) (zz : Int32) (kb : ClassId) (nn : Int32) (vs : List Value) (h0 : Heap) (v : Option Value) (h : Heap) (L : List Loc) : Prop := v = none ∧ Fk h0.size [t] L ∧ Keep h0 h [t] ∧ Arv Z h t kb .byte nn ((vs.set 4 (.int (own_b0 zz))).set 5 (.int (own_b1 zz))) (.int (0 : Int32))
set_option maxRecDepth 65536 in
set_option maxHeartbeats 40000000 in
theorem rm_put2 (l : Launch) (Z : State) (a0 : Array Value) (hw : ∀ d ∈ tables_1, d.before a0 Z = true) (ws : List Jvm.Cond) (t : Addr) (zz : Int32) (kb : ClassId) (nn : Int32) (vs : List Value) (h0 : Heap) (O0 : Old Z Z.heap.size h0) (sH : Sta Z Z.heap "java/lang/StringUTF16" "HI_BYTE_SHIFT" "I" (.int (0 : Int32))) (sL : Sta Z Z.heap "java/lang/StringUTF16" "LO_BYTE_SHIFT" "I" (.int (8 : Int32))) (sA : Sta Z Z.heap "java/lang/StringUTF16" "$assertionsDisabled" "Z" (.int (1 : Int32))) (hA : Arv Z h0 t kb .byte nn vs (.int (0 : Int32))) (hn0 : (4 : Int32) < nn) (hn1 : (5 : Int32) < nn) (hl : 5 < vs.length) (ht : Z.heap.size ≤ t) :
    Ctr l Z (⟨"java/lang/StringUTF16", "putChar", "([BII)V"⟩ : MethodName) jdk_52_method_4_code 3 none ws ({ frames := 0, cells := 0, slots := 0, locals := 0 } : Room) #[(.ref t), (.int (2 : Int32)), (.int zz)] h0 (Q_rm_put2 Z t zz kb nn vs h0) := by
  refine Ctr.intro (Ls := fun _ => #[.val (.ref t), .val (.int (2 : Int32)), .val (.int zz)]) (plainFor_of_name pn0) (fun m => by first | rfl | (simp [entryFrame, mkF, argsToLocals, Value.category]; done)) ?_
  intro p e s m below meth c s₁ hx hby hml hr hlk hZ hown hnm hs0 X0 e0
  have w : ∀ (k : Nat) (d : Jvm.Cond), tables_1[k]? = some d → d.before a0 Z = true := fun k d q => hw d (List.mem_of_getElem? q)
  have N0 := Fk.nil h0.size [t]
  refine Wk.getstatic X0 hx hZ hown (host := "") (Or.inl (w 89 _ rfl)) Via.refl e0 (sA.ext O0.2) (hb hby d19_0) rfl ?_
  intro T1 X1 e1
  refine Wk.ifYes X1 hx (hb hby d19_3) (by decide) (q := 28) rfl ((if0 _ _).trans (feq (by decide : ¬ ((1 : Int32) = (0 : Int32)))).2) ?_
  refine Wk.iloadN X1 hx (hb hby d19_28) rfl rfl ?_
  refine Wk.iconst X1 hx (v := (1 : Int32)) (hb hby d19_29) rfl rfl ?_
  refine Wk.ishl X1 hx (hb hby d19_30) rfl ?_
  rw [(by decide : (((2 : Int32) <<< ((1 : Int32) &&& 31)) : Int32) = (4 : Int32))]
  refine Wk.istoreN X1 hx (Ls' := #[.val (.ref t), .val (.int (4 : Int32)), .val (.int zz)]) (hb hby d19_31) rfl rfl ?_
  refine Wk.aloadN X1 hx (hb hby d19_32) rfl rfl rfl ?_
  refine Wk.iloadN X1 hx (hb hby d19_33) rfl rfl ?_
  refine Wk.iinc X1 hx (Ls' := #[.val (.ref t), .val (.int (5 : Int32)), .val (.int zz)]) (hb hby d19_34) rfl rfl rfl ?_
  refine Wk.iloadN X1 hx (hb hby d19_37) rfl rfl ?_
  refine Wk.getstatic X1 hx hZ hown (host := "") (Or.inl (w 90 _ rfl)) Via.refl e1 (sH.ext O0.2) (hb hby d19_38) rfl ?_
  intro T2 X2 e2
  refine Wk.ishr X2 hx (hb hby d19_41) rfl ?_
  refine Wk.i2b X2 hx (hb hby d19_42) rfl ?_
  intro c3 hc3
  refine Wk.bastore X2 hx hZ e2 hA (by decide) hn0 4 rfl (Nat.lt_of_succ_lt hl) (w := (own_b0 zz)) (by rw [hc3]; exact byteId _) (hb hby d19_43) rfl ?_
  intro T4 h4 L4 M4 X4 e4 W4 A4
  have N4 := M4 _ _ N0 (Or.inl (List.mem_of_getElem? (i := 0) rfl))
  have O5 : Old Z Z.heap.size h4 := O0.wr W4 ht
  have V4 : Arv Z h4 t kb .byte nn (vs.set 4 (.int (own_b0 zz))) (.int (0 : Int32)) := A4
  refine Wk.aloadN X4 hx (hb hby d19_44) rfl rfl rfl ?_
  refine Wk.iloadN X4 hx (hb hby d19_45) rfl rfl ?_
  refine Wk.iloadN X4 hx (hb hby d19_46) rfl rfl ?_
  refine Wk.getstatic X4 hx hZ hown (host := "") (Or.inl (w 91 _ rfl)) Via.refl e4 (sL.ext O5.2) (hb hby d19_47) rfl ?_
  intro T6 X6 e6
  refine Wk.ishr X6 hx (hb hby d19_50) rfl ?_
  refine Wk.i2b X6 hx (hb hby d19_51) rfl ?_
  intro c7 hc7
  refine Wk.bastore X6 hx hZ e6 V4 (by decide) hn1 5 rfl (by rw [List.length_set]; exact hl) (w := (own_b1 zz)) (by rw [hc7]; exact byteId _) (hb hby d19_52) rfl ?_
  intro T8 h8 L8 M8 X8 e8 W8 A8
  have N8 := M8 _ _ N4 (Or.inl (List.mem_of_getElem? (i := 0) rfl))
  have O9 : Old Z Z.heap.size h8 := O5.wr W8 ht
  have V8 : Arv Z h8 t kb .byte nn ((vs.set 4 (.int (own_b0 zz))).set 5 (.int (own_b1 zz))) (.int (0 : Int32)) := A8
  have KK10 : Keep h0 h8 [t] := (((Keep.refl h0 [t]).wr W4 (Or.inl (List.mem_of_getElem? (i := 0) rfl))).wr W8 (Or.inl (List.mem_of_getElem? (i := 0) rfl)))
  exact Wk.ret0' X8 hx hlk hr (hb hby d19_53) (by decide) (by decide) (Qc := Q_rm_put2 Z t zz kb nn vs h0) e8 ⟨rfl, N8, KK10, V8⟩
def Q_rm_get2 (Z : State) (t : Addr) (zz : Int32) (kb : ClassId) (nn : Int32) (vs : List Value) (h0 : Heap) (v : Option Value) (h : Heap) (L : List Loc) : Prop := v = some (.int zz) ∧ Fk h0.size [] L ∧ h = h0
set_option maxRecDepth 65536 in
set_option maxHeartbeats 40000000 in
theorem rm_get2 (l : Launch) (Z : State) (a0 : Array Value) (hw : ∀ d ∈ tables_1, d.before a0 Z = true) (ws : List Jvm.Cond) (t : Addr) (zz : Int32) (kb : ClassId) (nn : Int32) (vs : List Value) (h0 : Heap) (O0 : Old Z Z.heap.size h0) (sH : Sta Z Z.heap "java/lang/StringUTF16" "HI_BYTE_SHIFT" "I" (.int (0 : Int32))) (sL : Sta Z Z.heap "java/lang/StringUTF16" "LO_BYTE_SHIFT" "I" (.int (8 : Int32))) (sA : Sta Z Z.heap "java/lang/StringUTF16" "$assertionsDisabled" "Z" (.int (1 : Int32))) (hA : Arv Z h0 t kb .byte nn vs (.int (0 : Int32))) (hn0 : (4 : Int32) < nn) (hn1 : (5 : Int32) < nn) (hv0 : vs.getD (4 : Int32).toNatClampNeg (.int (0 : Int32)) = .int (own_b0 zz)) (hv1 : vs.getD (5 : Int32).toNatClampNeg (.int (0 : Int32)) = .int (own_b1 zz)) (hZc : Chr zz) :
    Ctr l Z (⟨"java/lang/StringUTF16", "getChar", "([BI)C"⟩ : MethodName) jdk_52_method_5_code 2 (some .char) ws ({ frames := 0, cells := 0, slots := 0, locals := 0 } : Room) #[(.ref t), (.int (2 : Int32))] h0 (Q_rm_get2 Z t zz kb nn vs h0) := by
  refine Ctr.intro (Ls := fun _ => #[.val (.ref t), .val (.int (2 : Int32))]) (plainFor_of_name pn0) (fun m => by first | rfl | (simp [entryFrame, mkF, argsToLocals, Value.category]; done)) ?_
  intro p e s m below meth c s₁ hx hby hml hr hlk hZ hown hnm hs0 X0 e0
  have w : ∀ (k : Nat) (d : Jvm.Cond), tables_1[k]? = some d → d.before a0 Z = true := fun k d q => hw d (List.mem_of_getElem? q)
  have N0 := Fk.nil h0.size []
  refine Wk.getstatic X0 hx hZ hown (host := "") (Or.inl (w 89 _ rfl)) Via.refl e0 (sA.ext O0.2) (hb hby d20_0) rfl ?_
  intro T1 X1 e1
  refine Wk.ifYes X1 hx (hb hby d20_3) (by decide) (q := 28) rfl ((if0 _ _).trans (feq (by decide : ¬ ((1 : Int32) = (0 : Int32)))).2) ?_
  refine Wk.iloadN X1 hx (hb hby d20_28) rfl rfl ?_
  refine Wk.iconst X1 hx (v := (1 : Int32)) (hb hby d20_29) rfl rfl ?_
  refine Wk.ishl X1 hx (hb hby d20_30) rfl ?_
  rw [(by decide : (((2 : Int32) <<< ((1 : Int32) &&& 31)) : Int32) = (4 : Int32))]
  refine Wk.istoreN X1 hx (Ls' := #[.val (.ref t), .val (.int (4 : Int32))]) (hb hby d20_31) rfl rfl ?_
  refine Wk.aloadN X1 hx (hb hby d20_32) rfl rfl rfl ?_
  refine Wk.iloadN X1 hx (hb hby d20_33) rfl rfl ?_
  refine Wk.iinc X1 hx (Ls' := #[.val (.ref t), .val (.int (5 : Int32))]) (hb hby d20_34) rfl rfl rfl ?_
  refine Wk.baload X1 hx hZ e1 hA (by decide) hn0 (v := (own_b0 zz)) hv0 (hb hby d20_37) rfl ?_
  refine Wk.sipush X1 hx (v := (255 : Int32)) (hb hby d20_38) rfl rfl ?_
  refine Wk.iand X1 hx (hb hby d20_41) rfl ?_
  refine Wk.getstatic X1 hx hZ hown (host := "") (Or.inl (w 90 _ rfl)) Via.refl e1 (sH.ext O0.2) (hb hby d20_42) rfl ?_
  intro T2 X2 e2
  refine Wk.ishl X2 hx (hb hby d20_45) rfl ?_
  refine Wk.aloadN X2 hx (hb hby d20_46) rfl rfl rfl ?_
  refine Wk.iloadN X2 hx (hb hby d20_47) rfl rfl ?_
  refine Wk.baload X2 hx hZ e2 hA (by decide) hn1 (v := (own_b1 zz)) hv1 (hb hby d20_48) rfl ?_
  refine Wk.sipush X2 hx (v := (255 : Int32)) (hb hby d20_49) rfl rfl ?_
  refine Wk.iand X2 hx (hb hby d20_52) rfl ?_
  refine Wk.getstatic X2 hx hZ hown (host := "") (Or.inl (w 91 _ rfl)) Via.refl e2 (sL.ext O0.2) (hb hby d20_53) rfl ?_
  intro T3 X3 e3
  refine Wk.ishl X3 hx (hb hby d20_56) rfl ?_
  refine Wk.ior X3 hx (hb hby d20_57) rfl ?_
  refine Wk.i2c X3 hx (hb hby d20_58) rfl ?_
  intro c4 hc4
  have Lc4 : Chr c4 := chr_i2c hc4
  obtain rfl : zz = c4 := own_join hZc hc4
  exact Wk.retZ' X3 hx hlk hr (by simp) (hb hby d20_59) (by decide) (by decide) (Qc := Q_rm_get2 Z t zz kb nn vs h0) e3 ⟨(congrArg (fun q => some (Value.int q)) (narC hZc)), N0, rfl⟩
theorem d18_0 : decode jdk_52_method_3_code 0 = .ok (.iload_n 0, 1) := by decide +kernel
theorem d18_1 : decode jdk_52_method_3_code 1 = .ok (.ifCond .ge 11, 3) := by decide +kernel
theorem d18_12 : decode jdk_52_method_3_code 12 = .ok (.iload_n 0, 1) := by decide +kernel
theorem d18_13 : decode jdk_52_method_3_code 13 = .ok (.ldc 20, 2) := by decide +kernel
theorem d18_15 : decode jdk_52_method_3_code 15 = .ok (.if_icmp .lt 40, 3) := by decide +kernel
theorem d18_55 : decode jdk_52_method_3_code 55 = .ok (.iload_n 0, 1) := by decide +kernel
theorem d18_56 : decode jdk_52_method_3_code 56 = .ok (.iconst 1, 1) := by decide +kernel
theorem d18_57 : decode jdk_52_method_3_code 57 = .ok (.ishl, 1) := by decide +kernel
theorem d18_58 : decode jdk_52_method_3_code 58 = .ok (.ireturn, 1) := by decide +kernel
def Q_rm_nbl1 (Z : State) (h0 : Heap) (v : Option Value) (h : Heap) (L : List Loc) : Prop := v = some (.int (2 : Int32)) ∧ Fk h0.size [] L ∧ h = h0
set_option maxRecDepth 65536 in
set_option maxHeartbeats 40000000 in
theorem rm_nbl1 (l : Launch) (Z : State) (a0 : Array Value) (hw : ∀ d ∈ tables_1, d.before a0 Z = true) (ws : List Jvm.Cond) (h0 : Heap) (O0 : Old Z Z.heap.size h0) :
    Ctr l Z (⟨"java/lang/StringUTF16", "newBytesLength", "(I)I"⟩ : MethodName) jdk_52_method_3_code 1 (some .int) ws ({ frames := 0, cells := 0, slots := 0, locals := 0 } : Room) #[(.int (1 : Int32))] h0 (Q_rm_nbl1 Z h0) := by
  refine Ctr.intro (Ls := fun _ => #[.val (.int (1 : Int32))]) (plainFor_of_name pn0) (fun m => by first | rfl | (simp [entryFrame, mkF, argsToLocals, Value.category]; done)) ?_
  intro p e s m below meth c s₁ hx hby hml hr hlk hZ hown hnm hs0 X0 e0
  have w : ∀ (k : Nat) (d : Jvm.Cond), tables_1[k]? = some d → d.before a0 Z = true := fun k d q => hw d (List.mem_of_getElem? q)
  have N0 := Fk.nil h0.size []
  refine Wk.iloadN X0 hx (hb hby d18_0) rfl rfl ?_
  refine Wk.ifYes X0 hx (hb hby d18_1) (by decide) (q := 12) rfl ((if0 _ _).trans (flt (by decide : ¬ ((1 : Int32) < (0 : Int32)))).2.1) ?_
  refine Wk.iloadN X0 hx (hb hby d18_12) rfl rfl ?_
  refine Wk.ldcInt X0 hx hZ hown (w 85 _ rfl) (hb hby d18_13) rfl ?_
  refine Wk.icmpYes X0 hx (hb hby d18_15) (by decide) (q := 55) rfl (tlt (by decide : (1 : Int32) < (1073741823 : Int32))).1 ?_
  refine Wk.iloadN X0 hx (hb hby d18_55) rfl rfl ?_
  refine Wk.iconst X0 hx (v := (1 : Int32)) (hb hby d18_56) rfl rfl ?_
  refine Wk.ishl X0 hx (hb hby d18_57) rfl ?_
  rw [(by decide : (((1 : Int32) <<< ((1 : Int32) &&& 31)) : Int32) = (2 : Int32))]
  exact Wk.retI' X0 hx hlk hr (hb hby d18_58) (by decide) (by decide) (Qc := Q_rm_nbl1 Z h0) e0 ⟨rfl, N0, rfl⟩
theorem d17_0 : decode jdk_52_method_2_code 0 = .ok (.iload_n 0, 1) := by decide +kernel
theorem d17_1 : decode jdk_52_method_2_code 1 = .ok (.invokestatic 11, 3) := by decide +kernel
theorem pd1 : parseMethodDescriptor "(I)I" = some ⟨[.int], some .int⟩ := by decide +kernel
theorem d17_4 : decode jdk_52_method_2_code 4 = .ok (.newarray .byte, 2) := by decide +kernel
theorem d17_6 : decode jdk_52_method_2_code 6 = .ok (.areturn, 1) := by decide +kernel
def Q_rm_nbf1 (Z : State) (h0 : Heap) (v : Option Value) (h : Heap) (L : List Loc) : Prop := ∃ t : Addr, ∃ kb : ClassId, v = some (.ref t) ∧ Fk h0.size [] L ∧ Keep h0 h [] ∧ h0.size ≤ t ∧ Arv Z h t kb .byte (2 : Int32) [(.int (0 : Int32)), (.int (0 : Int32))] (.int (0 : Int32))
set_option maxRecDepth 65536 in
set_option maxHeartbeats 40000000 in
theorem rm_nbf1 (l : Launch) (Z : State) (a0 : Array Value) (hw : ∀ d ∈ tables_1, d.before a0 Z = true) (ws : List Jvm.Cond) (h0 : Heap) (O0 : Old Z Z.heap.size h0) :
    Ctr l Z (⟨"java/lang/StringUTF16", "newBytesFor", "(I)[B"⟩ : MethodName) jdk_52_method_2_code 1 (some (.array .byte)) ws ({ frames := 1, cells := 1, slots := 2, locals := 12 } : Room) #[(.int (1 : Int32))] h0 (Q_rm_nbf1 Z h0) := by
  refine Ctr.intro (Ls := fun _ => #[.val (.int (1 : Int32))]) (plainFor_of_name pn0) (fun m => by first | rfl | (simp [entryFrame, mkF, argsToLocals, Value.category]; done)) ?_
  intro p e s m below meth c s₁ hx hby hml hr hlk hZ hown hnm hs0 X0 e0
  have w : ∀ (k : Nat) (d : Jvm.Cond), tables_1[k]? = some d → d.before a0 Z = true := fun k d q => hw d (List.mem_of_getElem? q)
  have N0 := Fk.nil h0.size []
  refine Wk.iloadN X0 hx (hb hby d17_0) rfl rfl ?_
  refine Wk.callS X0 hx hZ hown (w 82 _ rfl) (w 83 _ rfl) (w 66 _ rfl) (w 84 _ rfl) (by decide) (as' := [(.int (1 : Int32))]) (backOf (W := 0) (rm_nbl1 l Z a0 hw [] h0 O0) hZ (w 84 _ rfl) (w 66 _ rfl) (by decide) (by decide)) e0 (by rw [hml]; rfl) (rest := []) (lenOf pd1 rfl) rfl (Nat.le_of_eq rfl) (hb hby d17_1) rfl (by decide) (by decide) ?_
  intro T1 h1 v1 L1 X1 e1 hQ1
  obtain ⟨rfl, Nq1, K1⟩ := hQ1
  have N1 := Fk.app N0 Nq1 (Nat.le_refl _) all0
  rw [K1] at e1
  show Wp p e below _ _ T1 (mkF m 4 #[.val (.int (1 : Int32))] [(.int (2 : Int32))])
  refine Wk.newarray X1 hx hZ (w 23 _ rfl) e1 (hb hby d17_4) rfl (by decide) 2 (by decide) (by decide) (by decide) (by decide) ?_
  intro T2 h2 a2 kA2 g2 X2 e2 E2 A2
  have O3 : Old Z Z.heap.size h2 := O0.ext E2
  have V2 : Arv Z h2 a2 kA2 .byte (2 : Int32) [(.int (0 : Int32)), (.int (0 : Int32))] (.int (0 : Int32)) := A2.pad (pad_rep [] (.int (0 : Int32)) 2)
  have KK4 : Keep h0 h2 [] := ((Keep.refl h0 []).ext E2)
  exact Wk.retA' X2 hx hlk hr rfl rfl (hb hby d17_6) (by decide) (by decide) (Qc := Q_rm_nbf1 Z h0) e2 ⟨a2, kA2, rfl, N1, KK4, (Nat.le_of_eq g2), V2⟩
theorem d16_0 : decode jdk_52_method_14_code 0 = .ok (.iload_n 2, 1) := by decide +kernel
theorem d16_1 : decode jdk_52_method_14_code 1 = .ok (.invokestatic 107, 3) := by decide +kernel
theorem pd2 : parseMethodDescriptor "(I)[B" = some ⟨[.int], some (.array .byte)⟩ := by decide +kernel
theorem d16_4 : decode jdk_52_method_14_code 4 = .ok (.astore_n 3, 1) := by decide +kernel
theorem d16_5 : decode jdk_52_method_14_code 5 = .ok (.iconst 0, 1) := by decide +kernel
theorem d16_6 : decode jdk_52_method_14_code 6 = .ok (.istore 4, 2) := by decide +kernel
theorem d16_8 : decode jdk_52_method_14_code 8 = .ok (.iload 4, 2) := by decide +kernel
theorem d16_10 : decode jdk_52_method_14_code 10 = .ok (.iload_n 2, 1) := by decide +kernel
theorem d16_11 : decode jdk_52_method_14_code 11 = .ok (.if_icmp .ge 21, 3) := by decide +kernel
theorem d16_14 : decode jdk_52_method_14_code 14 = .ok (.aload_n 3, 1) := by decide +kernel
theorem d16_15 : decode jdk_52_method_14_code 15 = .ok (.iload 4, 2) := by decide +kernel
theorem d16_17 : decode jdk_52_method_14_code 17 = .ok (.aload_n 0, 1) := by decide +kernel
theorem d16_18 : decode jdk_52_method_14_code 18 = .ok (.iload_n 1, 1) := by decide +kernel
theorem d16_19 : decode jdk_52_method_14_code 19 = .ok (.caload, 1) := by decide +kernel
theorem d16_20 : decode jdk_52_method_14_code 20 = .ok (.invokestatic 111, 3) := by decide +kernel
theorem pd3 : parseMethodDescriptor "([BII)V" = some ⟨[(.array .byte), .int, .int], none⟩ := by decide +kernel
theorem d16_23 : decode jdk_52_method_14_code 23 = .ok (.iinc 1 1, 3) := by decide +kernel
theorem d16_26 : decode jdk_52_method_14_code 26 = .ok (.iinc 4 1, 3) := by decide +kernel
theorem d16_29 : decode jdk_52_method_14_code 29 = .ok (.goto (-21), 3) := by decide +kernel
theorem d16_32 : decode jdk_52_method_14_code 32 = .ok (.aload_n 3, 1) := by decide +kernel
theorem d16_33 : decode jdk_52_method_14_code 33 = .ok (.areturn, 1) := by decide +kernel
def Q_rm_tob1 (Z : State) (b : Addr) (kc : ClassId) (za : Int32) (h0 : Heap) (v : Option Value) (h : Heap) (L : List Loc) : Prop := ∃ t : Addr, ∃ kb : ClassId, v = some (.ref t) ∧ Fk h0.size [] L ∧ Keep h0 h [] ∧ h0.size ≤ t ∧ Arv Z h t kb .byte (2 : Int32) [(.int (own_b0 za)), (.int (own_b1 za))] (.int (0 : Int32))
set_option maxRecDepth 65536 in
set_option maxHeartbeats 40000000 in
theorem rm_tob1 (l : Launch) (Z : State) (a0 : Array Value) (hw : ∀ d ∈ tables_1, d.before a0 Z = true) (ws : List Jvm.Cond) (b : Addr) (kc : ClassId) (za : Int32) (h0 : Heap) (O0 : Old Z Z.heap.size h0) (sH : Sta Z Z.heap "java/lang/StringUTF16" "HI_BYTE_SHIFT" "I" (.int (0 : Int32))) (sL : Sta Z Z.heap "java/lang/StringUTF16" "LO_BYTE_SHIFT" "I" (.int (8 : Int32))) (sA : Sta Z Z.heap "java/lang/StringUTF16" "$assertionsDisabled" "Z" (.int (1 : Int32))) (hA : Arv Z h0 b kc .char (1 : Int32) [(.int za)] (.int (0 : Int32))) :
    Ctr l Z (⟨"java/lang/StringUTF16", "toBytes", "([CII)[B"⟩ : MethodName) jdk_52_method_14_code 5 (some (.array .byte)) ws ({ frames := 2, cells := 1, slots := 2, locals := 24 } : Room) #[(.ref b), (.int (0 : Int32)), (.int (1 : Int32))] h0 (Q_rm_tob1 Z b kc za h0) := by
  refine Ctr.intro (Ls := fun _ => #[.val (.ref b), .val (.int (0 : Int32)), .val (.int (1 : Int32)), .unset, .unset]) (plainFor_of_name pn0) (fun m => by first | rfl | (simp [entryFrame, mkF, argsToLocals, Value.category]; done)) ?_
  intro p e s m below meth c s₁ hx hby hml hr hlk hZ hown hnm hs0 X0 e0
  have w : ∀ (k : Nat) (d : Jvm.Cond), tables_1[k]? = some d → d.before a0 Z = true := fun k d q => hw d (List.mem_of_getElem? q)
  have N0 := Fk.nil h0.size []
  refine Wk.iloadN X0 hx (hb hby d16_0) rfl rfl ?_
  refine Wk.callS X0 hx hZ hown (w 79 _ rfl) (w 80 _ rfl) (w 66 _ rfl) (w 81 _ rfl) (by decide) (as' := [(.int (1 : Int32))]) (backOf (W := 0) (rm_nbf1 l Z a0 hw [] h0 O0) hZ (w 81 _ rfl) (w 66 _ rfl) (by decide) (by decide)) e0 (by rw [hml]; rfl) (rest := []) (lenOf pd2 rfl) rfl (Nat.le_of_eq rfl) (hb hby d16_1) rfl (by decide) (by decide) ?_
  intro T1 h1 v1 L1 X1 e1 hQ1
  obtain ⟨t1, kb1, rfl, Nq1, K1, q1_0, q1_1⟩ := hQ1
  have N1 := Fk.app N0 Nq1 (Nat.le_refl _) all0
  have O2 : Old Z Z.heap.size h1 := O0.keep K1 all0
  show Wp p e below _ _ T1 (mkF m 4 #[.val (.ref b), .val (.int (0 : Int32)), .val (.int (1 : Int32)), .unset, .unset] [(.ref t1)])
  refine Wk.astoreN X1 hx (Ls' := #[.val (.ref b), .val (.int (0 : Int32)), .val (.int (1 : Int32)), .val (.ref t1), .unset]) (hb hby d16_4) rfl rfl rfl ?_
  refine Wk.iconst X1 hx (v := (0 : Int32)) (hb hby d16_5) rfl rfl ?_
  refine Wk.istore X1 hx (Ls' := #[.val (.ref b), .val (.int (0 : Int32)), .val (.int (1 : Int32)), .val (.ref t1), .val (.int (0 : Int32))]) (hb hby d16_6) rfl rfl ?_
  refine Wk.iload X1 hx (hb hby d16_8) rfl rfl ?_
  refine Wk.iloadN X1 hx (hb hby d16_10) rfl rfl ?_
  refine Wk.icmpNo X1 hx (hb hby d16_11) rfl (tlt (by decide : (0 : Int32) < (1 : Int32))).2.1 ?_
  refine Wk.aloadN X1 hx (hb hby d16_14) rfl rfl rfl ?_
  refine Wk.iload X1 hx (hb hby d16_15) rfl rfl ?_
  refine Wk.aloadN X1 hx (hb hby d16_17) rfl rfl rfl ?_
  refine Wk.iloadN X1 hx (hb hby d16_18) rfl rfl ?_
  have KK3 : Keep h0 h1 [] := ((Keep.refl h0 []).trans K1 all0)
  have f4 : Arv Z h1 b kc .char (1 : Int32) [(.int za)] (.int (0 : Int32)) := (hA.keep KK3 nin0)
  refine Wk.caload X1 hx hZ e1 f4 (by decide) (by decide) (v := za) rfl (hb hby d16_19) rfl ?_
  refine Wk.callS X1 hx hZ hown (w 86 _ rfl) (w 87 _ rfl) (w 66 _ rfl) (w 88 _ rfl) (by decide) (as' := [(.ref t1), (.int (0 : Int32)), (.int za)]) (backOf (W := 0) (rm_put0 l Z a0 hw [] t1 za kb1 (2 : Int32) [(.int (0 : Int32)), (.int (0 : Int32))] h1 O2 sH sL sA q1_1 (by first | assumption | rfl | decide | exact Nat.le_of_ble_eq_true rfl) (by first | assumption | rfl | decide | exact Nat.le_of_ble_eq_true rfl) (by first | assumption | rfl | decide | exact Nat.le_of_ble_eq_true rfl) (Nat.le_trans (Nat.le_trans (Nat.le_trans (Nat.le_of_eq O0.1.symm) O0.2.1) (Keep.refl h0 []).1) q1_0)) hZ (w 88 _ rfl) (w 66 _ rfl) (by decide) (by decide)) e1 (by rw [hml]; rfl) (rest := []) (lenOf pd3 rfl) rfl (Nat.le_of_eq rfl) (hb hby d16_20) rfl (by decide) (by decide) ?_
  intro T5 h5 v5 L5 X5 e5 hQ5
  obtain ⟨rfl, Nq5, K5, q5_0⟩ := hQ5
  have N5 := Fk.app N1 Nq5 KK3.1 (allS (Or.inr q1_0) all0)
  have O6 : Old Z Z.heap.size h5 := O2.keep K5 (allS (Nat.le_trans (Nat.le_trans (Nat.le_trans (Nat.le_of_eq O0.1.symm) O0.2.1) (Keep.refl h0 []).1) q1_0) all0)
  have Vl7 : Arv Z h5 t1 kb1 .byte (2 : Int32) [(.int (own_b0 za)), (.int (own_b1 za))] (.int (0 : Int32)) := q5_0
  show Wp p e below _ _ T5 (mkF m 23 #[.val (.ref b), .val (.int (0 : Int32)), .val (.int (1 : Int32)), .val (.ref t1), .val (.int (0 : Int32))] [])
  refine Wk.iinc X5 hx (Ls' := #[.val (.ref b), .val (.int (1 : Int32)), .val (.int (1 : Int32)), .val (.ref t1), .val (.int (0 : Int32))]) (hb hby d16_23) rfl rfl rfl ?_
  refine Wk.iinc X5 hx (Ls' := #[.val (.ref b), .val (.int (1 : Int32)), .val (.int (1 : Int32)), .val (.ref t1), .val (.int (1 : Int32))]) (hb hby d16_26) rfl rfl rfl ?_
  refine Wk.goto X5 hx (hb hby d16_29) (by decide) (q := 8) rfl ?_
  refine Wk.iload X5 hx (hb hby d16_8) rfl rfl ?_
  refine Wk.iloadN X5 hx (hb hby d16_10) rfl rfl ?_
  refine Wk.icmpYes X5 hx (hb hby d16_11) (by decide) (q := 32) rfl (flt (by decide : ¬ ((1 : Int32) < (1 : Int32)))).2.1 ?_
  refine Wk.aloadN X5 hx (hb hby d16_32) rfl rfl rfl ?_
  have KK8 : Keep h0 h5 [] := (KK3.trans K5 (allS (Or.inr q1_0) all0))
  exact Wk.retA' X5 hx hlk hr rfl rfl (hb hby d16_33) (by decide) (by decide) (Qc := Q_rm_tob1 Z b kc za h0) e5 ⟨t1, kb1, rfl, N5, KK8, q1_0, Vl7⟩
theorem d15_0 : decode jdk_52_method_15_code 0 = .ok (.iload_n 1, 1) := by decide +kernel
theorem d15_1 : decode jdk_52_method_15_code 1 = .ok (.aload_n 0, 1) := by decide +kernel
theorem d15_2 : decode jdk_52_method_15_code 2 = .ok (.arraylength, 1) := by decide +kernel
theorem d15_3 : decode jdk_52_method_15_code 3 = .ok (.isub, 1) := by decide +kernel
theorem d15_4 : decode jdk_52_method_15_code 4 = .ok (.bipush 31, 2) := by decide +kernel
theorem d15_6 : decode jdk_52_method_15_code 6 = .ok (.iushr, 1) := by decide +kernel
theorem d15_7 : decode jdk_52_method_15_code 7 = .ok (.i2b, 1) := by decide +kernel
theorem d15_8 : decode jdk_52_method_15_code 8 = .ok (.ireturn, 1) := by decide +kernel
def Q_rm_cfa1 (Z : State) (t : Addr) (kb : ClassId) (vs : List Value) (h0 : Heap) (v : Option Value) (h : Heap) (L : List Loc) : Prop := v = some (.int (1 : Int32)) ∧ Fk h0.size [] L ∧ h = h0
set_option maxRecDepth 65536 in
set_option maxHeartbeats 40000000 in
theorem rm_cfa1 (l : Launch) (Z : State) (a0 : Array Value) (hw : ∀ d ∈ tables_1, d.before a0 Z = true) (ws : List Jvm.Cond) (t : Addr) (kb : ClassId) (vs : List Value) (h0 : Heap) (O0 : Old Z Z.heap.size h0) (hA : Arv Z h0 t kb .byte (2 : Int32) vs (.int (0 : Int32))) :
    Ctr l Z (⟨"java/lang/StringUTF16", "coderFromArrayLen", "([BI)B"⟩ : MethodName) jdk_52_method_15_code 2 (some .byte) ws ({ frames := 0, cells := 0, slots := 0, locals := 0 } : Room) #[(.ref t), (.int (1 : Int32))] h0 (Q_rm_cfa1 Z t kb vs h0) := by
  refine Ctr.intro (Ls := fun _ => #[.val (.ref t), .val (.int (1 : Int32))]) (plainFor_of_name pn0) (fun m => by first | rfl | (simp [entryFrame, mkF, argsToLocals, Value.category]; done)) ?_
  intro p e s m below meth c s₁ hx hby hml hr hlk hZ hown hnm hs0 X0 e0
  have w : ∀ (k : Nat) (d : Jvm.Cond), tables_1[k]? = some d → d.before a0 Z = true := fun k d q => hw d (List.mem_of_getElem? q)
  have N0 := Fk.nil h0.size []
  refine Wk.iloadN X0 hx (hb hby d15_0) rfl rfl ?_
  refine Wk.aloadN X0 hx (hb hby d15_1) rfl rfl rfl ?_
  refine Wk.arraylength X0 hx hZ e0 hA (hb hby d15_2) rfl ?_
  refine Wk.isub X0 hx (hb hby d15_3) rfl ?_
  rw [(by decide : (((1 : Int32) - (2 : Int32)) : Int32) = (-1 : Int32))]
  refine Wk.bipush X0 hx (v := (31 : Int32)) (hb hby d15_4) rfl rfl ?_
  refine Wk.iushr X0 hx (hb hby d15_6) rfl ?_
  rw [(by decide : ((((-1 : Int32).toUInt32 >>> ((31 : Int32) &&& 31).toUInt32).toInt32) : Int32) = (1 : Int32))]
  refine Wk.i2b X0 hx (hb hby d15_7) rfl ?_
  intro c1 hc1
  obtain rfl : c1 = (1 : Int32) := hc1.trans (by decide)
  exact Wk.retZ' X0 hx hlk hr (by simp) (hb hby d15_8) (by decide) (by decide) (Qc := Q_rm_cfa1 Z t kb vs h0) e0 ⟨rfl, N0, rfl⟩
theorem d14_0 : decode jdk_52_method_21_code 0 = .ok (.iconst 0, 1) := by decide +kernel
theorem d14_1 : decode jdk_52_method_21_code 1 = .ok (.istore 5, 2) := by decide +kernel
theorem d14_3 : decode jdk_52_method_21_code 3 = .ok (.iload 5, 2) := by decide +kernel
theorem d14_5 : decode jdk_52_method_21_code 5 = .ok (.iload 4, 2) := by decide +kernel
theorem d14_7 : decode jdk_52_method_21_code 7 = .ok (.if_icmp .ge 37, 3) := by decide +kernel
theorem d14_10 : decode jdk_52_method_21_code 10 = .ok (.aload_n 0, 1) := by decide +kernel
theorem d14_11 : decode jdk_52_method_21_code 11 = .ok (.iload_n 1, 1) := by decide +kernel
theorem d14_12 : decode jdk_52_method_21_code 12 = .ok (.caload, 1) := by decide +kernel
theorem d14_13 : decode jdk_52_method_21_code 13 = .ok (.istore 6, 2) := by decide +kernel
theorem d14_15 : decode jdk_52_method_21_code 15 = .ok (.iload 6, 2) := by decide +kernel
theorem d14_17 : decode jdk_52_method_21_code 17 = .ok (.sipush 255, 3) := by decide +kernel
theorem d14_20 : decode jdk_52_method_21_code 20 = .ok (.if_icmp .le 6, 3) := by decide +kernel
theorem d14_23 : decode jdk_52_method_21_code 23 = .ok (.iload 5, 2) := by decide +kernel
theorem d14_25 : decode jdk_52_method_21_code 25 = .ok (.ireturn, 1) := by decide +kernel
def Q_rm_cp5_10 (Z : State) (b : Addr) (kc : ClassId) (t : Addr) (kb : ClassId) (za : Int32) (h0 : Heap) (v : Option Value) (h : Heap) (L : List Loc) : Prop := v = some (.int (0 : Int32)) ∧ Fk h0.size [] L ∧ Keep h0 h []
set_option maxRecDepth 65536 in
set_option maxHeartbeats 40000000 in
theorem rm_cp5_10 (l : Launch) (Z : State) (a0 : Array Value) (hw : ∀ d ∈ tables_1, d.before a0 Z = true) (ws : List Jvm.Cond) (b : Addr) (kc : ClassId) (t : Addr) (kb : ClassId) (za : Int32) (h0 : Heap) (O0 : Old Z Z.heap.size h0) (hA : Arv Z h0 b kc .char (1 : Int32) [(.int za)] (.int (0 : Int32))) (hT : Arv Z h0 t kb .byte (1 : Int32) [(.int (0 : Int32))] (.int (0 : Int32))) (ht : Z.heap.size ≤ t) (hbt : b ≠ t) (hgza : (255 : Int32) < za) :
    Ctr l Z (⟨"java/lang/StringUTF16", "compress", "([CI[BII)I"⟩ : MethodName) jdk_52_method_21_code 7 (some .int) ws ({ frames := 0, cells := 0, slots := 0, locals := 0 } : Room) #[(.ref b), (.int (0 : Int32)), (.ref t), (.int (0 : Int32)), (.int (1 : Int32))] h0 (Q_rm_cp5_10 Z b kc t kb za h0) := by
  refine Ctr.intro (Ls := fun _ => #[.val (.ref b), .val (.int (0 : Int32)), .val (.ref t), .val (.int (0 : Int32)), .val (.int (1 : Int32)), .unset, .unset]) (plainFor_of_name pn0) (fun m => by first | rfl | (simp [entryFrame, mkF, argsToLocals, Value.category]; done)) ?_
  intro p e s m below meth c s₁ hx hby hml hr hlk hZ hown hnm hs0 X0 e0
  have w : ∀ (k : Nat) (d : Jvm.Cond), tables_1[k]? = some d → d.before a0 Z = true := fun k d q => hw d (List.mem_of_getElem? q)
  have N0 := Fk.nil h0.size []
  refine Wk.iconst X0 hx (v := (0 : Int32)) (hb hby d14_0) rfl rfl ?_
  refine Wk.istore X0 hx (Ls' := #[.val (.ref b), .val (.int (0 : Int32)), .val (.ref t), .val (.int (0 : Int32)), .val (.int (1 : Int32)), .val (.int (0 : Int32)), .unset]) (hb hby d14_1) rfl rfl ?_
  refine Wk.iload X0 hx (hb hby d14_3) rfl rfl ?_
  refine Wk.iload X0 hx (hb hby d14_5) rfl rfl ?_
  refine Wk.icmpNo X0 hx (hb hby d14_7) rfl (tlt (by decide : (0 : Int32) < (1 : Int32))).2.1 ?_
  refine Wk.aloadN X0 hx (hb hby d14_10) rfl rfl rfl ?_
  refine Wk.iloadN X0 hx (hb hby d14_11) rfl rfl ?_
  refine Wk.caload X0 hx hZ e0 hA (by decide) (by decide) (v := za) rfl (hb hby d14_12) rfl ?_
  refine Wk.istore X0 hx (Ls' := #[.val (.ref b), .val (.int (0 : Int32)), .val (.ref t), .val (.int (0 : Int32)), .val (.int (1 : Int32)), .val (.int (0 : Int32)), .val (.int za)]) (hb hby d14_13) rfl rfl ?_
  refine Wk.iload X0 hx (hb hby d14_15) rfl rfl ?_
  refine Wk.sipush X0 hx (v := (255 : Int32)) (hb hby d14_17) rfl rfl ?_
  refine Wk.icmpNo X0 hx (hb hby d14_20) rfl (tlt hgza).2.2.2 ?_
  refine Wk.iload X0 hx (hb hby d14_23) rfl rfl ?_
  exact Wk.retI' X0 hx hlk hr (hb hby d14_25) (by decide) (by decide) (Qc := Q_rm_cp5_10 Z b kc t kb za h0) e0 ⟨rfl, N0, (Keep.refl h0 [])⟩
theorem d13_0 : decode jdk_52_method_16_code 0 = .ok (.iload_n 2, 1) := by decide +kernel
theorem d13_1 : decode jdk_52_method_16_code 1 = .ok (.newarray .byte, 2) := by decide +kernel
theorem d13_3 : decode jdk_52_method_16_code 3 = .ok (.astore_n 3, 1) := by decide +kernel
theorem d13_4 : decode jdk_52_method_16_code 4 = .ok (.aload_n 0, 1) := by decide +kernel
theorem d13_5 : decode jdk_52_method_16_code 5 = .ok (.iload_n 1, 1) := by decide +kernel
theorem d13_6 : decode jdk_52_method_16_code 6 = .ok (.aload_n 3, 1) := by decide +kernel
theorem d13_7 : decode jdk_52_method_16_code 7 = .ok (.iconst 0, 1) := by decide +kernel
theorem d13_8 : decode jdk_52_method_16_code 8 = .ok (.iload_n 2, 1) := by decide +kernel
theorem d13_9 : decode jdk_52_method_16_code 9 = .ok (.invokestatic 115, 3) := by decide +kernel
theorem pd4 : parseMethodDescriptor "([CI[BII)I" = some ⟨[(.array .char), .int, (.array .byte), .int, .int], some .int⟩ := by decide +kernel
theorem d13_12 : decode jdk_52_method_16_code 12 = .ok (.istore 4, 2) := by decide +kernel
theorem d13_14 : decode jdk_52_method_16_code 14 = .ok (.iload 4, 2) := by decide +kernel
theorem d13_16 : decode jdk_52_method_16_code 16 = .ok (.iload_n 2, 1) := by decide +kernel
theorem d13_17 : decode jdk_52_method_16_code 17 = .ok (.if_icmp .eq 40, 3) := by decide +kernel
theorem d13_20 : decode jdk_52_method_16_code 20 = .ok (.aload_n 0, 1) := by decide +kernel
theorem d13_21 : decode jdk_52_method_16_code 21 = .ok (.iload_n 1, 1) := by decide +kernel
theorem d13_22 : decode jdk_52_method_16_code 22 = .ok (.iload_n 2, 1) := by decide +kernel
theorem d13_23 : decode jdk_52_method_16_code 23 = .ok (.invokestatic 119, 3) := by decide +kernel
theorem pd5 : parseMethodDescriptor "([CII)[B" = some ⟨[(.array .char), .int, .int], some (.array .byte)⟩ := by decide +kernel
theorem d13_26 : decode jdk_52_method_16_code 26 = .ok (.astore 5, 2) := by decide +kernel
theorem d13_28 : decode jdk_52_method_16_code 28 = .ok (.aload 5, 2) := by decide +kernel
theorem d13_30 : decode jdk_52_method_16_code 30 = .ok (.iload 4, 2) := by decide +kernel
theorem d13_32 : decode jdk_52_method_16_code 32 = .ok (.invokestatic 71, 3) := by decide +kernel
theorem pd6 : parseMethodDescriptor "([BI)C" = some ⟨[(.array .byte), .int], some .char⟩ := by decide +kernel
theorem d13_35 : decode jdk_52_method_16_code 35 = .ok (.sipush 255, 3) := by decide +kernel
theorem d13_38 : decode jdk_52_method_16_code 38 = .ok (.if_icmp .gt 16, 3) := by decide +kernel
theorem d13_54 : decode jdk_52_method_16_code 54 = .ok (.aload 5, 2) := by decide +kernel
theorem d13_56 : decode jdk_52_method_16_code 56 = .ok (.areturn, 1) := by decide +kernel
def Q_rm_cp3_10 (Z : State) (b : Addr) (kc : ClassId) (za : Int32) (h0 : Heap) (v : Option Value) (h : Heap) (L : List Loc) : Prop := ∃ t : Addr, ∃ kb : ClassId, v = some (.ref t) ∧ Fk h0.size [] L ∧ Keep h0 h [] ∧ h0.size ≤ t ∧ Arv Z h t kb .byte (2 : Int32) [(.int (own_b0 za)), (.int (own_b1 za))] (.int (0 : Int32))
set_option maxRecDepth 65536 in
set_option maxHeartbeats 40000000 in
theorem rm_cp3_10 (l : Launch) (Z : State) (a0 : Array Value) (hw : ∀ d ∈ tables_1, d.before a0 Z = true) (ws : List Jvm.Cond) (b : Addr) (kc : ClassId) (za : Int32) (h0 : Heap) (O0 : Old Z Z.heap.size h0) (sH : Sta Z Z.heap "java/lang/StringUTF16" "HI_BYTE_SHIFT" "I" (.int (0 : Int32))) (sL : Sta Z Z.heap "java/lang/StringUTF16" "LO_BYTE_SHIFT" "I" (.int (8 : Int32))) (sA : Sta Z Z.heap "java/lang/StringUTF16" "$assertionsDisabled" "Z" (.int (1 : Int32))) (hA : Arv Z h0 b kc .char (1 : Int32) [(.int za)] (.int (0 : Int32))) (hcza : Chr za) (hgza : (255 : Int32) < za) :
    Ctr l Z (⟨"java/lang/StringUTF16", "compress", "([CII)[B"⟩ : MethodName) jdk_52_method_16_code 6 (some (.array .byte)) ws ({ frames := 3, cells := 2, slots := 3, locals := 40 } : Room) #[(.ref b), (.int (0 : Int32)), (.int (1 : Int32))] h0 (Q_rm_cp3_10 Z b kc za h0) := by
  refine Ctr.intro (Ls := fun _ => #[.val (.ref b), .val (.int (0 : Int32)), .val (.int (1 : Int32)), .unset, .unset, .unset]) (plainFor_of_name pn0) (fun m => by first | rfl | (simp [entryFrame, mkF, argsToLocals, Value.category]; done)) ?_
  intro p e s m below meth c s₁ hx hby hml hr hlk hZ hown hnm hs0 X0 e0
  have w : ∀ (k : Nat) (d : Jvm.Cond), tables_1[k]? = some d → d.before a0 Z = true := fun k d q => hw d (List.mem_of_getElem? q)
  have N0 := Fk.nil h0.size []
  refine Wk.iloadN X0 hx (hb hby d13_0) rfl rfl ?_
  refine Wk.newarray X0 hx hZ (w 23 _ rfl) e0 (hb hby d13_1) rfl (by decide) 1 (by decide) (by decide) (by decide) (by decide) ?_
  intro T1 h1 a1 kA1 g1 X1 e1 E1 A1
  have O2 : Old Z Z.heap.size h1 := O0.ext E1
  have V1 : Arv Z h1 a1 kA1 .byte (1 : Int32) [(.int (0 : Int32))] (.int (0 : Int32)) := A1.pad (pad_rep [] (.int (0 : Int32)) 1)
  refine Wk.astoreN X1 hx (Ls' := #[.val (.ref b), .val (.int (0 : Int32)), .val (.int (1 : Int32)), .val (.ref a1), .unset, .unset]) (hb hby d13_3) rfl rfl rfl ?_
  refine Wk.aloadN X1 hx (hb hby d13_4) rfl rfl rfl ?_
  refine Wk.iloadN X1 hx (hb hby d13_5) rfl rfl ?_
  refine Wk.aloadN X1 hx (hb hby d13_6) rfl rfl rfl ?_
  refine Wk.iconst X1 hx (v := (0 : Int32)) (hb hby d13_7) rfl rfl ?_
  refine Wk.iloadN X1 hx (hb hby d13_8) rfl rfl ?_
  have KK3 : Keep h0 h1 [] := ((Keep.refl h0 []).ext E1)
  have f4 : Arv Z h1 b kc .char (1 : Int32) [(.int za)] (.int (0 : Int32)) := (hA.keep KK3 nin0)
  refine Wk.callS X1 hx hZ hown (w 68 _ rfl) (w 69 _ rfl) (w 66 _ rfl) (w 70 _ rfl) (by decide) (as' := [(.ref b), (.int (0 : Int32)), (.ref a1), (.int (0 : Int32)), (.int (1 : Int32))]) (backOf (W := 0) (rm_cp5_10 l Z a0 hw [] b kc a1 kA1 za h1 O2 f4 V1 (Nat.le_trans (Nat.le_trans (Nat.le_trans (Nat.le_of_eq O0.1.symm) O0.2.1) (Keep.refl h0 []).1) (Nat.le_of_eq g1)) (Nat.ne_of_lt (Nat.lt_of_lt_of_le hA.lt (Nat.le_of_eq g1))) hgza) hZ (w 70 _ rfl) (w 66 _ rfl) (by decide) (by decide)) e1 (by rw [hml]; rfl) (rest := []) (lenOf pd4 rfl) rfl (Nat.le_of_eq rfl) (hb hby d13_9) rfl (by decide) (by decide) ?_
  intro T5 h5 v5 L5 X5 e5 hQ5
  obtain ⟨rfl, Nq5, K5⟩ := hQ5
  have N5 := Fk.app N0 Nq5 KK3.1 all0
  have O6 : Old Z Z.heap.size h5 := O2.keep K5 all0
  show Wp p e below _ _ T5 (mkF m 12 #[.val (.ref b), .val (.int (0 : Int32)), .val (.int (1 : Int32)), .val (.ref a1), .unset, .unset] [(.int (0 : Int32))])
  refine Wk.istore X5 hx (Ls' := #[.val (.ref b), .val (.int (0 : Int32)), .val (.int (1 : Int32)), .val (.ref a1), .val (.int (0 : Int32)), .unset]) (hb hby d13_12) rfl rfl ?_
  refine Wk.iload X5 hx (hb hby d13_14) rfl rfl ?_
  refine Wk.iloadN X5 hx (hb hby d13_16) rfl rfl ?_
  refine Wk.icmpNo X5 hx (hb hby d13_17) rfl (feq (by decide : ¬ ((0 : Int32) = (1 : Int32)))).1 ?_
  refine Wk.aloadN X5 hx (hb hby d13_20) rfl rfl rfl ?_
  refine Wk.iloadN X5 hx (hb hby d13_21) rfl rfl ?_
  refine Wk.iloadN X5 hx (hb hby d13_22) rfl rfl ?_
  have KK7 : Keep h1 h5 [] := ((Keep.refl h1 []).trans K5 all0)
  have f8 : Arv Z h5 b kc .char (1 : Int32) [(.int za)] (.int (0 : Int32)) := (f4.keep KK7 nin0)
  refine Wk.callS X5 hx hZ hown (w 76 _ rfl) (w 77 _ rfl) (w 66 _ rfl) (w 78 _ rfl) (by decide) (as' := [(.ref b), (.int (0 : Int32)), (.int (1 : Int32))]) (backOf (W := 0) (rm_tob1 l Z a0 hw [] b kc za h5 O6 sH sL sA f8) hZ (w 78 _ rfl) (w 66 _ rfl) (by decide) (by decide)) e5 (by rw [hml]; rfl) (rest := []) (lenOf pd5 rfl) rfl (Nat.le_of_eq rfl) (hb hby d13_23) rfl (by decide) (by decide) ?_
  intro T9 h9 v9 L9 X9 e9 hQ9
  obtain ⟨t9, kb9, rfl, Nq9, K9, q9_0, q9_1⟩ := hQ9
  have KK10 : Keep h0 h5 [] := (KK3.trans K5 all0)
  have N9 := Fk.app N5 Nq9 KK10.1 all0
  have O11 : Old Z Z.heap.size h9 := O6.keep K9 all0
  show Wp p e below _ _ T9 (mkF m 26 #[.val (.ref b), .val (.int (0 : Int32)), .val (.int (1 : Int32)), .val (.ref a1), .val (.int (0 : Int32)), .unset] [(.ref t9)])
  refine Wk.astore X9 hx (Ls' := #[.val (.ref b), .val (.int (0 : Int32)), .val (.int (1 : Int32)), .val (.ref a1), .val (.int (0 : Int32)), .val (.ref t9)]) (hb hby d13_26) rfl rfl rfl ?_
  refine Wk.aload X9 hx (hb hby d13_28) rfl rfl rfl ?_
  refine Wk.iload X9 hx (hb hby d13_30) rfl rfl ?_
  refine Wk.callS X9 hx hZ hown (w 92 _ rfl) (w 93 _ rfl) (w 66 _ rfl) (w 94 _ rfl) (by decide) (as' := [(.ref t9), (.int (0 : Int32))]) (backOf (W := 0) (rm_get0 l Z a0 hw [] t9 za kb9 (2 : Int32) [(.int (own_b0 za)), (.int (own_b1 za))] h9 O11 sH sL sA q9_1 (by first | assumption | rfl | decide | exact Nat.le_of_ble_eq_true rfl) (by first | assumption | rfl | decide | exact Nat.le_of_ble_eq_true rfl) (by first | assumption | rfl | decide | exact Nat.le_of_ble_eq_true rfl) (by first | assumption | rfl | decide | exact Nat.le_of_ble_eq_true rfl) hcza) hZ (w 94 _ rfl) (w 66 _ rfl) (by decide) (by decide)) e9 (by rw [hml]; rfl) (rest := []) (lenOf pd6 rfl) rfl (Nat.le_of_eq rfl) (hb hby d13_32) rfl (by decide) (by decide) ?_
  intro T12 h12 v12 L12 X12 e12 hQ12
  obtain ⟨rfl, Nq12, K12⟩ := hQ12
  have KK13 : Keep h0 h9 [] := (KK10.trans K9 all0)
  have N12 := Fk.app N9 Nq12 KK13.1 all0
  rw [K12] at e12
  show Wp p e below _ _ T12 (mkF m 35 #[.val (.ref b), .val (.int (0 : Int32)), .val (.int (1 : Int32)), .val (.ref a1), .val (.int (0 : Int32)), .val (.ref t9)] [(.int za)])
  refine Wk.sipush X12 hx (v := (255 : Int32)) (hb hby d13_35) rfl rfl ?_
  refine Wk.icmpYes X12 hx (hb hby d13_38) (by decide) (q := 54) rfl (tlt hgza).2.2.1 ?_
  refine Wk.aload X12 hx (hb hby d13_54) rfl rfl rfl ?_
  exact Wk.retA' X12 hx hlk hr rfl rfl (hb hby d13_56) (by decide) (by decide) (Qc := Q_rm_cp3_10 Z b kc za h0) e12 ⟨t9, kb9, rfl, N12, KK13, (Nat.le_trans KK10.1 q9_0), q9_1⟩
theorem pn7 : plainName "java/lang/String" = true := by first | (simp [plainName, overriddenIn]; done) | decide +kernel
theorem d4_0 : decode jdk_42_method_149_code 0 = .ok (.aload_n 0, 1) := by decide +kernel
theorem d4_1 : decode jdk_42_method_149_code 1 = .ok (.invokespecial 1, 3) := by decide +kernel
theorem d4_4 : decode jdk_42_method_149_code 4 = .ok (.iload_n 3, 1) := by decide +kernel
theorem d4_5 : decode jdk_42_method_149_code 5 = .ok (.ifCond .ne 22, 3) := by decide +kernel
theorem d4_27 : decode jdk_42_method_149_code 27 = .ok (.getstatic 38, 3) := by decide +kernel
theorem d4_30 : decode jdk_42_method_149_code 30 = .ok (.ifCond .eq 28, 3) := by decide +kernel
theorem d4_33 : decode jdk_42_method_149_code 33 = .ok (.aload_n 1, 1) := by decide +kernel
theorem d4_34 : decode jdk_42_method_149_code 34 = .ok (.iload_n 2, 1) := by decide +kernel
theorem d4_35 : decode jdk_42_method_149_code 35 = .ok (.iload_n 3, 1) := by decide +kernel
theorem d4_36 : decode jdk_42_method_149_code 36 = .ok (.invokestatic 177, 3) := by decide +kernel
theorem d4_39 : decode jdk_42_method_149_code 39 = .ok (.astore 5, 2) := by decide +kernel
theorem d4_41 : decode jdk_42_method_149_code 41 = .ok (.aload_n 0, 1) := by decide +kernel
theorem d4_42 : decode jdk_42_method_149_code 42 = .ok (.aload 5, 2) := by decide +kernel
theorem d4_44 : decode jdk_42_method_149_code 44 = .ok (.iload_n 3, 1) := by decide +kernel
theorem d4_45 : decode jdk_42_method_149_code 45 = .ok (.invokestatic 47, 3) := by decide +kernel
theorem pd8 : parseMethodDescriptor "([BI)B" = some ⟨[(.array .byte), .int], some .byte⟩ := by decide +kernel
theorem d4_48 : decode jdk_42_method_149_code 48 = .ok (.putfield 15, 3) := by decide +kernel
theorem d4_51 : decode jdk_42_method_149_code 51 = .ok (.aload_n 0, 1) := by decide +kernel
theorem d4_52 : decode jdk_42_method_149_code 52 = .ok (.aload 5, 2) := by decide +kernel
theorem d4_54 : decode jdk_42_method_149_code 54 = .ok (.putfield 9, 3) := by decide +kernel
theorem d4_57 : decode jdk_42_method_149_code 57 = .ok (.return_, 1) := by decide +kernel
def Q_rm_iv_10 (Z : State) (x : Addr) (b : Addr) (kc : ClassId) (G1 : Int32) (za : Int32) (h0 : Heap) (v : Option Value) (h : Heap) (L : List Loc) : Prop := ∃ t : Addr, ∃ kb : ClassId, v = none ∧ Fk h0.size [x] L ∧ Keep h0 h [x] ∧ h0.size ≤ t ∧ Exa Z h x "java/lang/String" ∧ Fld Z h x "java/lang/String" "coder" "B" (.int (1 : Int32)) ∧ Fld Z h x "java/lang/String" "value" "[B" (.ref t) ∧ Arv Z h t kb .byte (2 : Int32) [(.int (own_b0 za)), (.int (own_b1 za))] (.int (0 : Int32))
set_option maxRecDepth 65536 in
set_option maxHeartbeats 40000000 in
theorem rm_iv_10 (l : Launch) (Z : State) (a0 : Array Value) (hw : ∀ d ∈ tables_1, d.before a0 Z = true) (ws : List Jvm.Cond) (x : Addr) (b : Addr) (kc : ClassId) (G1 : Int32) (za : Int32) (h0 : Heap) (O0 : Old Z Z.heap.size h0) (sH : Sta Z Z.heap "java/lang/StringUTF16" "HI_BYTE_SHIFT" "I" (.int (0 : Int32))) (sL : Sta Z Z.heap "java/lang/StringUTF16" "LO_BYTE_SHIFT" "I" (.int (8 : Int32))) (sA : Sta Z Z.heap "java/lang/StringUTF16" "$assertionsDisabled" "Z" (.int (1 : Int32))) (SG1 : Sta Z Z.heap "java/lang/String" "COMPACT_STRINGS" "Z" (.int G1)) (nG1 : ¬ G1 = 0) (hE : Exa Z h0 x "java/lang/String") (hV : Fld Z h0 x "java/lang/String" "value" "[B" .null) (hC : Fld Z h0 x "java/lang/String" "coder" "B" (.int (0 : Int32))) (hxz : Z.heap.size ≤ x) (hA : Arv Z h0 b kc .char (1 : Int32) [(.int za)] (.int (0 : Int32))) (hcza : Chr za) (hgza : (255 : Int32) < za) :
    Ctr l Z (⟨"java/lang/String", "<init>", "([CIILjava/lang/Void;)V"⟩ : MethodName) jdk_42_method_149_code 6 none ws ({ frames := 4, cells := 2, slots := 3, locals := 57 } : Room) #[(.ref x), (.ref b), (.int (0 : Int32)), (.int (1 : Int32)), .null] h0 (Q_rm_iv_10 Z x b kc G1 za h0) := by
  refine Ctr.intro (Ls := fun _ => #[.val (.ref x), .val (.ref b), .val (.int (0 : Int32)), .val (.int (1 : Int32)), .val .null, .unset]) (plainFor_of_name pn7) (fun m => by first | rfl | (simp [entryFrame, mkF, argsToLocals, Value.category]; done)) ?_
  intro p e s m below meth c s₁ hx hby hml hr hlk hZ hown hnm hs0 X0 e0
  have w : ∀ (k : Nat) (d : Jvm.Cond), tables_1[k]? = some d → d.before a0 Z = true := fun k d q => hw d (List.mem_of_getElem? q)
  have N0 := Fk.nil h0.size [x]
  refine Wk.aloadN X0 hx (hb hby d4_0) rfl rfl rfl ?_
  refine Wk.objinit X0 hx hZ hown (w 19 _ rfl) (w 20 _ rfl) (w 21 _ rfl) e0 (by rw [hml]; rfl) (hb hby d4_1) rfl (by decide) 0 (Nat.le_of_eq rfl) (by decide) ?_
  intro T1 X1 e1
  refine Wk.iloadN X1 hx (hb hby d4_4) rfl rfl ?_
  refine Wk.ifYes X1 hx (hb hby d4_5) (by decide) (q := 27) rfl ((if0 _ _).trans (feq (by decide : ¬ ((1 : Int32) = (0 : Int32)))).2) ?_
  refine Wk.getstatic X1 hx hZ hown (host := "") (Or.inl (w 44 _ rfl)) Via.refl e1 (SG1.ext O0.2) (hb hby d4_27) rfl ?_
  intro T2 X2 e2
  refine Wk.ifNo X2 hx (hb hby d4_30) rfl ((if0 _ _).trans (feq nG1).1) ?_
  refine Wk.aloadN X2 hx (hb hby d4_33) rfl rfl rfl ?_
  refine Wk.iloadN X2 hx (hb hby d4_34) rfl rfl ?_
  refine Wk.iloadN X2 hx (hb hby d4_35) rfl rfl ?_
  refine Wk.callS X2 hx hZ hown (w 64 _ rfl) (w 65 _ rfl) (w 66 _ rfl) (w 67 _ rfl) (by decide) (as' := [(.ref b), (.int (0 : Int32)), (.int (1 : Int32))]) (backOf (W := 0) (rm_cp3_10 l Z a0 hw [] b kc za h0 O0 sH sL sA hA hcza hgza) hZ (w 67 _ rfl) (w 66 _ rfl) (by decide) (by decide)) e2 (by rw [hml]; rfl) (rest := []) (lenOf pd5 rfl) rfl (Nat.le_of_eq rfl) (hb hby d4_36) rfl (by decide) (by decide) ?_
  intro T3 h3 v3 L3 X3 e3 hQ3
  obtain ⟨t3, kb3, rfl, Nq3, K3, q3_0, q3_1⟩ := hQ3
  have N3 := Fk.app N0 Nq3 (Nat.le_refl _) all0
  have O4 : Old Z Z.heap.size h3 := O0.keep K3 all0
  show Wp p e below _ _ T3 (mkF m 39 #[.val (.ref x), .val (.ref b), .val (.int (0 : Int32)), .val (.int (1 : Int32)), .val .null, .unset] [(.ref t3)])
  refine Wk.astore X3 hx (Ls' := #[.val (.ref x), .val (.ref b), .val (.int (0 : Int32)), .val (.int (1 : Int32)), .val .null, .val (.ref t3)]) (hb hby d4_39) rfl rfl rfl ?_
  refine Wk.aloadN X3 hx (hb hby d4_41) rfl rfl rfl ?_
  refine Wk.aload X3 hx (hb hby d4_42) rfl rfl rfl ?_
  refine Wk.iloadN X3 hx (hb hby d4_44) rfl rfl ?_
  refine Wk.callS X3 hx hZ hown (w 71 _ rfl) (w 72 _ rfl) (w 66 _ rfl) (w 73 _ rfl) (by decide) (as' := [(.ref t3), (.int (1 : Int32))]) (backOf (W := 1) (rm_cfa1 l Z a0 hw [] t3 kb3 [(.int (own_b0 za)), (.int (own_b1 za))] h3 O4 q3_1) hZ (w 73 _ rfl) (w 66 _ rfl) (by decide) (by decide)) e3 (by rw [hml]; rfl) (rest := [(.ref x)]) (lenOf pd8 rfl) rfl (Nat.le_of_eq rfl) (hb hby d4_45) rfl (by decide) (by decide) ?_
  intro T5 h5 v5 L5 X5 e5 hQ5
  obtain ⟨rfl, Nq5, K5⟩ := hQ5
  have KK6 : Keep h0 h3 [] := ((Keep.refl h0 []).trans K3 all0)
  have N5 := Fk.app N3 Nq5 KK6.1 all0
  rw [K5] at e5
  show Wp p e below _ _ T5 (mkF m 48 #[.val (.ref x), .val (.ref b), .val (.int (0 : Int32)), .val (.int (1 : Int32)), .val .null, .val (.ref t3)] [(.int (1 : Int32)), (.ref x)])
  have f7 : Exa Z h3 x "java/lang/String" := (hE.keep KK6)
  have f8 : Fld Z h3 x "java/lang/String" "coder" "B" (.int (0 : Int32)) := (hC.keep KK6 nin0)
  have f10 : Fld Z h3 x "java/lang/String" "value" "[B" .null := (hV.keep KK6 nin0)
  refine Wk.putfieldN X5 hx hZ hown (w 29 _ rfl) Via.refl e5 (v' := (.int (1 : Int32))) f8 f7 (Or.inr ⟨(w 25 _ rfl), rfl, hnm⟩) (w 9 _ rfl) (ty := .byte) (by decide) rfl rfl (hb hby d4_48) rfl ?_
  intro T9 h9 L9 M9 X9 e9 W9 Fw9
  have N9 := M9 _ _ N5 (Or.inl (List.mem_of_getElem? (i := 0) rfl))
  have O11 : Old Z Z.heap.size h9 := O4.wr W9 hxz
  have f12 : Fld Z h9 x "java/lang/String" "value" "[B" .null := f10.other W9 (Or.inr (slot_ne (Or.inr (w 24 _ rfl)) (Or.inr (w 25 _ rfl)) (by decide) (t := (.array .byte)) (t' := .byte) (by decide) (by decide)))
  have E9' : Exa Z h9 x "java/lang/String" := f7.wr W9
  refine Wk.aloadN X9 hx (hb hby d4_51) rfl rfl rfl ?_
  refine Wk.aload X9 hx (hb hby d4_52) rfl rfl rfl ?_
  refine Wk.putfield X9 hx hZ hown (host := "") (Or.inl (w 28 _ rfl)) Via.refl e9 f12 E9' (Or.inr ⟨(w 24 _ rfl), rfl, hnm⟩) (w 9 _ rfl) (ty := (.array .byte)) (by decide) rfl rfl (hb hby d4_54) rfl ?_
  intro T13 h13 L13 M13 X13 e13 W13 Fw13
  have N13 := M13 _ _ N9 (Or.inl (List.mem_of_getElem? (i := 0) rfl))
  have O14 : Old Z Z.heap.size h13 := O11.wr W13 hxz
  have f15 : Fld Z h13 x "java/lang/String" "coder" "B" (.int (1 : Int32)) := Fw9.other W13 (Or.inr (slot_ne (Or.inr (w 25 _ rfl)) (Or.inr (w 24 _ rfl)) (by decide) (t := .byte) (t' := (.array .byte)) (by decide) (by decide)))
  have E13' : Exa Z h13 x "java/lang/String" := E9'.wr W13
  have KK16 : Keep h0 h13 [x] := ((((Keep.refl h0 [x]).trans K3 all0).wr W9 (Or.inl (List.mem_of_getElem? (i := 0) rfl))).wr W13 (Or.inl (List.mem_of_getElem? (i := 0) rfl)))
  have KK17 : Keep h3 h13 [x] := (((Keep.refl h3 [x]).wr W9 (Or.inl (List.mem_of_getElem? (i := 0) rfl))).wr W13 (Or.inl (List.mem_of_getElem? (i := 0) rfl)))
  have f18 : Arv Z h13 t3 kb3 .byte (2 : Int32) [(.int (own_b0 za)), (.int (own_b1 za))] (.int (0 : Int32)) := (q3_1.keep KK17 (ninS (Ne.symm (Nat.ne_of_lt (Nat.lt_of_lt_of_le hE.lt q3_0))) nin0))
  exact Wk.ret0' X13 hx hlk hr (hb hby d4_57) (by decide) (by decide) (Qc := Q_rm_iv_10 Z x b kc G1 za h0) e13 ⟨t3, kb3, rfl, N13, KK16, q3_0, E13', f15, Fw13, f18⟩
theorem d3_0 : decode jdk_42_method_3_code 0 = .ok (.aload_n 0, 1) := by decide +kernel
theorem d3_1 : decode jdk_42_method_3_code 1 = .ok (.aload_n 1, 1) := by decide +kernel
theorem d3_2 : decode jdk_42_method_3_code 2 = .ok (.iconst 0, 1) := by decide +kernel
theorem d3_3 : decode jdk_42_method_3_code 3 = .ok (.aload_n 1, 1) := by decide +kernel
theorem d3_4 : decode jdk_42_method_3_code 4 = .ok (.arraylength, 1) := by decide +kernel
theorem d3_5 : decode jdk_42_method_3_code 5 = .ok (.aconst_null, 1) := by decide +kernel
theorem d3_6 : decode jdk_42_method_3_code 6 = .ok (.invokespecial 27, 3) := by decide +kernel
theorem pd9 : parseMethodDescriptor "([CIILjava/lang/Void;)V" = some ⟨[(.array .char), .int, .int, (.object "java/lang/Void")], none⟩ := by decide +kernel
theorem d3_9 : decode jdk_42_method_3_code 9 = .ok (.return_, 1) := by decide +kernel
def Q_rm_ic_10 (Z : State) (x : Addr) (b : Addr) (kc : ClassId) (G1 : Int32) (za : Int32) (h0 : Heap) (v : Option Value) (h : Heap) (L : List Loc) : Prop := ∃ t : Addr, ∃ kb : ClassId, v = none ∧ Fk h0.size [x] L ∧ Keep h0 h [x] ∧ h0.size ≤ t ∧ Exa Z h x "java/lang/String" ∧ Fld Z h x "java/lang/String" "coder" "B" (.int (1 : Int32)) ∧ Fld Z h x "java/lang/String" "value" "[B" (.ref t) ∧ Arv Z h t kb .byte (2 : Int32) [(.int (own_b0 za)), (.int (own_b1 za))] (.int (0 : Int32))
set_option maxRecDepth 65536 in
set_option maxHeartbeats 40000000 in
theorem rm_ic_10 (l : Launch) (Z : State) (a0 : Array Value) (hw : ∀ d ∈ tables_1, d.before a0 Z = true) (ws : List Jvm.Cond) (x : Addr) (b : Addr) (kc : ClassId) (G1 : Int32) (za : Int32) (h0 : Heap) (O0 : Old Z Z.heap.size h0) (sH : Sta Z Z.heap "java/lang/StringUTF16" "HI_BYTE_SHIFT" "I" (.int (0 : Int32))) (sL : Sta Z Z.heap "java/lang/StringUTF16" "LO_BYTE_SHIFT" "I" (.int (8 : Int32))) (sA : Sta Z Z.heap "java/lang/StringUTF16" "$assertionsDisabled" "Z" (.int (1 : Int32))) (SG1 : Sta Z Z.heap "java/lang/String" "COMPACT_STRINGS" "Z" (.int G1)) (nG1 : ¬ G1 = 0) (hE : Exa Z h0 x "java/lang/String") (hV : Fld Z h0 x "java/lang/String" "value" "[B" .null) (hC : Fld Z h0 x "java/lang/String" "coder" "B" (.int (0 : Int32))) (hxz : Z.heap.size ≤ x) (hA : Arv Z h0 b kc .char (1 : Int32) [(.int za)] (.int (0 : Int32))) (hcza : Chr za) (hgza : (255 : Int32) < za) :
    Ctr l Z (⟨"java/lang/String", "<init>", "([C)V"⟩ : MethodName) jdk_42_method_3_code 2 none ws ({ frames := 5, cells := 2, slots := 3, locals := 74 } : Room) #[(.ref x), (.ref b)] h0 (Q_rm_ic_10 Z x b kc G1 za h0) := by
  refine Ctr.intro (Ls := fun _ => #[.val (.ref x), .val (.ref b)]) (plainFor_of_name pn7) (fun m => by first | rfl | (simp [entryFrame, mkF, argsToLocals, Value.category]; done)) ?_
  intro p e s m below meth c s₁ hx hby hml hr hlk hZ hown hnm hs0 X0 e0
  have w : ∀ (k : Nat) (d : Jvm.Cond), tables_1[k]? = some d → d.before a0 Z = true := fun k d q => hw d (List.mem_of_getElem? q)
  have N0 := Fk.nil h0.size [x]
  refine Wk.aloadN X0 hx (hb hby d3_0) rfl rfl rfl ?_
  refine Wk.aloadN X0 hx (hb hby d3_1) rfl rfl rfl ?_
  refine Wk.iconst X0 hx (v := (0 : Int32)) (hb hby d3_2) rfl rfl ?_
  refine Wk.aloadN X0 hx (hb hby d3_3) rfl rfl rfl ?_
  refine Wk.arraylength X0 hx hZ e0 hA (hb hby d3_4) rfl ?_
  refine Wk.aconstNull X0 hx (hb hby d3_5) rfl ?_
  refine Wk.callI X0 hx hZ rfl hown (w 15 _ rfl) (w 16 _ rfl) (w 18 _ rfl) (by decide) (as' := [(.ref b), (.int (0 : Int32)), (.int (1 : Int32)), .null]) (backOf (W := 0) (rm_iv_10 l Z a0 hw [] x b kc G1 za h0 O0 sH sL sA SG1 nG1 hE hV hC hxz hA hcza hgza) hZ (w 18 _ rfl) (w 10 _ rfl) (by decide) (by decide)) e0 (by rw [hml]; rfl) (rest := []) (lenOf pd9 rfl) rfl (Nat.le_of_eq rfl) (hb hby d3_6) rfl (by decide) (by decide) ?_
  intro T1 h1 v1 L1 X1 e1 hQ1
  obtain ⟨t1, kb1, rfl, Nq1, K1, q1_0, q1_1, q1_2, q1_3, q1_4⟩ := hQ1
  have N1 := Fk.app N0 Nq1 (Nat.le_refl _) (allS (Or.inl (List.mem_of_getElem? (i := 0) rfl)) all0)
  have O2 : Old Z Z.heap.size h1 := O0.keep K1 (allS hxz all0)
  show Wp p e below _ _ T1 (mkF m 9 #[.val (.ref x), .val (.ref b)] [])
  have KK3 : Keep h0 h1 [x] := ((Keep.refl h0 [x]).trans K1 (allS (Or.inl (List.mem_of_getElem? (i := 0) rfl)) all0))
  exact Wk.ret0' X1 hx hlk hr (hb hby d3_9) (by decide) (by decide) (Qc := Q_rm_ic_10 Z x b kc G1 za h0) e1 ⟨t1, kb1, rfl, N1, KK3, q1_0, q1_1, q1_2, q1_3, q1_4⟩
def Q_rm_nbl2 (Z : State) (h0 : Heap) (v : Option Value) (h : Heap) (L : List Loc) : Prop := v = some (.int (4 : Int32)) ∧ Fk h0.size [] L ∧ h = h0
set_option maxRecDepth 65536 in
set_option maxHeartbeats 40000000 in
theorem rm_nbl2 (l : Launch) (Z : State) (a0 : Array Value) (hw : ∀ d ∈ tables_1, d.before a0 Z = true) (ws : List Jvm.Cond) (h0 : Heap) (O0 : Old Z Z.heap.size h0) :
    Ctr l Z (⟨"java/lang/StringUTF16", "newBytesLength", "(I)I"⟩ : MethodName) jdk_52_method_3_code 1 (some .int) ws ({ frames := 0, cells := 0, slots := 0, locals := 0 } : Room) #[(.int (2 : Int32))] h0 (Q_rm_nbl2 Z h0) := by
  refine Ctr.intro (Ls := fun _ => #[.val (.int (2 : Int32))]) (plainFor_of_name pn0) (fun m => by first | rfl | (simp [entryFrame, mkF, argsToLocals, Value.category]; done)) ?_
  intro p e s m below meth c s₁ hx hby hml hr hlk hZ hown hnm hs0 X0 e0
  have w : ∀ (k : Nat) (d : Jvm.Cond), tables_1[k]? = some d → d.before a0 Z = true := fun k d q => hw d (List.mem_of_getElem? q)
  have N0 := Fk.nil h0.size []
  refine Wk.iloadN X0 hx (hb hby d18_0) rfl rfl ?_
  refine Wk.ifYes X0 hx (hb hby d18_1) (by decide) (q := 12) rfl ((if0 _ _).trans (flt (by decide : ¬ ((2 : Int32) < (0 : Int32)))).2.1) ?_
  refine Wk.iloadN X0 hx (hb hby d18_12) rfl rfl ?_
  refine Wk.ldcInt X0 hx hZ hown (w 85 _ rfl) (hb hby d18_13) rfl ?_
  refine Wk.icmpYes X0 hx (hb hby d18_15) (by decide) (q := 55) rfl (tlt (by decide : (2 : Int32) < (1073741823 : Int32))).1 ?_
  refine Wk.iloadN X0 hx (hb hby d18_55) rfl rfl ?_
  refine Wk.iconst X0 hx (v := (1 : Int32)) (hb hby d18_56) rfl rfl ?_
  refine Wk.ishl X0 hx (hb hby d18_57) rfl ?_
  rw [(by decide : (((2 : Int32) <<< ((1 : Int32) &&& 31)) : Int32) = (4 : Int32))]
  exact Wk.retI' X0 hx hlk hr (hb hby d18_58) (by decide) (by decide) (Qc := Q_rm_nbl2 Z h0) e0 ⟨rfl, N0, rfl⟩
def Q_rm_nbf2 (Z : State) (h0 : Heap) (v : Option Value) (h : Heap) (L : List Loc) : Prop := ∃ t : Addr, ∃ kb : ClassId, v = some (.ref t) ∧ Fk h0.size [] L ∧ Keep h0 h [] ∧ h0.size ≤ t ∧ Arv Z h t kb .byte (4 : Int32) [(.int (0 : Int32)), (.int (0 : Int32)), (.int (0 : Int32)), (.int (0 : Int32))] (.int (0 : Int32))
set_option maxRecDepth 65536 in
set_option maxHeartbeats 40000000 in
theorem rm_nbf2 (l : Launch) (Z : State) (a0 : Array Value) (hw : ∀ d ∈ tables_1, d.before a0 Z = true) (ws : List Jvm.Cond) (h0 : Heap) (O0 : Old Z Z.heap.size h0) :
    Ctr l Z (⟨"java/lang/StringUTF16", "newBytesFor", "(I)[B"⟩ : MethodName) jdk_52_method_2_code 1 (some (.array .byte)) ws ({ frames := 1, cells := 1, slots := 4, locals := 12 } : Room) #[(.int (2 : Int32))] h0 (Q_rm_nbf2 Z h0) := by
  refine Ctr.intro (Ls := fun _ => #[.val (.int (2 : Int32))]) (plainFor_of_name pn0) (fun m => by first | rfl | (simp [entryFrame, mkF, argsToLocals, Value.category]; done)) ?_
  intro p e s m below meth c s₁ hx hby hml hr hlk hZ hown hnm hs0 X0 e0
  have w : ∀ (k : Nat) (d : Jvm.Cond), tables_1[k]? = some d → d.before a0 Z = true := fun k d q => hw d (List.mem_of_getElem? q)
  have N0 := Fk.nil h0.size []
  refine Wk.iloadN X0 hx (hb hby d17_0) rfl rfl ?_
  refine Wk.callS X0 hx hZ hown (w 82 _ rfl) (w 83 _ rfl) (w 66 _ rfl) (w 84 _ rfl) (by decide) (as' := [(.int (2 : Int32))]) (backOf (W := 0) (rm_nbl2 l Z a0 hw [] h0 O0) hZ (w 84 _ rfl) (w 66 _ rfl) (by decide) (by decide)) e0 (by rw [hml]; rfl) (rest := []) (lenOf pd1 rfl) rfl (Nat.le_of_eq rfl) (hb hby d17_1) rfl (by decide) (by decide) ?_
  intro T1 h1 v1 L1 X1 e1 hQ1
  obtain ⟨rfl, Nq1, K1⟩ := hQ1
  have N1 := Fk.app N0 Nq1 (Nat.le_refl _) all0
  rw [K1] at e1
  show Wp p e below _ _ T1 (mkF m 4 #[.val (.int (2 : Int32))] [(.int (4 : Int32))])
  refine Wk.newarray X1 hx hZ (w 23 _ rfl) e1 (hb hby d17_4) rfl (by decide) 4 (by decide) (by decide) (by decide) (by decide) ?_
  intro T2 h2 a2 kA2 g2 X2 e2 E2 A2
  have O3 : Old Z Z.heap.size h2 := O0.ext E2
  have V2 : Arv Z h2 a2 kA2 .byte (4 : Int32) [(.int (0 : Int32)), (.int (0 : Int32)), (.int (0 : Int32)), (.int (0 : Int32))] (.int (0 : Int32)) := A2.pad (pad_rep [] (.int (0 : Int32)) 4)
  have KK4 : Keep h0 h2 [] := ((Keep.refl h0 []).ext E2)
  exact Wk.retA' X2 hx hlk hr rfl rfl (hb hby d17_6) (by decide) (by decide) (Qc := Q_rm_nbf2 Z h0) e2 ⟨a2, kA2, rfl, N1, KK4, (Nat.le_of_eq g2), V2⟩
def Q_rm_tob2 (Z : State) (b : Addr) (kc : ClassId) (za : Int32) (zb : Int32) (h0 : Heap) (v : Option Value) (h : Heap) (L : List Loc) : Prop := ∃ t : Addr, ∃ kb : ClassId, v = some (.ref t) ∧ Fk h0.size [] L ∧ Keep h0 h [] ∧ h0.size ≤ t ∧ Arv Z h t kb .byte (4 : Int32) [(.int (own_b0 za)), (.int (own_b1 za)), (.int (own_b0 zb)), (.int (own_b1 zb))] (.int (0 : Int32))
set_option maxRecDepth 65536 in
set_option maxHeartbeats 40000000 in
theorem rm_tob2 (l : Launch) (Z : State) (a0 : Array Value) (hw : ∀ d ∈ tables_1, d.before a0 Z = true) (ws : List Jvm.Cond) (b : Addr) (kc : ClassId) (za : Int32) (zb : Int32) (h0 : Heap) (O0 : Old Z Z.heap.size h0) (sH : Sta Z Z.heap "java/lang/StringUTF16" "HI_BYTE_SHIFT" "I" (.int (0 : Int32))) (sL : Sta Z Z.heap "java/lang/StringUTF16" "LO_BYTE_SHIFT" "I" (.int (8 : Int32))) (sA : Sta Z Z.heap "java/lang/StringUTF16" "$assertionsDisabled" "Z" (.int (1 : Int32))) (hA : Arv Z h0 b kc .char (2 : Int32) [(.int za), (.int zb)] (.int (0 : Int32))) :
    Ctr l Z (⟨"java/lang/StringUTF16", "toBytes", "([CII)[B"⟩ : MethodName) jdk_52_method_14_code 5 (some (.array .byte)) ws ({ frames := 2, cells := 1, slots := 4, locals := 24 } : Room) #[(.ref b), (.int (0 : Int32)), (.int (2 : Int32))] h0 (Q_rm_tob2 Z b kc za zb h0) := by
  refine Ctr.intro (Ls := fun _ => #[.val (.ref b), .val (.int (0 : Int32)), .val (.int (2 : Int32)), .unset, .unset]) (plainFor_of_name pn0) (fun m => by first | rfl | (simp [entryFrame, mkF, argsToLocals, Value.category]; done)) ?_
  intro p e s m below meth c s₁ hx hby hml hr hlk hZ hown hnm hs0 X0 e0
  have w : ∀ (k : Nat) (d : Jvm.Cond), tables_1[k]? = some d → d.before a0 Z = true := fun k d q => hw d (List.mem_of_getElem? q)
  have N0 := Fk.nil h0.size []
  refine Wk.iloadN X0 hx (hb hby d16_0) rfl rfl ?_
  refine Wk.callS X0 hx hZ hown (w 79 _ rfl) (w 80 _ rfl) (w 66 _ rfl) (w 81 _ rfl) (by decide) (as' := [(.int (2 : Int32))]) (backOf (W := 0) (rm_nbf2 l Z a0 hw [] h0 O0) hZ (w 81 _ rfl) (w 66 _ rfl) (by decide) (by decide)) e0 (by rw [hml]; rfl) (rest := []) (lenOf pd2 rfl) rfl (Nat.le_of_eq rfl) (hb hby d16_1) rfl (by decide) (by decide) ?_
  intro T1 h1 v1 L1 X1 e1 hQ1
  obtain ⟨t1, kb1, rfl, Nq1, K1, q1_0, q1_1⟩ := hQ1
  have N1 := Fk.app N0 Nq1 (Nat.le_refl _) all0
  have O2 : Old Z Z.heap.size h1 := O0.keep K1 all0
  show Wp p e below _ _ T1 (mkF m 4 #[.val (.ref b), .val (.int (0 : Int32)), .val (.int (2 : Int32)), .unset, .unset] [(.ref t1)])
  refine Wk.astoreN X1 hx (Ls' := #[.val (.ref b), .val (.int (0 : Int32)), .val (.int (2 : Int32)), .val (.ref t1), .unset]) (hb hby d16_4) rfl rfl rfl ?_
  refine Wk.iconst X1 hx (v := (0 : Int32)) (hb hby d16_5) rfl rfl ?_
  refine Wk.istore X1 hx (Ls' := #[.val (.ref b), .val (.int (0 : Int32)), .val (.int (2 : Int32)), .val (.ref t1), .val (.int (0 : Int32))]) (hb hby d16_6) rfl rfl ?_
  refine Wk.iload X1 hx (hb hby d16_8) rfl rfl ?_
  refine Wk.iloadN X1 hx (hb hby d16_10) rfl rfl ?_
  refine Wk.icmpNo X1 hx (hb hby d16_11) rfl (tlt (by decide : (0 : Int32) < (2 : Int32))).2.1 ?_
  refine Wk.aloadN X1 hx (hb hby d16_14) rfl rfl rfl ?_
  refine Wk.iload X1 hx (hb hby d16_15) rfl rfl ?_
  refine Wk.aloadN X1 hx (hb hby d16_17) rfl rfl rfl ?_
  refine Wk.iloadN X1 hx (hb hby d16_18) rfl rfl ?_
  have KK3 : Keep h0 h1 [] := ((Keep.refl h0 []).trans K1 all0)
  have f4 : Arv Z h1 b kc .char (2 : Int32) [(.int za), (.int zb)] (.int (0 : Int32)) := (hA.keep KK3 nin0)
  refine Wk.caload X1 hx hZ e1 f4 (by decide) (by decide) (v := za) rfl (hb hby d16_19) rfl ?_
  refine Wk.callS X1 hx hZ hown (w 86 _ rfl) (w 87 _ rfl) (w 66 _ rfl) (w 88 _ rfl) (by decide) (as' := [(.ref t1), (.int (0 : Int32)), (.int za)]) (backOf (W := 0) (rm_put0 l Z a0 hw [] t1 za kb1 (4 : Int32) [(.int (0 : Int32)), (.int (0 : Int32)), (.int (0 : Int32)), (.int (0 : Int32))] h1 O2 sH sL sA q1_1 (by first | assumption | rfl | decide | exact Nat.le_of_ble_eq_true rfl) (by first | assumption | rfl | decide | exact Nat.le_of_ble_eq_true rfl) (by first | assumption | rfl | decide | exact Nat.le_of_ble_eq_true rfl) (Nat.le_trans (Nat.le_trans (Nat.le_trans (Nat.le_of_eq O0.1.symm) O0.2.1) (Keep.refl h0 []).1) q1_0)) hZ (w 88 _ rfl) (w 66 _ rfl) (by decide) (by decide)) e1 (by rw [hml]; rfl) (rest := []) (lenOf pd3 rfl) rfl (Nat.le_of_eq rfl) (hb hby d16_20) rfl (by decide) (by decide) ?_
  intro T5 h5 v5 L5 X5 e5 hQ5
  obtain ⟨rfl, Nq5, K5, q5_0⟩ := hQ5
  have N5 := Fk.app N1 Nq5 KK3.1 (allS (Or.inr q1_0) all0)
  have O6 : Old Z Z.heap.size h5 := O2.keep K5 (allS (Nat.le_trans (Nat.le_trans (Nat.le_trans (Nat.le_of_eq O0.1.symm) O0.2.1) (Keep.refl h0 []).1) q1_0) all0)
  have Vl7 : Arv Z h5 t1 kb1 .byte (4 : Int32) [(.int (own_b0 za)), (.int (own_b1 za)), (.int (0 : Int32)), (.int (0 : Int32))] (.int (0 : Int32)) := q5_0
  show Wp p e below _ _ T5 (mkF m 23 #[.val (.ref b), .val (.int (0 : Int32)), .val (.int (2 : Int32)), .val (.ref t1), .val (.int (0 : Int32))] [])
  refine Wk.iinc X5 hx (Ls' := #[.val (.ref b), .val (.int (1 : Int32)), .val (.int (2 : Int32)), .val (.ref t1), .val (.int (0 : Int32))]) (hb hby d16_23) rfl rfl rfl ?_
  refine Wk.iinc X5 hx (Ls' := #[.val (.ref b), .val (.int (1 : Int32)), .val (.int (2 : Int32)), .val (.ref t1), .val (.int (1 : Int32))]) (hb hby d16_26) rfl rfl rfl ?_
  refine Wk.goto X5 hx (hb hby d16_29) (by decide) (q := 8) rfl ?_
  refine Wk.iload X5 hx (hb hby d16_8) rfl rfl ?_
  refine Wk.iloadN X5 hx (hb hby d16_10) rfl rfl ?_
  refine Wk.icmpNo X5 hx (hb hby d16_11) rfl (tlt (by decide : (1 : Int32) < (2 : Int32))).2.1 ?_
  refine Wk.aloadN X5 hx (hb hby d16_14) rfl rfl rfl ?_
  refine Wk.iload X5 hx (hb hby d16_15) rfl rfl ?_
  refine Wk.aloadN X5 hx (hb hby d16_17) rfl rfl rfl ?_
  refine Wk.iloadN X5 hx (hb hby d16_18) rfl rfl ?_
  have KK8 : Keep h0 h5 [] := (KK3.trans K5 (allS (Or.inr q1_0) all0))
  have f9 : Arv Z h5 b kc .char (2 : Int32) [(.int za), (.int zb)] (.int (0 : Int32)) := (hA.keep KK8 nin0)
  refine Wk.caload X5 hx hZ e5 f9 (by decide) (by decide) (v := zb) rfl (hb hby d16_19) rfl ?_
  refine Wk.callS X5 hx hZ hown (w 86 _ rfl) (w 87 _ rfl) (w 66 _ rfl) (w 88 _ rfl) (by decide) (as' := [(.ref t1), (.int (1 : Int32)), (.int zb)]) (backOf (W := 0) (rm_put1 l Z a0 hw [] t1 zb kb1 (4 : Int32) [(.int (own_b0 za)), (.int (own_b1 za)), (.int (0 : Int32)), (.int (0 : Int32))] h5 O6 sH sL sA Vl7 (by first | assumption | rfl | decide | exact Nat.le_of_ble_eq_true rfl) (by first | assumption | rfl | decide | exact Nat.le_of_ble_eq_true rfl) (by first | assumption | rfl | decide | exact Nat.le_of_ble_eq_true rfl) (Nat.le_trans (Nat.le_trans (Nat.le_trans (Nat.le_of_eq O0.1.symm) O0.2.1) (Keep.refl h0 []).1) q1_0)) hZ (w 88 _ rfl) (w 66 _ rfl) (by decide) (by decide)) e5 (by rw [hml]; rfl) (rest := []) (lenOf pd3 rfl) rfl (Nat.le_of_eq rfl) (hb hby d16_20) rfl (by decide) (by decide) ?_
  intro T10 h10 v10 L10 X10 e10 hQ10
  obtain ⟨rfl, Nq10, K10, q10_0⟩ := hQ10
  have N10 := Fk.app N5 Nq10 KK8.1 (allS (Or.inr q1_0) all0)
  have O11 : Old Z Z.heap.size h10 := O6.keep K10 (allS (Nat.le_trans (Nat.le_trans (Nat.le_trans (Nat.le_of_eq O0.1.symm) O0.2.1) (Keep.refl h0 []).1) q1_0) all0)
  have Vl12 : Arv Z h10 t1 kb1 .byte (4 : Int32) [(.int (own_b0 za)), (.int (own_b1 za)), (.int (own_b0 zb)), (.int (own_b1 zb))] (.int (0 : Int32)) := q10_0
  show Wp p e below _ _ T10 (mkF m 23 #[.val (.ref b), .val (.int (1 : Int32)), .val (.int (2 : Int32)), .val (.ref t1), .val (.int (1 : Int32))] [])
  refine Wk.iinc X10 hx (Ls' := #[.val (.ref b), .val (.int (2 : Int32)), .val (.int (2 : Int32)), .val (.ref t1), .val (.int (1 : Int32))]) (hb hby d16_23) rfl rfl rfl ?_
  refine Wk.iinc X10 hx (Ls' := #[.val (.ref b), .val (.int (2 : Int32)), .val (.int (2 : Int32)), .val (.ref t1), .val (.int (2 : Int32))]) (hb hby d16_26) rfl rfl rfl ?_
  refine Wk.goto X10 hx (hb hby d16_29) (by decide) (q := 8) rfl ?_
  refine Wk.iload X10 hx (hb hby d16_8) rfl rfl ?_
  refine Wk.iloadN X10 hx (hb hby d16_10) rfl rfl ?_
  refine Wk.icmpYes X10 hx (hb hby d16_11) (by decide) (q := 32) rfl (flt (by decide : ¬ ((2 : Int32) < (2 : Int32)))).2.1 ?_
  refine Wk.aloadN X10 hx (hb hby d16_32) rfl rfl rfl ?_
  have KK13 : Keep h0 h10 [] := (KK8.trans K10 (allS (Or.inr q1_0) all0))
  exact Wk.retA' X10 hx hlk hr rfl rfl (hb hby d16_33) (by decide) (by decide) (Qc := Q_rm_tob2 Z b kc za zb h0) e10 ⟨t1, kb1, rfl, N10, KK13, q1_0, Vl12⟩
def Q_rm_cfa2 (Z : State) (t : Addr) (kb : ClassId) (vs : List Value) (h0 : Heap) (v : Option Value) (h : Heap) (L : List Loc) : Prop := v = some (.int (1 : Int32)) ∧ Fk h0.size [] L ∧ h = h0
set_option maxRecDepth 65536 in
set_option maxHeartbeats 40000000 in
theorem rm_cfa2 (l : Launch) (Z : State) (a0 : Array Value) (hw : ∀ d ∈ tables_1, d.before a0 Z = true) (ws : List Jvm.Cond) (t : Addr) (kb : ClassId) (vs : List Value) (h0 : Heap) (O0 : Old Z Z.heap.size h0) (hA : Arv Z h0 t kb .byte (4 : Int32) vs (.int (0 : Int32))) :
    Ctr l Z (⟨"java/lang/StringUTF16", "coderFromArrayLen", "([BI)B"⟩ : MethodName) jdk_52_method_15_code 2 (some .byte) ws ({ frames := 0, cells := 0, slots := 0, locals := 0 } : Room) #[(.ref t), (.int (2 : Int32))] h0 (Q_rm_cfa2 Z t kb vs h0) := by
  refine Ctr.intro (Ls := fun _ => #[.val (.ref t), .val (.int (2 : Int32))]) (plainFor_of_name pn0) (fun m => by first | rfl | (simp [entryFrame, mkF, argsToLocals, Value.category]; done)) ?_
  intro p e s m below meth c s₁ hx hby hml hr hlk hZ hown hnm hs0 X0 e0
  have w : ∀ (k : Nat) (d : Jvm.Cond), tables_1[k]? = some d → d.before a0 Z = true := fun k d q => hw d (List.mem_of_getElem? q)
  have N0 := Fk.nil h0.size []
  refine Wk.iloadN X0 hx (hb hby d15_0) rfl rfl ?_
  refine Wk.aloadN X0 hx (hb hby d15_1) rfl rfl rfl ?_
  refine Wk.arraylength X0 hx hZ e0 hA (hb hby d15_2) rfl ?_
  refine Wk.isub X0 hx (hb hby d15_3) rfl ?_
  rw [(by decide : (((2 : Int32) - (4 : Int32)) : Int32) = (-2 : Int32))]
  refine Wk.bipush X0 hx (v := (31 : Int32)) (hb hby d15_4) rfl rfl ?_
  refine Wk.iushr X0 hx (hb hby d15_6) rfl ?_
  rw [(by decide : ((((-2 : Int32).toUInt32 >>> ((31 : Int32) &&& 31).toUInt32).toInt32) : Int32) = (1 : Int32))]
  refine Wk.i2b X0 hx (hb hby d15_7) rfl ?_
  intro c1 hc1
  obtain rfl : c1 = (1 : Int32) := hc1.trans (by decide)
  exact Wk.retZ' X0 hx hlk hr (by simp) (hb hby d15_8) (by decide) (by decide) (Qc := Q_rm_cfa2 Z t kb vs h0) e0 ⟨rfl, N0, rfl⟩
def Q_rm_cp5_20 (Z : State) (b : Addr) (kc : ClassId) (t : Addr) (kb : ClassId) (za : Int32) (zb : Int32) (h0 : Heap) (v : Option Value) (h : Heap) (L : List Loc) : Prop := v = some (.int (0 : Int32)) ∧ Fk h0.size [] L ∧ Keep h0 h []
set_option maxRecDepth 65536 in
set_option maxHeartbeats 40000000 in
theorem rm_cp5_20 (l : Launch) (Z : State) (a0 : Array Value) (hw : ∀ d ∈ tables_1, d.before a0 Z = true) (ws : List Jvm.Cond) (b : Addr) (kc : ClassId) (t : Addr) (kb : ClassId) (za : Int32) (zb : Int32) (h0 : Heap) (O0 : Old Z Z.heap.size h0) (hA : Arv Z h0 b kc .char (2 : Int32) [(.int za), (.int zb)] (.int (0 : Int32))) (hT : Arv Z h0 t kb .byte (2 : Int32) [(.int (0 : Int32)), (.int (0 : Int32))] (.int (0 : Int32))) (ht : Z.heap.size ≤ t) (hbt : b ≠ t) (hgza : (255 : Int32) < za) :
    Ctr l Z (⟨"java/lang/StringUTF16", "compress", "([CI[BII)I"⟩ : MethodName) jdk_52_method_21_code 7 (some .int) ws ({ frames := 0, cells := 0, slots := 0, locals := 0 } : Room) #[(.ref b), (.int (0 : Int32)), (.ref t), (.int (0 : Int32)), (.int (2 : Int32))] h0 (Q_rm_cp5_20 Z b kc t kb za zb h0) := by
  refine Ctr.intro (Ls := fun _ => #[.val (.ref b), .val (.int (0 : Int32)), .val (.ref t), .val (.int (0 : Int32)), .val (.int (2 : Int32)), .unset, .unset]) (plainFor_of_name pn0) (fun m => by first | rfl | (simp [entryFrame, mkF, argsToLocals, Value.category]; done)) ?_
  intro p e s m below meth c s₁ hx hby hml hr hlk hZ hown hnm hs0 X0 e0
  have w : ∀ (k : Nat) (d : Jvm.Cond), tables_1[k]? = some d → d.before a0 Z = true := fun k d q => hw d (List.mem_of_getElem? q)
  have N0 := Fk.nil h0.size []
  refine Wk.iconst X0 hx (v := (0 : Int32)) (hb hby d14_0) rfl rfl ?_
  refine Wk.istore X0 hx (Ls' := #[.val (.ref b), .val (.int (0 : Int32)), .val (.ref t), .val (.int (0 : Int32)), .val (.int (2 : Int32)), .val (.int (0 : Int32)), .unset]) (hb hby d14_1) rfl rfl ?_
  refine Wk.iload X0 hx (hb hby d14_3) rfl rfl ?_
  refine Wk.iload X0 hx (hb hby d14_5) rfl rfl ?_
  refine Wk.icmpNo X0 hx (hb hby d14_7) rfl (tlt (by decide : (0 : Int32) < (2 : Int32))).2.1 ?_
  refine Wk.aloadN X0 hx (hb hby d14_10) rfl rfl rfl ?_
  refine Wk.iloadN X0 hx (hb hby d14_11) rfl rfl ?_
  refine Wk.caload X0 hx hZ e0 hA (by decide) (by decide) (v := za) rfl (hb hby d14_12) rfl ?_
  refine Wk.istore X0 hx (Ls' := #[.val (.ref b), .val (.int (0 : Int32)), .val (.ref t), .val (.int (0 : Int32)), .val (.int (2 : Int32)), .val (.int (0 : Int32)), .val (.int za)]) (hb hby d14_13) rfl rfl ?_
  refine Wk.iload X0 hx (hb hby d14_15) rfl rfl ?_
  refine Wk.sipush X0 hx (v := (255 : Int32)) (hb hby d14_17) rfl rfl ?_
  refine Wk.icmpNo X0 hx (hb hby d14_20) rfl (tlt hgza).2.2.2 ?_
  refine Wk.iload X0 hx (hb hby d14_23) rfl rfl ?_
  exact Wk.retI' X0 hx hlk hr (hb hby d14_25) (by decide) (by decide) (Qc := Q_rm_cp5_20 Z b kc t kb za zb h0) e0 ⟨rfl, N0, (Keep.refl h0 [])⟩
def Q_rm_cp3_20 (Z : State) (b : Addr) (kc : ClassId) (za : Int32) (zb : Int32) (h0 : Heap) (v : Option Value) (h : Heap) (L : List Loc) : Prop := ∃ t : Addr, ∃ kb : ClassId, v = some (.ref t) ∧ Fk h0.size [] L ∧ Keep h0 h [] ∧ h0.size ≤ t ∧ Arv Z h t kb .byte (4 : Int32) [(.int (own_b0 za)), (.int (own_b1 za)), (.int (own_b0 zb)), (.int (own_b1 zb))] (.int (0 : Int32))
set_option maxRecDepth 65536 in
set_option maxHeartbeats 40000000 in
theorem rm_cp3_20 (l : Launch) (Z : State) (a0 : Array Value) (hw : ∀ d ∈ tables_1, d.before a0 Z = true) (ws : List Jvm.Cond) (b : Addr) (kc : ClassId) (za : Int32) (zb : Int32) (h0 : Heap) (O0 : Old Z Z.heap.size h0) (sH : Sta Z Z.heap "java/lang/StringUTF16" "HI_BYTE_SHIFT" "I" (.int (0 : Int32))) (sL : Sta Z Z.heap "java/lang/StringUTF16" "LO_BYTE_SHIFT" "I" (.int (8 : Int32))) (sA : Sta Z Z.heap "java/lang/StringUTF16" "$assertionsDisabled" "Z" (.int (1 : Int32))) (hA : Arv Z h0 b kc .char (2 : Int32) [(.int za), (.int zb)] (.int (0 : Int32))) (hcza : Chr za) (hczb : Chr zb) (hgza : (255 : Int32) < za) :
    Ctr l Z (⟨"java/lang/StringUTF16", "compress", "([CII)[B"⟩ : MethodName) jdk_52_method_16_code 6 (some (.array .byte)) ws ({ frames := 3, cells := 2, slots := 6, locals := 40 } : Room) #[(.ref b), (.int (0 : Int32)), (.int (2 : Int32))] h0 (Q_rm_cp3_20 Z b kc za zb h0) := by
  refine Ctr.intro (Ls := fun _ => #[.val (.ref b), .val (.int (0 : Int32)), .val (.int (2 : Int32)), .unset, .unset, .unset]) (plainFor_of_name pn0) (fun m => by first | rfl | (simp [entryFrame, mkF, argsToLocals, Value.category]; done)) ?_
  intro p e s m below meth c s₁ hx hby hml hr hlk hZ hown hnm hs0 X0 e0
  have w : ∀ (k : Nat) (d : Jvm.Cond), tables_1[k]? = some d → d.before a0 Z = true := fun k d q => hw d (List.mem_of_getElem? q)
  have N0 := Fk.nil h0.size []
  refine Wk.iloadN X0 hx (hb hby d13_0) rfl rfl ?_
  refine Wk.newarray X0 hx hZ (w 23 _ rfl) e0 (hb hby d13_1) rfl (by decide) 2 (by decide) (by decide) (by decide) (by decide) ?_
  intro T1 h1 a1 kA1 g1 X1 e1 E1 A1
  have O2 : Old Z Z.heap.size h1 := O0.ext E1
  have V1 : Arv Z h1 a1 kA1 .byte (2 : Int32) [(.int (0 : Int32)), (.int (0 : Int32))] (.int (0 : Int32)) := A1.pad (pad_rep [] (.int (0 : Int32)) 2)
  refine Wk.astoreN X1 hx (Ls' := #[.val (.ref b), .val (.int (0 : Int32)), .val (.int (2 : Int32)), .val (.ref a1), .unset, .unset]) (hb hby d13_3) rfl rfl rfl ?_
  refine Wk.aloadN X1 hx (hb hby d13_4) rfl rfl rfl ?_
  refine Wk.iloadN X1 hx (hb hby d13_5) rfl rfl ?_
  refine Wk.aloadN X1 hx (hb hby d13_6) rfl rfl rfl ?_
  refine Wk.iconst X1 hx (v := (0 : Int32)) (hb hby d13_7) rfl rfl ?_
  refine Wk.iloadN X1 hx (hb hby d13_8) rfl rfl ?_
  have KK3 : Keep h0 h1 [] := ((Keep.refl h0 []).ext E1)
  have f4 : Arv Z h1 b kc .char (2 : Int32) [(.int za), (.int zb)] (.int (0 : Int32)) := (hA.keep KK3 nin0)
  refine Wk.callS X1 hx hZ hown (w 68 _ rfl) (w 69 _ rfl) (w 66 _ rfl) (w 70 _ rfl) (by decide) (as' := [(.ref b), (.int (0 : Int32)), (.ref a1), (.int (0 : Int32)), (.int (2 : Int32))]) (backOf (W := 0) (rm_cp5_20 l Z a0 hw [] b kc a1 kA1 za zb h1 O2 f4 V1 (Nat.le_trans (Nat.le_trans (Nat.le_trans (Nat.le_of_eq O0.1.symm) O0.2.1) (Keep.refl h0 []).1) (Nat.le_of_eq g1)) (Nat.ne_of_lt (Nat.lt_of_lt_of_le hA.lt (Nat.le_of_eq g1))) hgza) hZ (w 70 _ rfl) (w 66 _ rfl) (by decide) (by decide)) e1 (by rw [hml]; rfl) (rest := []) (lenOf pd4 rfl) rfl (Nat.le_of_eq rfl) (hb hby d13_9) rfl (by decide) (by decide) ?_
  intro T5 h5 v5 L5 X5 e5 hQ5
  obtain ⟨rfl, Nq5, K5⟩ := hQ5
  have N5 := Fk.app N0 Nq5 KK3.1 all0
  have O6 : Old Z Z.heap.size h5 := O2.keep K5 all0
  show Wp p e below _ _ T5 (mkF m 12 #[.val (.ref b), .val (.int (0 : Int32)), .val (.int (2 : Int32)), .val (.ref a1), .unset, .unset] [(.int (0 : Int32))])
  refine Wk.istore X5 hx (Ls' := #[.val (.ref b), .val (.int (0 : Int32)), .val (.int (2 : Int32)), .val (.ref a1), .val (.int (0 : Int32)), .unset]) (hb hby d13_12) rfl rfl ?_
  refine Wk.iload X5 hx (hb hby d13_14) rfl rfl ?_
  refine Wk.iloadN X5 hx (hb hby d13_16) rfl rfl ?_
  refine Wk.icmpNo X5 hx (hb hby d13_17) rfl (feq (by decide : ¬ ((0 : Int32) = (2 : Int32)))).1 ?_
  refine Wk.aloadN X5 hx (hb hby d13_20) rfl rfl rfl ?_
  refine Wk.iloadN X5 hx (hb hby d13_21) rfl rfl ?_
  refine Wk.iloadN X5 hx (hb hby d13_22) rfl rfl ?_
  have KK7 : Keep h1 h5 [] := ((Keep.refl h1 []).trans K5 all0)
  have f8 : Arv Z h5 b kc .char (2 : Int32) [(.int za), (.int zb)] (.int (0 : Int32)) := (f4.keep KK7 nin0)
  refine Wk.callS X5 hx hZ hown (w 76 _ rfl) (w 77 _ rfl) (w 66 _ rfl) (w 78 _ rfl) (by decide) (as' := [(.ref b), (.int (0 : Int32)), (.int (2 : Int32))]) (backOf (W := 0) (rm_tob2 l Z a0 hw [] b kc za zb h5 O6 sH sL sA f8) hZ (w 78 _ rfl) (w 66 _ rfl) (by decide) (by decide)) e5 (by rw [hml]; rfl) (rest := []) (lenOf pd5 rfl) rfl (Nat.le_of_eq rfl) (hb hby d13_23) rfl (by decide) (by decide) ?_
  intro T9 h9 v9 L9 X9 e9 hQ9
  obtain ⟨t9, kb9, rfl, Nq9, K9, q9_0, q9_1⟩ := hQ9
  have KK10 : Keep h0 h5 [] := (KK3.trans K5 all0)
  have N9 := Fk.app N5 Nq9 KK10.1 all0
  have O11 : Old Z Z.heap.size h9 := O6.keep K9 all0
  show Wp p e below _ _ T9 (mkF m 26 #[.val (.ref b), .val (.int (0 : Int32)), .val (.int (2 : Int32)), .val (.ref a1), .val (.int (0 : Int32)), .unset] [(.ref t9)])
  refine Wk.astore X9 hx (Ls' := #[.val (.ref b), .val (.int (0 : Int32)), .val (.int (2 : Int32)), .val (.ref a1), .val (.int (0 : Int32)), .val (.ref t9)]) (hb hby d13_26) rfl rfl rfl ?_
  refine Wk.aload X9 hx (hb hby d13_28) rfl rfl rfl ?_
  refine Wk.iload X9 hx (hb hby d13_30) rfl rfl ?_
  refine Wk.callS X9 hx hZ hown (w 92 _ rfl) (w 93 _ rfl) (w 66 _ rfl) (w 94 _ rfl) (by decide) (as' := [(.ref t9), (.int (0 : Int32))]) (backOf (W := 0) (rm_get0 l Z a0 hw [] t9 za kb9 (4 : Int32) [(.int (own_b0 za)), (.int (own_b1 za)), (.int (own_b0 zb)), (.int (own_b1 zb))] h9 O11 sH sL sA q9_1 (by first | assumption | rfl | decide | exact Nat.le_of_ble_eq_true rfl) (by first | assumption | rfl | decide | exact Nat.le_of_ble_eq_true rfl) (by first | assumption | rfl | decide | exact Nat.le_of_ble_eq_true rfl) (by first | assumption | rfl | decide | exact Nat.le_of_ble_eq_true rfl) hcza) hZ (w 94 _ rfl) (w 66 _ rfl) (by decide) (by decide)) e9 (by rw [hml]; rfl) (rest := []) (lenOf pd6 rfl) rfl (Nat.le_of_eq rfl) (hb hby d13_32) rfl (by decide) (by decide) ?_
  intro T12 h12 v12 L12 X12 e12 hQ12
  obtain ⟨rfl, Nq12, K12⟩ := hQ12
  have KK13 : Keep h0 h9 [] := (KK10.trans K9 all0)
  have N12 := Fk.app N9 Nq12 KK13.1 all0
  rw [K12] at e12
  show Wp p e below _ _ T12 (mkF m 35 #[.val (.ref b), .val (.int (0 : Int32)), .val (.int (2 : Int32)), .val (.ref a1), .val (.int (0 : Int32)), .val (.ref t9)] [(.int za)])
  refine Wk.sipush X12 hx (v := (255 : Int32)) (hb hby d13_35) rfl rfl ?_
  refine Wk.icmpYes X12 hx (hb hby d13_38) (by decide) (q := 54) rfl (tlt hgza).2.2.1 ?_
  refine Wk.aload X12 hx (hb hby d13_54) rfl rfl rfl ?_
  exact Wk.retA' X12 hx hlk hr rfl rfl (hb hby d13_56) (by decide) (by decide) (Qc := Q_rm_cp3_20 Z b kc za zb h0) e12 ⟨t9, kb9, rfl, N12, KK13, (Nat.le_trans KK10.1 q9_0), q9_1⟩
def Q_rm_iv_20 (Z : State) (x : Addr) (b : Addr) (kc : ClassId) (G1 : Int32) (za : Int32) (zb : Int32) (h0 : Heap) (v : Option Value) (h : Heap) (L : List Loc) : Prop := ∃ t : Addr, ∃ kb : ClassId, v = none ∧ Fk h0.size [x] L ∧ Keep h0 h [x] ∧ h0.size ≤ t ∧ Exa Z h x "java/lang/String" ∧ Fld Z h x "java/lang/String" "coder" "B" (.int (1 : Int32)) ∧ Fld Z h x "java/lang/String" "value" "[B" (.ref t) ∧ Arv Z h t kb .byte (4 : Int32) [(.int (own_b0 za)), (.int (own_b1 za)), (.int (own_b0 zb)), (.int (own_b1 zb))] (.int (0 : Int32))
set_option maxRecDepth 65536 in
set_option maxHeartbeats 40000000 in
theorem rm_iv_20 (l : Launch) (Z : State) (a0 : Array Value) (hw : ∀ d ∈ tables_1, d.before a0 Z = true) (ws : List Jvm.Cond) (x : Addr) (b : Addr) (kc : ClassId) (G1 : Int32) (za : Int32) (zb : Int32) (h0 : Heap) (O0 : Old Z Z.heap.size h0) (sH : Sta Z Z.heap "java/lang/StringUTF16" "HI_BYTE_SHIFT" "I" (.int (0 : Int32))) (sL : Sta Z Z.heap "java/lang/StringUTF16" "LO_BYTE_SHIFT" "I" (.int (8 : Int32))) (sA : Sta Z Z.heap "java/lang/StringUTF16" "$assertionsDisabled" "Z" (.int (1 : Int32))) (SG1 : Sta Z Z.heap "java/lang/String" "COMPACT_STRINGS" "Z" (.int G1)) (nG1 : ¬ G1 = 0) (hE : Exa Z h0 x "java/lang/String") (hV : Fld Z h0 x "java/lang/String" "value" "[B" .null) (hC : Fld Z h0 x "java/lang/String" "coder" "B" (.int (0 : Int32))) (hxz : Z.heap.size ≤ x) (hA : Arv Z h0 b kc .char (2 : Int32) [(.int za), (.int zb)] (.int (0 : Int32))) (hcza : Chr za) (hczb : Chr zb) (hgza : (255 : Int32) < za) :
    Ctr l Z (⟨"java/lang/String", "<init>", "([CIILjava/lang/Void;)V"⟩ : MethodName) jdk_42_method_149_code 6 none ws ({ frames := 4, cells := 2, slots := 6, locals := 57 } : Room) #[(.ref x), (.ref b), (.int (0 : Int32)), (.int (2 : Int32)), .null] h0 (Q_rm_iv_20 Z x b kc G1 za zb h0) := by
  refine Ctr.intro (Ls := fun _ => #[.val (.ref x), .val (.ref b), .val (.int (0 : Int32)), .val (.int (2 : Int32)), .val .null, .unset]) (plainFor_of_name pn7) (fun m => by first | rfl | (simp [entryFrame, mkF, argsToLocals, Value.category]; done)) ?_
  intro p e s m below meth c s₁ hx hby hml hr hlk hZ hown hnm hs0 X0 e0
  have w : ∀ (k : Nat) (d : Jvm.Cond), tables_1[k]? = some d → d.before a0 Z = true := fun k d q => hw d (List.mem_of_getElem? q)
  have N0 := Fk.nil h0.size [x]
  refine Wk.aloadN X0 hx (hb hby d4_0) rfl rfl rfl ?_
  refine Wk.objinit X0 hx hZ hown (w 19 _ rfl) (w 20 _ rfl) (w 21 _ rfl) e0 (by rw [hml]; rfl) (hb hby d4_1) rfl (by decide) 0 (Nat.le_of_eq rfl) (by decide) ?_
  intro T1 X1 e1
  refine Wk.iloadN X1 hx (hb hby d4_4) rfl rfl ?_
  refine Wk.ifYes X1 hx (hb hby d4_5) (by decide) (q := 27) rfl ((if0 _ _).trans (feq (by decide : ¬ ((2 : Int32) = (0 : Int32)))).2) ?_
  refine Wk.getstatic X1 hx hZ hown (host := "") (Or.inl (w 44 _ rfl)) Via.refl e1 (SG1.ext O0.2) (hb hby d4_27) rfl ?_
  intro T2 X2 e2
  refine Wk.ifNo X2 hx (hb hby d4_30) rfl ((if0 _ _).trans (feq nG1).1) ?_
  refine Wk.aloadN X2 hx (hb hby d4_33) rfl rfl rfl ?_
  refine Wk.iloadN X2 hx (hb hby d4_34) rfl rfl ?_
  refine Wk.iloadN X2 hx (hb hby d4_35) rfl rfl ?_
  refine Wk.callS X2 hx hZ hown (w 64 _ rfl) (w 65 _ rfl) (w 66 _ rfl) (w 67 _ rfl) (by decide) (as' := [(.ref b), (.int (0 : Int32)), (.int (2 : Int32))]) (backOf (W := 0) (rm_cp3_20 l Z a0 hw [] b kc za zb h0 O0 sH sL sA hA hcza hczb hgza) hZ (w 67 _ rfl) (w 66 _ rfl) (by decide) (by decide)) e2 (by rw [hml]; rfl) (rest := []) (lenOf pd5 rfl) rfl (Nat.le_of_eq rfl) (hb hby d4_36) rfl (by decide) (by decide) ?_
  intro T3 h3 v3 L3 X3 e3 hQ3
  obtain ⟨t3, kb3, rfl, Nq3, K3, q3_0, q3_1⟩ := hQ3
  have N3 := Fk.app N0 Nq3 (Nat.le_refl _) all0
  have O4 : Old Z Z.heap.size h3 := O0.keep K3 all0
  show Wp p e below _ _ T3 (mkF m 39 #[.val (.ref x), .val (.ref b), .val (.int (0 : Int32)), .val (.int (2 : Int32)), .val .null, .unset] [(.ref t3)])
  refine Wk.astore X3 hx (Ls' := #[.val (.ref x), .val (.ref b), .val (.int (0 : Int32)), .val (.int (2 : Int32)), .val .null, .val (.ref t3)]) (hb hby d4_39) rfl rfl rfl ?_
  refine Wk.aloadN X3 hx (hb hby d4_41) rfl rfl rfl ?_
  refine Wk.aload X3 hx (hb hby d4_42) rfl rfl rfl ?_
  refine Wk.iloadN X3 hx (hb hby d4_44) rfl rfl ?_
  refine Wk.callS X3 hx hZ hown (w 71 _ rfl) (w 72 _ rfl) (w 66 _ rfl) (w 73 _ rfl) (by decide) (as' := [(.ref t3), (.int (2 : Int32))]) (backOf (W := 1) (rm_cfa2 l Z a0 hw [] t3 kb3 [(.int (own_b0 za)), (.int (own_b1 za)), (.int (own_b0 zb)), (.int (own_b1 zb))] h3 O4 q3_1) hZ (w 73 _ rfl) (w 66 _ rfl) (by decide) (by decide)) e3 (by rw [hml]; rfl) (rest := [(.ref x)]) (lenOf pd8 rfl) rfl (Nat.le_of_eq rfl) (hb hby d4_45) rfl (by decide) (by decide) ?_
  intro T5 h5 v5 L5 X5 e5 hQ5
  obtain ⟨rfl, Nq5, K5⟩ := hQ5
  have KK6 : Keep h0 h3 [] := ((Keep.refl h0 []).trans K3 all0)
  have N5 := Fk.app N3 Nq5 KK6.1 all0
  rw [K5] at e5
  show Wp p e below _ _ T5 (mkF m 48 #[.val (.ref x), .val (.ref b), .val (.int (0 : Int32)), .val (.int (2 : Int32)), .val .null, .val (.ref t3)] [(.int (1 : Int32)), (.ref x)])
  have f7 : Exa Z h3 x "java/lang/String" := (hE.keep KK6)
  have f8 : Fld Z h3 x "java/lang/String" "coder" "B" (.int (0 : Int32)) := (hC.keep KK6 nin0)
  have f10 : Fld Z h3 x "java/lang/String" "value" "[B" .null := (hV.keep KK6 nin0)
  refine Wk.putfieldN X5 hx hZ hown (w 29 _ rfl) Via.refl e5 (v' := (.int (1 : Int32))) f8 f7 (Or.inr ⟨(w 25 _ rfl), rfl, hnm⟩) (w 9 _ rfl) (ty := .byte) (by decide) rfl rfl (hb hby d4_48) rfl ?_
  intro T9 h9 L9 M9 X9 e9 W9 Fw9
  have N9 := M9 _ _ N5 (Or.inl (List.mem_of_getElem? (i := 0) rfl))
  have O11 : Old Z Z.heap.size h9 := O4.wr W9 hxz
  have f12 : Fld Z h9 x "java/lang/String" "value" "[B" .null := f10.other W9 (Or.inr (slot_ne (Or.inr (w 24 _ rfl)) (Or.inr (w 25 _ rfl)) (by decide) (t := (.array .byte)) (t' := .byte) (by decide) (by decide)))
  have E9' : Exa Z h9 x "java/lang/String" := f7.wr W9
  refine Wk.aloadN X9 hx (hb hby d4_51) rfl rfl rfl ?_
  refine Wk.aload X9 hx (hb hby d4_52) rfl rfl rfl ?_
  refine Wk.putfield X9 hx hZ hown (host := "") (Or.inl (w 28 _ rfl)) Via.refl e9 f12 E9' (Or.inr ⟨(w 24 _ rfl), rfl, hnm⟩) (w 9 _ rfl) (ty := (.array .byte)) (by decide) rfl rfl (hb hby d4_54) rfl ?_
  intro T13 h13 L13 M13 X13 e13 W13 Fw13
  have N13 := M13 _ _ N9 (Or.inl (List.mem_of_getElem? (i := 0) rfl))
  have O14 : Old Z Z.heap.size h13 := O11.wr W13 hxz
  have f15 : Fld Z h13 x "java/lang/String" "coder" "B" (.int (1 : Int32)) := Fw9.other W13 (Or.inr (slot_ne (Or.inr (w 25 _ rfl)) (Or.inr (w 24 _ rfl)) (by decide) (t := .byte) (t' := (.array .byte)) (by decide) (by decide)))
  have E13' : Exa Z h13 x "java/lang/String" := E9'.wr W13
  have KK16 : Keep h0 h13 [x] := ((((Keep.refl h0 [x]).trans K3 all0).wr W9 (Or.inl (List.mem_of_getElem? (i := 0) rfl))).wr W13 (Or.inl (List.mem_of_getElem? (i := 0) rfl)))
  have KK17 : Keep h3 h13 [x] := (((Keep.refl h3 [x]).wr W9 (Or.inl (List.mem_of_getElem? (i := 0) rfl))).wr W13 (Or.inl (List.mem_of_getElem? (i := 0) rfl)))
  have f18 : Arv Z h13 t3 kb3 .byte (4 : Int32) [(.int (own_b0 za)), (.int (own_b1 za)), (.int (own_b0 zb)), (.int (own_b1 zb))] (.int (0 : Int32)) := (q3_1.keep KK17 (ninS (Ne.symm (Nat.ne_of_lt (Nat.lt_of_lt_of_le hE.lt q3_0))) nin0))
  exact Wk.ret0' X13 hx hlk hr (hb hby d4_57) (by decide) (by decide) (Qc := Q_rm_iv_20 Z x b kc G1 za zb h0) e13 ⟨t3, kb3, rfl, N13, KK16, q3_0, E13', f15, Fw13, f18⟩
def Q_rm_ic_20 (Z : State) (x : Addr) (b : Addr) (kc : ClassId) (G1 : Int32) (za : Int32) (zb : Int32) (h0 : Heap) (v : Option Value) (h : Heap) (L : List Loc) : Prop := ∃ t : Addr, ∃ kb : ClassId, v = none ∧ Fk h0.size [x] L ∧ Keep h0 h [x] ∧ h0.size ≤ t ∧ Exa Z h x "java/lang/String" ∧ Fld Z h x "java/lang/String" "coder" "B" (.int (1 : Int32)) ∧ Fld Z h x "java/lang/String" "value" "[B" (.ref t) ∧ Arv Z h t kb .byte (4 : Int32) [(.int (own_b0 za)), (.int (own_b1 za)), (.int (own_b0 zb)), (.int (own_b1 zb))] (.int (0 : Int32))
set_option maxRecDepth 65536 in
set_option maxHeartbeats 40000000 in
theorem rm_ic_20 (l : Launch) (Z : State) (a0 : Array Value) (hw : ∀ d ∈ tables_1, d.before a0 Z = true) (ws : List Jvm.Cond) (x : Addr) (b : Addr) (kc : ClassId) (G1 : Int32) (za : Int32) (zb : Int32) (h0 : Heap) (O0 : Old Z Z.heap.size h0) (sH : Sta Z Z.heap "java/lang/StringUTF16" "HI_BYTE_SHIFT" "I" (.int (0 : Int32))) (sL : Sta Z Z.heap "java/lang/StringUTF16" "LO_BYTE_SHIFT" "I" (.int (8 : Int32))) (sA : Sta Z Z.heap "java/lang/StringUTF16" "$assertionsDisabled" "Z" (.int (1 : Int32))) (SG1 : Sta Z Z.heap "java/lang/String" "COMPACT_STRINGS" "Z" (.int G1)) (nG1 : ¬ G1 = 0) (hE : Exa Z h0 x "java/lang/String") (hV : Fld Z h0 x "java/lang/String" "value" "[B" .null) (hC : Fld Z h0 x "java/lang/String" "coder" "B" (.int (0 : Int32))) (hxz : Z.heap.size ≤ x) (hA : Arv Z h0 b kc .char (2 : Int32) [(.int za), (.int zb)] (.int (0 : Int32))) (hcza : Chr za) (hczb : Chr zb) (hgza : (255 : Int32) < za) :
    Ctr l Z (⟨"java/lang/String", "<init>", "([C)V"⟩ : MethodName) jdk_42_method_3_code 2 none ws ({ frames := 5, cells := 2, slots := 6, locals := 74 } : Room) #[(.ref x), (.ref b)] h0 (Q_rm_ic_20 Z x b kc G1 za zb h0) := by
  refine Ctr.intro (Ls := fun _ => #[.val (.ref x), .val (.ref b)]) (plainFor_of_name pn7) (fun m => by first | rfl | (simp [entryFrame, mkF, argsToLocals, Value.category]; done)) ?_
  intro p e s m below meth c s₁ hx hby hml hr hlk hZ hown hnm hs0 X0 e0
  have w : ∀ (k : Nat) (d : Jvm.Cond), tables_1[k]? = some d → d.before a0 Z = true := fun k d q => hw d (List.mem_of_getElem? q)
  have N0 := Fk.nil h0.size [x]
  refine Wk.aloadN X0 hx (hb hby d3_0) rfl rfl rfl ?_
  refine Wk.aloadN X0 hx (hb hby d3_1) rfl rfl rfl ?_
  refine Wk.iconst X0 hx (v := (0 : Int32)) (hb hby d3_2) rfl rfl ?_
  refine Wk.aloadN X0 hx (hb hby d3_3) rfl rfl rfl ?_
  refine Wk.arraylength X0 hx hZ e0 hA (hb hby d3_4) rfl ?_
  refine Wk.aconstNull X0 hx (hb hby d3_5) rfl ?_
  refine Wk.callI X0 hx hZ rfl hown (w 15 _ rfl) (w 16 _ rfl) (w 18 _ rfl) (by decide) (as' := [(.ref b), (.int (0 : Int32)), (.int (2 : Int32)), .null]) (backOf (W := 0) (rm_iv_20 l Z a0 hw [] x b kc G1 za zb h0 O0 sH sL sA SG1 nG1 hE hV hC hxz hA hcza hczb hgza) hZ (w 18 _ rfl) (w 10 _ rfl) (by decide) (by decide)) e0 (by rw [hml]; rfl) (rest := []) (lenOf pd9 rfl) rfl (Nat.le_of_eq rfl) (hb hby d3_6) rfl (by decide) (by decide) ?_
  intro T1 h1 v1 L1 X1 e1 hQ1
  obtain ⟨t1, kb1, rfl, Nq1, K1, q1_0, q1_1, q1_2, q1_3, q1_4⟩ := hQ1
  have N1 := Fk.app N0 Nq1 (Nat.le_refl _) (allS (Or.inl (List.mem_of_getElem? (i := 0) rfl)) all0)
  have O2 : Old Z Z.heap.size h1 := O0.keep K1 (allS hxz all0)
  show Wp p e below _ _ T1 (mkF m 9 #[.val (.ref x), .val (.ref b)] [])
  have KK3 : Keep h0 h1 [x] := ((Keep.refl h0 [x]).trans K1 (allS (Or.inl (List.mem_of_getElem? (i := 0) rfl)) all0))
  exact Wk.ret0' X1 hx hlk hr (hb hby d3_9) (by decide) (by decide) (Qc := Q_rm_ic_20 Z x b kc G1 za zb h0) e1 ⟨t1, kb1, rfl, N1, KK3, q1_0, q1_1, q1_2, q1_3, q1_4⟩
theorem d14_26 : decode jdk_52_method_21_code 26 = .ok (.aload_n 2, 1) := by decide +kernel
theorem d14_27 : decode jdk_52_method_21_code 27 = .ok (.iload_n 3, 1) := by decide +kernel
theorem d14_28 : decode jdk_52_method_21_code 28 = .ok (.iload 6, 2) := by decide +kernel
theorem d14_30 : decode jdk_52_method_21_code 30 = .ok (.i2b, 1) := by decide +kernel
theorem d14_31 : decode jdk_52_method_21_code 31 = .ok (.bastore, 1) := by decide +kernel
theorem d14_32 : decode jdk_52_method_21_code 32 = .ok (.iinc 1 1, 3) := by decide +kernel
theorem d14_35 : decode jdk_52_method_21_code 35 = .ok (.iinc 3 1, 3) := by decide +kernel
theorem d14_38 : decode jdk_52_method_21_code 38 = .ok (.iinc 5 1, 3) := by decide +kernel
theorem d14_41 : decode jdk_52_method_21_code 41 = .ok (.goto (-38), 3) := by decide +kernel
def Q_rm_cp5_21 (Z : State) (b : Addr) (kc : ClassId) (t : Addr) (kb : ClassId) (za : Int32) (zb : Int32) (h0 : Heap) (v : Option Value) (h : Heap) (L : List Loc) : Prop := v = some (.int (1 : Int32)) ∧ Fk h0.size [t] L ∧ Keep h0 h [t]
set_option maxRecDepth 65536 in
set_option maxHeartbeats 40000000 in
theorem rm_cp5_21 (l : Launch) (Z : State) (a0 : Array Value) (hw : ∀ d ∈ tables_1, d.before a0 Z = true) (ws : List Jvm.Cond) (b : Addr) (kc : ClassId) (t : Addr) (kb : ClassId) (za : Int32) (zb : Int32) (h0 : Heap) (O0 : Old Z Z.heap.size h0) (hA : Arv Z h0 b kc .char (2 : Int32) [(.int za), (.int zb)] (.int (0 : Int32))) (hT : Arv Z h0 t kb .byte (2 : Int32) [(.int (0 : Int32)), (.int (0 : Int32))] (.int (0 : Int32))) (ht : Z.heap.size ≤ t) (hbt : b ≠ t) (hlza : ¬ ((255 : Int32) < za)) (hgzb : (255 : Int32) < zb) :
    Ctr l Z (⟨"java/lang/StringUTF16", "compress", "([CI[BII)I"⟩ : MethodName) jdk_52_method_21_code 7 (some .int) ws ({ frames := 0, cells := 0, slots := 0, locals := 0 } : Room) #[(.ref b), (.int (0 : Int32)), (.ref t), (.int (0 : Int32)), (.int (2 : Int32))] h0 (Q_rm_cp5_21 Z b kc t kb za zb h0) := by
  refine Ctr.intro (Ls := fun _ => #[.val (.ref b), .val (.int (0 : Int32)), .val (.ref t), .val (.int (0 : Int32)), .val (.int (2 : Int32)), .unset, .unset]) (plainFor_of_name pn0) (fun m => by first | rfl | (simp [entryFrame, mkF, argsToLocals, Value.category]; done)) ?_
  intro p e s m below meth c s₁ hx hby hml hr hlk hZ hown hnm hs0 X0 e0
  have w : ∀ (k : Nat) (d : Jvm.Cond), tables_1[k]? = some d → d.before a0 Z = true := fun k d q => hw d (List.mem_of_getElem? q)
  have N0 := Fk.nil h0.size [t]
  refine Wk.iconst X0 hx (v := (0 : Int32)) (hb hby d14_0) rfl rfl ?_
  refine Wk.istore X0 hx (Ls' := #[.val (.ref b), .val (.int (0 : Int32)), .val (.ref t), .val (.int (0 : Int32)), .val (.int (2 : Int32)), .val (.int (0 : Int32)), .unset]) (hb hby d14_1) rfl rfl ?_
  refine Wk.iload X0 hx (hb hby d14_3) rfl rfl ?_
  refine Wk.iload X0 hx (hb hby d14_5) rfl rfl ?_
  refine Wk.icmpNo X0 hx (hb hby d14_7) rfl (tlt (by decide : (0 : Int32) < (2 : Int32))).2.1 ?_
  refine Wk.aloadN X0 hx (hb hby d14_10) rfl rfl rfl ?_
  refine Wk.iloadN X0 hx (hb hby d14_11) rfl rfl ?_
  refine Wk.caload X0 hx hZ e0 hA (by decide) (by decide) (v := za) rfl (hb hby d14_12) rfl ?_
  refine Wk.istore X0 hx (Ls' := #[.val (.ref b), .val (.int (0 : Int32)), .val (.ref t), .val (.int (0 : Int32)), .val (.int (2 : Int32)), .val (.int (0 : Int32)), .val (.int za)]) (hb hby d14_13) rfl rfl ?_
  refine Wk.iload X0 hx (hb hby d14_15) rfl rfl ?_
  refine Wk.sipush X0 hx (v := (255 : Int32)) (hb hby d14_17) rfl rfl ?_
  refine Wk.icmpYes X0 hx (hb hby d14_20) (by decide) (q := 26) rfl (flt hlza).2.2.2 ?_
  refine Wk.aloadN X0 hx (hb hby d14_26) rfl rfl rfl ?_
  refine Wk.iloadN X0 hx (hb hby d14_27) rfl rfl ?_
  refine Wk.iload X0 hx (hb hby d14_28) rfl rfl ?_
  refine Wk.i2b X0 hx (hb hby d14_30) rfl ?_
  intro c1 hc1
  refine Wk.bastore X0 hx hZ e0 hT (by decide) (by decide) 0 rfl (Nat.le_of_ble_eq_true rfl) (w := (nar .byte c1)) rfl (hb hby d14_31) rfl ?_
  intro T2 h2 L2 M2 X2 e2 W2 A2
  have N2 := M2 _ _ N0 (Or.inl (List.mem_of_getElem? (i := 0) rfl))
  have O3 : Old Z Z.heap.size h2 := O0.wr W2 ht
  have V2 : Arv Z h2 t kb .byte (2 : Int32) [(.int (nar .byte c1)), (.int (0 : Int32))] (.int (0 : Int32)) := A2
  refine Wk.iinc X2 hx (Ls' := #[.val (.ref b), .val (.int (1 : Int32)), .val (.ref t), .val (.int (0 : Int32)), .val (.int (2 : Int32)), .val (.int (0 : Int32)), .val (.int za)]) (hb hby d14_32) rfl rfl rfl ?_
  refine Wk.iinc X2 hx (Ls' := #[.val (.ref b), .val (.int (1 : Int32)), .val (.ref t), .val (.int (1 : Int32)), .val (.int (2 : Int32)), .val (.int (0 : Int32)), .val (.int za)]) (hb hby d14_35) rfl rfl rfl ?_
  refine Wk.iinc X2 hx (Ls' := #[.val (.ref b), .val (.int (1 : Int32)), .val (.ref t), .val (.int (1 : Int32)), .val (.int (2 : Int32)), .val (.int (1 : Int32)), .val (.int za)]) (hb hby d14_38) rfl rfl rfl ?_
  refine Wk.goto X2 hx (hb hby d14_41) (by decide) (q := 3) rfl ?_
  refine Wk.iload X2 hx (hb hby d14_3) rfl rfl ?_
  refine Wk.iload X2 hx (hb hby d14_5) rfl rfl ?_
  refine Wk.icmpNo X2 hx (hb hby d14_7) rfl (tlt (by decide : (1 : Int32) < (2 : Int32))).2.1 ?_
  refine Wk.aloadN X2 hx (hb hby d14_10) rfl rfl rfl ?_
  refine Wk.iloadN X2 hx (hb hby d14_11) rfl rfl ?_
  have KK4 : Keep h0 h2 [t] := ((Keep.refl h0 [t]).wr W2 (Or.inl (List.mem_of_getElem? (i := 0) rfl)))
  have f5 : Arv Z h2 b kc .char (2 : Int32) [(.int za), (.int zb)] (.int (0 : Int32)) := (hA.keep KK4 (ninS hbt nin0))
  refine Wk.caload X2 hx hZ e2 f5 (by decide) (by decide) (v := zb) rfl (hb hby d14_12) rfl ?_
  refine Wk.istore X2 hx (Ls' := #[.val (.ref b), .val (.int (1 : Int32)), .val (.ref t), .val (.int (1 : Int32)), .val (.int (2 : Int32)), .val (.int (1 : Int32)), .val (.int zb)]) (hb hby d14_13) rfl rfl ?_
  refine Wk.iload X2 hx (hb hby d14_15) rfl rfl ?_
  refine Wk.sipush X2 hx (v := (255 : Int32)) (hb hby d14_17) rfl rfl ?_
  refine Wk.icmpNo X2 hx (hb hby d14_20) rfl (tlt hgzb).2.2.2 ?_
  refine Wk.iload X2 hx (hb hby d14_23) rfl rfl ?_
  exact Wk.retI' X2 hx hlk hr (hb hby d14_25) (by decide) (by decide) (Qc := Q_rm_cp5_21 Z b kc t kb za zb h0) e2 ⟨rfl, N2, KK4⟩
def Q_rm_cp3_21 (Z : State) (b : Addr) (kc : ClassId) (za : Int32) (zb : Int32) (h0 : Heap) (v : Option Value) (h : Heap) (L : List Loc) : Prop := ∃ t : Addr, ∃ kb : ClassId, v = some (.ref t) ∧ Fk h0.size [] L ∧ Keep h0 h [] ∧ h0.size ≤ t ∧ Arv Z h t kb .byte (4 : Int32) [(.int (own_b0 za)), (.int (own_b1 za)), (.int (own_b0 zb)), (.int (own_b1 zb))] (.int (0 : Int32))
set_option maxRecDepth 65536 in
set_option maxHeartbeats 40000000 in
theorem rm_cp3_21 (l : Launch) (Z : State) (a0 : Array Value) (hw : ∀ d ∈ tables_1, d.before a0 Z = true) (ws : List Jvm.Cond) (b : Addr) (kc : ClassId) (za : Int32) (zb : Int32) (h0 : Heap) (O0 : Old Z Z.heap.size h0) (sH : Sta Z Z.heap "java/lang/StringUTF16" "HI_BYTE_SHIFT" "I" (.int (0 : Int32))) (sL : Sta Z Z.heap "java/lang/StringUTF16" "LO_BYTE_SHIFT" "I" (.int (8 : Int32))) (sA : Sta Z Z.heap "java/lang/StringUTF16" "$assertionsDisabled" "Z" (.int (1 : Int32))) (hA : Arv Z h0 b kc .char (2 : Int32) [(.int za), (.int zb)] (.int (0 : Int32))) (hcza : Chr za) (hczb : Chr zb) (hlza : ¬ ((255 : Int32) < za)) (hgzb : (255 : Int32) < zb) :
    Ctr l Z (⟨"java/lang/StringUTF16", "compress", "([CII)[B"⟩ : MethodName) jdk_52_method_16_code 6 (some (.array .byte)) ws ({ frames := 3, cells := 2, slots := 6, locals := 40 } : Room) #[(.ref b), (.int (0 : Int32)), (.int (2 : Int32))] h0 (Q_rm_cp3_21 Z b kc za zb h0) := by
  refine Ctr.intro (Ls := fun _ => #[.val (.ref b), .val (.int (0 : Int32)), .val (.int (2 : Int32)), .unset, .unset, .unset]) (plainFor_of_name pn0) (fun m => by first | rfl | (simp [entryFrame, mkF, argsToLocals, Value.category]; done)) ?_
  intro p e s m below meth c s₁ hx hby hml hr hlk hZ hown hnm hs0 X0 e0
  have w : ∀ (k : Nat) (d : Jvm.Cond), tables_1[k]? = some d → d.before a0 Z = true := fun k d q => hw d (List.mem_of_getElem? q)
  have N0 := Fk.nil h0.size []
  refine Wk.iloadN X0 hx (hb hby d13_0) rfl rfl ?_
  refine Wk.newarray X0 hx hZ (w 23 _ rfl) e0 (hb hby d13_1) rfl (by decide) 2 (by decide) (by decide) (by decide) (by decide) ?_
  intro T1 h1 a1 kA1 g1 X1 e1 E1 A1
  have O2 : Old Z Z.heap.size h1 := O0.ext E1
  have V1 : Arv Z h1 a1 kA1 .byte (2 : Int32) [(.int (0 : Int32)), (.int (0 : Int32))] (.int (0 : Int32)) := A1.pad (pad_rep [] (.int (0 : Int32)) 2)
  refine Wk.astoreN X1 hx (Ls' := #[.val (.ref b), .val (.int (0 : Int32)), .val (.int (2 : Int32)), .val (.ref a1), .unset, .unset]) (hb hby d13_3) rfl rfl rfl ?_
  refine Wk.aloadN X1 hx (hb hby d13_4) rfl rfl rfl ?_
  refine Wk.iloadN X1 hx (hb hby d13_5) rfl rfl ?_
  refine Wk.aloadN X1 hx (hb hby d13_6) rfl rfl rfl ?_
  refine Wk.iconst X1 hx (v := (0 : Int32)) (hb hby d13_7) rfl rfl ?_
  refine Wk.iloadN X1 hx (hb hby d13_8) rfl rfl ?_
  have KK3 : Keep h0 h1 [] := ((Keep.refl h0 []).ext E1)
  have f4 : Arv Z h1 b kc .char (2 : Int32) [(.int za), (.int zb)] (.int (0 : Int32)) := (hA.keep KK3 nin0)
  refine Wk.callS X1 hx hZ hown (w 68 _ rfl) (w 69 _ rfl) (w 66 _ rfl) (w 70 _ rfl) (by decide) (as' := [(.ref b), (.int (0 : Int32)), (.ref a1), (.int (0 : Int32)), (.int (2 : Int32))]) (backOf (W := 0) (rm_cp5_21 l Z a0 hw [] b kc a1 kA1 za zb h1 O2 f4 V1 (Nat.le_trans (Nat.le_trans (Nat.le_trans (Nat.le_of_eq O0.1.symm) O0.2.1) (Keep.refl h0 []).1) (Nat.le_of_eq g1)) (Nat.ne_of_lt (Nat.lt_of_lt_of_le hA.lt (Nat.le_of_eq g1))) hlza hgzb) hZ (w 70 _ rfl) (w 66 _ rfl) (by decide) (by decide)) e1 (by rw [hml]; rfl) (rest := []) (lenOf pd4 rfl) rfl (Nat.le_of_eq rfl) (hb hby d13_9) rfl (by decide) (by decide) ?_
  intro T5 h5 v5 L5 X5 e5 hQ5
  obtain ⟨rfl, Nq5, K5⟩ := hQ5
  have N5 := Fk.app N0 Nq5 KK3.1 (allS (Or.inr (Nat.le_of_eq g1)) all0)
  have O6 : Old Z Z.heap.size h5 := O2.keep K5 (allS (Nat.le_trans (Nat.le_trans (Nat.le_trans (Nat.le_of_eq O0.1.symm) O0.2.1) (Keep.refl h0 []).1) (Nat.le_of_eq g1)) all0)
  show Wp p e below _ _ T5 (mkF m 12 #[.val (.ref b), .val (.int (0 : Int32)), .val (.int (2 : Int32)), .val (.ref a1), .unset, .unset] [(.int (1 : Int32))])
  refine Wk.istore X5 hx (Ls' := #[.val (.ref b), .val (.int (0 : Int32)), .val (.int (2 : Int32)), .val (.ref a1), .val (.int (1 : Int32)), .unset]) (hb hby d13_12) rfl rfl ?_
  refine Wk.iload X5 hx (hb hby d13_14) rfl rfl ?_
  refine Wk.iloadN X5 hx (hb hby d13_16) rfl rfl ?_
  refine Wk.icmpNo X5 hx (hb hby d13_17) rfl (feq (by decide : ¬ ((1 : Int32) = (2 : Int32)))).1 ?_
  refine Wk.aloadN X5 hx (hb hby d13_20) rfl rfl rfl ?_
  refine Wk.iloadN X5 hx (hb hby d13_21) rfl rfl ?_
  refine Wk.iloadN X5 hx (hb hby d13_22) rfl rfl ?_
  have KK7 : Keep h0 h5 [] := (KK3.trans K5 (allS (Or.inr (Nat.le_of_eq g1)) all0))
  have f8 : Arv Z h5 b kc .char (2 : Int32) [(.int za), (.int zb)] (.int (0 : Int32)) := (hA.keep KK7 nin0)
  refine Wk.callS X5 hx hZ hown (w 76 _ rfl) (w 77 _ rfl) (w 66 _ rfl) (w 78 _ rfl) (by decide) (as' := [(.ref b), (.int (0 : Int32)), (.int (2 : Int32))]) (backOf (W := 0) (rm_tob2 l Z a0 hw [] b kc za zb h5 O6 sH sL sA f8) hZ (w 78 _ rfl) (w 66 _ rfl) (by decide) (by decide)) e5 (by rw [hml]; rfl) (rest := []) (lenOf pd5 rfl) rfl (Nat.le_of_eq rfl) (hb hby d13_23) rfl (by decide) (by decide) ?_
  intro T9 h9 v9 L9 X9 e9 hQ9
  obtain ⟨t9, kb9, rfl, Nq9, K9, q9_0, q9_1⟩ := hQ9
  have N9 := Fk.app N5 Nq9 KK7.1 all0
  have O10 : Old Z Z.heap.size h9 := O6.keep K9 all0
  show Wp p e below _ _ T9 (mkF m 26 #[.val (.ref b), .val (.int (0 : Int32)), .val (.int (2 : Int32)), .val (.ref a1), .val (.int (1 : Int32)), .unset] [(.ref t9)])
  refine Wk.astore X9 hx (Ls' := #[.val (.ref b), .val (.int (0 : Int32)), .val (.int (2 : Int32)), .val (.ref a1), .val (.int (1 : Int32)), .val (.ref t9)]) (hb hby d13_26) rfl rfl rfl ?_
  refine Wk.aload X9 hx (hb hby d13_28) rfl rfl rfl ?_
  refine Wk.iload X9 hx (hb hby d13_30) rfl rfl ?_
  refine Wk.callS X9 hx hZ hown (w 92 _ rfl) (w 93 _ rfl) (w 66 _ rfl) (w 94 _ rfl) (by decide) (as' := [(.ref t9), (.int (1 : Int32))]) (backOf (W := 0) (rm_get1 l Z a0 hw [] t9 zb kb9 (4 : Int32) [(.int (own_b0 za)), (.int (own_b1 za)), (.int (own_b0 zb)), (.int (own_b1 zb))] h9 O10 sH sL sA q9_1 (by first | assumption | rfl | decide | exact Nat.le_of_ble_eq_true rfl) (by first | assumption | rfl | decide | exact Nat.le_of_ble_eq_true rfl) (by first | assumption | rfl | decide | exact Nat.le_of_ble_eq_true rfl) (by first | assumption | rfl | decide | exact Nat.le_of_ble_eq_true rfl) hczb) hZ (w 94 _ rfl) (w 66 _ rfl) (by decide) (by decide)) e9 (by rw [hml]; rfl) (rest := []) (lenOf pd6 rfl) rfl (Nat.le_of_eq rfl) (hb hby d13_32) rfl (by decide) (by decide) ?_
  intro T11 h11 v11 L11 X11 e11 hQ11
  obtain ⟨rfl, Nq11, K11⟩ := hQ11
  have KK12 : Keep h0 h9 [] := (KK7.trans K9 all0)
  have N11 := Fk.app N9 Nq11 KK12.1 all0
  rw [K11] at e11
  show Wp p e below _ _ T11 (mkF m 35 #[.val (.ref b), .val (.int (0 : Int32)), .val (.int (2 : Int32)), .val (.ref a1), .val (.int (1 : Int32)), .val (.ref t9)] [(.int zb)])
  refine Wk.sipush X11 hx (v := (255 : Int32)) (hb hby d13_35) rfl rfl ?_
  refine Wk.icmpYes X11 hx (hb hby d13_38) (by decide) (q := 54) rfl (tlt hgzb).2.2.1 ?_
  refine Wk.aload X11 hx (hb hby d13_54) rfl rfl rfl ?_
  exact Wk.retA' X11 hx hlk hr rfl rfl (hb hby d13_56) (by decide) (by decide) (Qc := Q_rm_cp3_21 Z b kc za zb h0) e11 ⟨t9, kb9, rfl, N11, KK12, (Nat.le_trans KK7.1 q9_0), q9_1⟩
def Q_rm_iv_21 (Z : State) (x : Addr) (b : Addr) (kc : ClassId) (G1 : Int32) (za : Int32) (zb : Int32) (h0 : Heap) (v : Option Value) (h : Heap) (L : List Loc) : Prop := ∃ t : Addr, ∃ kb : ClassId, v = none ∧ Fk h0.size [x] L ∧ Keep h0 h [x] ∧ h0.size ≤ t ∧ Exa Z h x "java/lang/String" ∧ Fld Z h x "java/lang/String" "coder" "B" (.int (1 : Int32)) ∧ Fld Z h x "java/lang/String" "value" "[B" (.ref t) ∧ Arv Z h t kb .byte (4 : Int32) [(.int (own_b0 za)), (.int (own_b1 za)), (.int (own_b0 zb)), (.int (own_b1 zb))] (.int (0 : Int32))
set_option maxRecDepth 65536 in
set_option maxHeartbeats 40000000 in
theorem rm_iv_21 (l : Launch) (Z : State) (a0 : Array Value) (hw : ∀ d ∈ tables_1, d.before a0 Z = true) (ws : List Jvm.Cond) (x : Addr) (b : Addr) (kc : ClassId) (G1 : Int32) (za : Int32) (zb : Int32) (h0 : Heap) (O0 : Old Z Z.heap.size h0) (sH : Sta Z Z.heap "java/lang/StringUTF16" "HI_BYTE_SHIFT" "I" (.int (0 : Int32))) (sL : Sta Z Z.heap "java/lang/StringUTF16" "LO_BYTE_SHIFT" "I" (.int (8 : Int32))) (sA : Sta Z Z.heap "java/lang/StringUTF16" "$assertionsDisabled" "Z" (.int (1 : Int32))) (SG1 : Sta Z Z.heap "java/lang/String" "COMPACT_STRINGS" "Z" (.int G1)) (nG1 : ¬ G1 = 0) (hE : Exa Z h0 x "java/lang/String") (hV : Fld Z h0 x "java/lang/String" "value" "[B" .null) (hC : Fld Z h0 x "java/lang/String" "coder" "B" (.int (0 : Int32))) (hxz : Z.heap.size ≤ x) (hA : Arv Z h0 b kc .char (2 : Int32) [(.int za), (.int zb)] (.int (0 : Int32))) (hcza : Chr za) (hczb : Chr zb) (hlza : ¬ ((255 : Int32) < za)) (hgzb : (255 : Int32) < zb) :
    Ctr l Z (⟨"java/lang/String", "<init>", "([CIILjava/lang/Void;)V"⟩ : MethodName) jdk_42_method_149_code 6 none ws ({ frames := 4, cells := 2, slots := 6, locals := 57 } : Room) #[(.ref x), (.ref b), (.int (0 : Int32)), (.int (2 : Int32)), .null] h0 (Q_rm_iv_21 Z x b kc G1 za zb h0) := by
  refine Ctr.intro (Ls := fun _ => #[.val (.ref x), .val (.ref b), .val (.int (0 : Int32)), .val (.int (2 : Int32)), .val .null, .unset]) (plainFor_of_name pn7) (fun m => by first | rfl | (simp [entryFrame, mkF, argsToLocals, Value.category]; done)) ?_
  intro p e s m below meth c s₁ hx hby hml hr hlk hZ hown hnm hs0 X0 e0
  have w : ∀ (k : Nat) (d : Jvm.Cond), tables_1[k]? = some d → d.before a0 Z = true := fun k d q => hw d (List.mem_of_getElem? q)
  have N0 := Fk.nil h0.size [x]
  refine Wk.aloadN X0 hx (hb hby d4_0) rfl rfl rfl ?_
  refine Wk.objinit X0 hx hZ hown (w 19 _ rfl) (w 20 _ rfl) (w 21 _ rfl) e0 (by rw [hml]; rfl) (hb hby d4_1) rfl (by decide) 0 (Nat.le_of_eq rfl) (by decide) ?_
  intro T1 X1 e1
  refine Wk.iloadN X1 hx (hb hby d4_4) rfl rfl ?_
  refine Wk.ifYes X1 hx (hb hby d4_5) (by decide) (q := 27) rfl ((if0 _ _).trans (feq (by decide : ¬ ((2 : Int32) = (0 : Int32)))).2) ?_
  refine Wk.getstatic X1 hx hZ hown (host := "") (Or.inl (w 44 _ rfl)) Via.refl e1 (SG1.ext O0.2) (hb hby d4_27) rfl ?_
  intro T2 X2 e2
  refine Wk.ifNo X2 hx (hb hby d4_30) rfl ((if0 _ _).trans (feq nG1).1) ?_
  refine Wk.aloadN X2 hx (hb hby d4_33) rfl rfl rfl ?_
  refine Wk.iloadN X2 hx (hb hby d4_34) rfl rfl ?_
  refine Wk.iloadN X2 hx (hb hby d4_35) rfl rfl ?_
  refine Wk.callS X2 hx hZ hown (w 64 _ rfl) (w 65 _ rfl) (w 66 _ rfl) (w 67 _ rfl) (by decide) (as' := [(.ref b), (.int (0 : Int32)), (.int (2 : Int32))]) (backOf (W := 0) (rm_cp3_21 l Z a0 hw [] b kc za zb h0 O0 sH sL sA hA hcza hczb hlza hgzb) hZ (w 67 _ rfl) (w 66 _ rfl) (by decide) (by decide)) e2 (by rw [hml]; rfl) (rest := []) (lenOf pd5 rfl) rfl (Nat.le_of_eq rfl) (hb hby d4_36) rfl (by decide) (by decide) ?_
  intro T3 h3 v3 L3 X3 e3 hQ3
  obtain ⟨t3, kb3, rfl, Nq3, K3, q3_0, q3_1⟩ := hQ3
  have N3 := Fk.app N0 Nq3 (Nat.le_refl _) all0
  have O4 : Old Z Z.heap.size h3 := O0.keep K3 all0
  show Wp p e below _ _ T3 (mkF m 39 #[.val (.ref x), .val (.ref b), .val (.int (0 : Int32)), .val (.int (2 : Int32)), .val .null, .unset] [(.ref t3)])
  refine Wk.astore X3 hx (Ls' := #[.val (.ref x), .val (.ref b), .val (.int (0 : Int32)), .val (.int (2 : Int32)), .val .null, .val (.ref t3)]) (hb hby d4_39) rfl rfl rfl ?_
  refine Wk.aloadN X3 hx (hb hby d4_41) rfl rfl rfl ?_
  refine Wk.aload X3 hx (hb hby d4_42) rfl rfl rfl ?_
  refine Wk.iloadN X3 hx (hb hby d4_44) rfl rfl ?_
  refine Wk.callS X3 hx hZ hown (w 71 _ rfl) (w 72 _ rfl) (w 66 _ rfl) (w 73 _ rfl) (by decide) (as' := [(.ref t3), (.int (2 : Int32))]) (backOf (W := 1) (rm_cfa2 l Z a0 hw [] t3 kb3 [(.int (own_b0 za)), (.int (own_b1 za)), (.int (own_b0 zb)), (.int (own_b1 zb))] h3 O4 q3_1) hZ (w 73 _ rfl) (w 66 _ rfl) (by decide) (by decide)) e3 (by rw [hml]; rfl) (rest := [(.ref x)]) (lenOf pd8 rfl) rfl (Nat.le_of_eq rfl) (hb hby d4_45) rfl (by decide) (by decide) ?_
  intro T5 h5 v5 L5 X5 e5 hQ5
  obtain ⟨rfl, Nq5, K5⟩ := hQ5
  have KK6 : Keep h0 h3 [] := ((Keep.refl h0 []).trans K3 all0)
  have N5 := Fk.app N3 Nq5 KK6.1 all0
  rw [K5] at e5
  show Wp p e below _ _ T5 (mkF m 48 #[.val (.ref x), .val (.ref b), .val (.int (0 : Int32)), .val (.int (2 : Int32)), .val .null, .val (.ref t3)] [(.int (1 : Int32)), (.ref x)])
  have f7 : Exa Z h3 x "java/lang/String" := (hE.keep KK6)
  have f8 : Fld Z h3 x "java/lang/String" "coder" "B" (.int (0 : Int32)) := (hC.keep KK6 nin0)
  have f10 : Fld Z h3 x "java/lang/String" "value" "[B" .null := (hV.keep KK6 nin0)
  refine Wk.putfieldN X5 hx hZ hown (w 29 _ rfl) Via.refl e5 (v' := (.int (1 : Int32))) f8 f7 (Or.inr ⟨(w 25 _ rfl), rfl, hnm⟩) (w 9 _ rfl) (ty := .byte) (by decide) rfl rfl (hb hby d4_48) rfl ?_
  intro T9 h9 L9 M9 X9 e9 W9 Fw9
  have N9 := M9 _ _ N5 (Or.inl (List.mem_of_getElem? (i := 0) rfl))
  have O11 : Old Z Z.heap.size h9 := O4.wr W9 hxz
  have f12 : Fld Z h9 x "java/lang/String" "value" "[B" .null := f10.other W9 (Or.inr (slot_ne (Or.inr (w 24 _ rfl)) (Or.inr (w 25 _ rfl)) (by decide) (t := (.array .byte)) (t' := .byte) (by decide) (by decide)))
  have E9' : Exa Z h9 x "java/lang/String" := f7.wr W9
  refine Wk.aloadN X9 hx (hb hby d4_51) rfl rfl rfl ?_
  refine Wk.aload X9 hx (hb hby d4_52) rfl rfl rfl ?_
  refine Wk.putfield X9 hx hZ hown (host := "") (Or.inl (w 28 _ rfl)) Via.refl e9 f12 E9' (Or.inr ⟨(w 24 _ rfl), rfl, hnm⟩) (w 9 _ rfl) (ty := (.array .byte)) (by decide) rfl rfl (hb hby d4_54) rfl ?_
  intro T13 h13 L13 M13 X13 e13 W13 Fw13
  have N13 := M13 _ _ N9 (Or.inl (List.mem_of_getElem? (i := 0) rfl))
  have O14 : Old Z Z.heap.size h13 := O11.wr W13 hxz
  have f15 : Fld Z h13 x "java/lang/String" "coder" "B" (.int (1 : Int32)) := Fw9.other W13 (Or.inr (slot_ne (Or.inr (w 25 _ rfl)) (Or.inr (w 24 _ rfl)) (by decide) (t := .byte) (t' := (.array .byte)) (by decide) (by decide)))
  have E13' : Exa Z h13 x "java/lang/String" := E9'.wr W13
  have KK16 : Keep h0 h13 [x] := ((((Keep.refl h0 [x]).trans K3 all0).wr W9 (Or.inl (List.mem_of_getElem? (i := 0) rfl))).wr W13 (Or.inl (List.mem_of_getElem? (i := 0) rfl)))
  have KK17 : Keep h3 h13 [x] := (((Keep.refl h3 [x]).wr W9 (Or.inl (List.mem_of_getElem? (i := 0) rfl))).wr W13 (Or.inl (List.mem_of_getElem? (i := 0) rfl)))
  have f18 : Arv Z h13 t3 kb3 .byte (4 : Int32) [(.int (own_b0 za)), (.int (own_b1 za)), (.int (own_b0 zb)), (.int (own_b1 zb))] (.int (0 : Int32)) := (q3_1.keep KK17 (ninS (Ne.symm (Nat.ne_of_lt (Nat.lt_of_lt_of_le hE.lt q3_0))) nin0))
  exact Wk.ret0' X13 hx hlk hr (hb hby d4_57) (by decide) (by decide) (Qc := Q_rm_iv_21 Z x b kc G1 za zb h0) e13 ⟨t3, kb3, rfl, N13, KK16, q3_0, E13', f15, Fw13, f18⟩
def Q_rm_ic_21 (Z : State) (x : Addr) (b : Addr) (kc : ClassId) (G1 : Int32) (za : Int32) (zb : Int32) (h0 : Heap) (v : Option Value) (h : Heap) (L : List Loc) : Prop := ∃ t : Addr, ∃ kb : ClassId, v = none ∧ Fk h0.size [x] L ∧ Keep h0 h [x] ∧ h0.size ≤ t ∧ Exa Z h x "java/lang/String" ∧ Fld Z h x "java/lang/String" "coder" "B" (.int (1 : Int32)) ∧ Fld Z h x "java/lang/String" "value" "[B" (.ref t) ∧ Arv Z h t kb .byte (4 : Int32) [(.int (own_b0 za)), (.int (own_b1 za)), (.int (own_b0 zb)), (.int (own_b1 zb))] (.int (0 : Int32))
set_option maxRecDepth 65536 in
set_option maxHeartbeats 40000000 in
theorem rm_ic_21 (l : Launch) (Z : State) (a0 : Array Value) (hw : ∀ d ∈ tables_1, d.before a0 Z = true) (ws : List Jvm.Cond) (x : Addr) (b : Addr) (kc : ClassId) (G1 : Int32) (za : Int32) (zb : Int32) (h0 : Heap) (O0 : Old Z Z.heap.size h0) (sH : Sta Z Z.heap "java/lang/StringUTF16" "HI_BYTE_SHIFT" "I" (.int (0 : Int32))) (sL : Sta Z Z.heap "java/lang/StringUTF16" "LO_BYTE_SHIFT" "I" (.int (8 : Int32))) (sA : Sta Z Z.heap "java/lang/StringUTF16" "$assertionsDisabled" "Z" (.int (1 : Int32))) (SG1 : Sta Z Z.heap "java/lang/String" "COMPACT_STRINGS" "Z" (.int G1)) (nG1 : ¬ G1 = 0) (hE : Exa Z h0 x "java/lang/String") (hV : Fld Z h0 x "java/lang/String" "value" "[B" .null) (hC : Fld Z h0 x "java/lang/String" "coder" "B" (.int (0 : Int32))) (hxz : Z.heap.size ≤ x) (hA : Arv Z h0 b kc .char (2 : Int32) [(.int za), (.int zb)] (.int (0 : Int32))) (hcza : Chr za) (hczb : Chr zb) (hlza : ¬ ((255 : Int32) < za)) (hgzb : (255 : Int32) < zb) :
    Ctr l Z (⟨"java/lang/String", "<init>", "([C)V"⟩ : MethodName) jdk_42_method_3_code 2 none ws ({ frames := 5, cells := 2, slots := 6, locals := 74 } : Room) #[(.ref x), (.ref b)] h0 (Q_rm_ic_21 Z x b kc G1 za zb h0) := by
  refine Ctr.intro (Ls := fun _ => #[.val (.ref x), .val (.ref b)]) (plainFor_of_name pn7) (fun m => by first | rfl | (simp [entryFrame, mkF, argsToLocals, Value.category]; done)) ?_
  intro p e s m below meth c s₁ hx hby hml hr hlk hZ hown hnm hs0 X0 e0
  have w : ∀ (k : Nat) (d : Jvm.Cond), tables_1[k]? = some d → d.before a0 Z = true := fun k d q => hw d (List.mem_of_getElem? q)
  have N0 := Fk.nil h0.size [x]
  refine Wk.aloadN X0 hx (hb hby d3_0) rfl rfl rfl ?_
  refine Wk.aloadN X0 hx (hb hby d3_1) rfl rfl rfl ?_
  refine Wk.iconst X0 hx (v := (0 : Int32)) (hb hby d3_2) rfl rfl ?_
  refine Wk.aloadN X0 hx (hb hby d3_3) rfl rfl rfl ?_
  refine Wk.arraylength X0 hx hZ e0 hA (hb hby d3_4) rfl ?_
  refine Wk.aconstNull X0 hx (hb hby d3_5) rfl ?_
  refine Wk.callI X0 hx hZ rfl hown (w 15 _ rfl) (w 16 _ rfl) (w 18 _ rfl) (by decide) (as' := [(.ref b), (.int (0 : Int32)), (.int (2 : Int32)), .null]) (backOf (W := 0) (rm_iv_21 l Z a0 hw [] x b kc G1 za zb h0 O0 sH sL sA SG1 nG1 hE hV hC hxz hA hcza hczb hlza hgzb) hZ (w 18 _ rfl) (w 10 _ rfl) (by decide) (by decide)) e0 (by rw [hml]; rfl) (rest := []) (lenOf pd9 rfl) rfl (Nat.le_of_eq rfl) (hb hby d3_6) rfl (by decide) (by decide) ?_
  intro T1 h1 v1 L1 X1 e1 hQ1
  obtain ⟨t1, kb1, rfl, Nq1, K1, q1_0, q1_1, q1_2, q1_3, q1_4⟩ := hQ1
  have N1 := Fk.app N0 Nq1 (Nat.le_refl _) (allS (Or.inl (List.mem_of_getElem? (i := 0) rfl)) all0)
  have O2 : Old Z Z.heap.size h1 := O0.keep K1 (allS hxz all0)
  show Wp p e below _ _ T1 (mkF m 9 #[.val (.ref x), .val (.ref b)] [])
  have KK3 : Keep h0 h1 [x] := ((Keep.refl h0 [x]).trans K1 (allS (Or.inl (List.mem_of_getElem? (i := 0) rfl)) all0))
  exact Wk.ret0' X1 hx hlk hr (hb hby d3_9) (by decide) (by decide) (Qc := Q_rm_ic_21 Z x b kc G1 za zb h0) e1 ⟨t1, kb1, rfl, N1, KK3, q1_0, q1_1, q1_2, q1_3, q1_4⟩
def Q_rm_nbl3 (Z : State) (h0 : Heap) (v : Option Value) (h : Heap) (L : List Loc) : Prop := v = some (.int (6 : Int32)) ∧ Fk h0.size [] L ∧ h = h0
set_option maxRecDepth 65536 in
set_option maxHeartbeats 40000000 in
theorem rm_nbl3 (l : Launch) (Z : State) (a0 : Array Value) (hw : ∀ d ∈ tables_1, d.before a0 Z = true) (ws : List Jvm.Cond) (h0 : Heap) (O0 : Old Z Z.heap.size h0) :
    Ctr l Z (⟨"java/lang/StringUTF16", "newBytesLength", "(I)I"⟩ : MethodName) jdk_52_method_3_code 1 (some .int) ws ({ frames := 0, cells := 0, slots := 0, locals := 0 } : Room) #[(.int (3 : Int32))] h0 (Q_rm_nbl3 Z h0) := by
  refine Ctr.intro (Ls := fun _ => #[.val (.int (3 : Int32))]) (plainFor_of_name pn0) (fun m => by first | rfl | (simp [entryFrame, mkF, argsToLocals, Value.category]; done)) ?_
  intro p e s m below meth c s₁ hx hby hml hr hlk hZ hown hnm hs0 X0 e0
  have w : ∀ (k : Nat) (d : Jvm.Cond), tables_1[k]? = some d → d.before a0 Z = true := fun k d q => hw d (List.mem_of_getElem? q)
  have N0 := Fk.nil h0.size []
  refine Wk.iloadN X0 hx (hb hby d18_0) rfl rfl ?_
  refine Wk.ifYes X0 hx (hb hby d18_1) (by decide) (q := 12) rfl ((if0 _ _).trans (flt (by decide : ¬ ((3 : Int32) < (0 : Int32)))).2.1) ?_
  refine Wk.iloadN X0 hx (hb hby d18_12) rfl rfl ?_
  refine Wk.ldcInt X0 hx hZ hown (w 85 _ rfl) (hb hby d18_13) rfl ?_
  refine Wk.icmpYes X0 hx (hb hby d18_15) (by decide) (q := 55) rfl (tlt (by decide : (3 : Int32) < (1073741823 : Int32))).1 ?_
  refine Wk.iloadN X0 hx (hb hby d18_55) rfl rfl ?_
  refine Wk.iconst X0 hx (v := (1 : Int32)) (hb hby d18_56) rfl rfl ?_
  refine Wk.ishl X0 hx (hb hby d18_57) rfl ?_
  rw [(by decide : (((3 : Int32) <<< ((1 : Int32) &&& 31)) : Int32) = (6 : Int32))]
  exact Wk.retI' X0 hx hlk hr (hb hby d18_58) (by decide) (by decide) (Qc := Q_rm_nbl3 Z h0) e0 ⟨rfl, N0, rfl⟩
def Q_rm_nbf3 (Z : State) (h0 : Heap) (v : Option Value) (h : Heap) (L : List Loc) : Prop := ∃ t : Addr, ∃ kb : ClassId, v = some (.ref t) ∧ Fk h0.size [] L ∧ Keep h0 h [] ∧ h0.size ≤ t ∧ Arv Z h t kb .byte (6 : Int32) [(.int (0 : Int32)), (.int (0 : Int32)), (.int (0 : Int32)), (.int (0 : Int32)), (.int (0 : Int32)), (.int (0 : Int32))] (.int (0 : Int32))
set_option maxRecDepth 65536 in
set_option maxHeartbeats 40000000 in
theorem rm_nbf3 (l : Launch) (Z : State) (a0 : Array Value) (hw : ∀ d ∈ tables_1, d.before a0 Z = true) (ws : List Jvm.Cond) (h0 : Heap) (O0 : Old Z Z.heap.size h0) :
    Ctr l Z (⟨"java/lang/StringUTF16", "newBytesFor", "(I)[B"⟩ : MethodName) jdk_52_method_2_code 1 (some (.array .byte)) ws ({ frames := 1, cells := 1, slots := 6, locals := 12 } : Room) #[(.int (3 : Int32))] h0 (Q_rm_nbf3 Z h0) := by
  refine Ctr.intro (Ls := fun _ => #[.val (.int (3 : Int32))]) (plainFor_of_name pn0) (fun m => by first | rfl | (simp [entryFrame, mkF, argsToLocals, Value.category]; done)) ?_
  intro p e s m below meth c s₁ hx hby hml hr hlk hZ hown hnm hs0 X0 e0
  have w : ∀ (k : Nat) (d : Jvm.Cond), tables_1[k]? = some d → d.before a0 Z = true := fun k d q => hw d (List.mem_of_getElem? q)
  have N0 := Fk.nil h0.size []
  refine Wk.iloadN X0 hx (hb hby d17_0) rfl rfl ?_
  refine Wk.callS X0 hx hZ hown (w 82 _ rfl) (w 83 _ rfl) (w 66 _ rfl) (w 84 _ rfl) (by decide) (as' := [(.int (3 : Int32))]) (backOf (W := 0) (rm_nbl3 l Z a0 hw [] h0 O0) hZ (w 84 _ rfl) (w 66 _ rfl) (by decide) (by decide)) e0 (by rw [hml]; rfl) (rest := []) (lenOf pd1 rfl) rfl (Nat.le_of_eq rfl) (hb hby d17_1) rfl (by decide) (by decide) ?_
  intro T1 h1 v1 L1 X1 e1 hQ1
  obtain ⟨rfl, Nq1, K1⟩ := hQ1
  have N1 := Fk.app N0 Nq1 (Nat.le_refl _) all0
  rw [K1] at e1
  show Wp p e below _ _ T1 (mkF m 4 #[.val (.int (3 : Int32))] [(.int (6 : Int32))])
  refine Wk.newarray X1 hx hZ (w 23 _ rfl) e1 (hb hby d17_4) rfl (by decide) 6 (by decide) (by decide) (by decide) (by decide) ?_
  intro T2 h2 a2 kA2 g2 X2 e2 E2 A2
  have O3 : Old Z Z.heap.size h2 := O0.ext E2
  have V2 : Arv Z h2 a2 kA2 .byte (6 : Int32) [(.int (0 : Int32)), (.int (0 : Int32)), (.int (0 : Int32)), (.int (0 : Int32)), (.int (0 : Int32)), (.int (0 : Int32))] (.int (0 : Int32)) := A2.pad (pad_rep [] (.int (0 : Int32)) 6)
  have KK4 : Keep h0 h2 [] := ((Keep.refl h0 []).ext E2)
  exact Wk.retA' X2 hx hlk hr rfl rfl (hb hby d17_6) (by decide) (by decide) (Qc := Q_rm_nbf3 Z h0) e2 ⟨a2, kA2, rfl, N1, KK4, (Nat.le_of_eq g2), V2⟩
def Q_rm_tob3 (Z : State) (b : Addr) (kc : ClassId) (za : Int32) (zb : Int32) (zc : Int32) (h0 : Heap) (v : Option Value) (h : Heap) (L : List Loc) : Prop := ∃ t : Addr, ∃ kb : ClassId, v = some (.ref t) ∧ Fk h0.size [] L ∧ Keep h0 h [] ∧ h0.size ≤ t ∧ Arv Z h t kb .byte (6 : Int32) [(.int (own_b0 za)), (.int (own_b1 za)), (.int (own_b0 zb)), (.int (own_b1 zb)), (.int (own_b0 zc)), (.int (own_b1 zc))] (.int (0 : Int32))
set_option maxRecDepth 65536 in
set_option maxHeartbeats 40000000 in
theorem rm_tob3 (l : Launch) (Z : State) (a0 : Array Value) (hw : ∀ d ∈ tables_1, d.before a0 Z = true) (ws : List Jvm.Cond) (b : Addr) (kc : ClassId) (za : Int32) (zb : Int32) (zc : Int32) (h0 : Heap) (O0 : Old Z Z.heap.size h0) (sH : Sta Z Z.heap "java/lang/StringUTF16" "HI_BYTE_SHIFT" "I" (.int (0 : Int32))) (sL : Sta Z Z.heap "java/lang/StringUTF16" "LO_BYTE_SHIFT" "I" (.int (8 : Int32))) (sA : Sta Z Z.heap "java/lang/StringUTF16" "$assertionsDisabled" "Z" (.int (1 : Int32))) (hA : Arv Z h0 b kc .char (3 : Int32) [(.int za), (.int zb), (.int zc)] (.int (0 : Int32))) :
    Ctr l Z (⟨"java/lang/StringUTF16", "toBytes", "([CII)[B"⟩ : MethodName) jdk_52_method_14_code 5 (some (.array .byte)) ws ({ frames := 2, cells := 1, slots := 6, locals := 24 } : Room) #[(.ref b), (.int (0 : Int32)), (.int (3 : Int32))] h0 (Q_rm_tob3 Z b kc za zb zc h0) := by
  refine Ctr.intro (Ls := fun _ => #[.val (.ref b), .val (.int (0 : Int32)), .val (.int (3 : Int32)), .unset, .unset]) (plainFor_of_name pn0) (fun m => by first | rfl | (simp [entryFrame, mkF, argsToLocals, Value.category]; done)) ?_
  intro p e s m below meth c s₁ hx hby hml hr hlk hZ hown hnm hs0 X0 e0
  have w : ∀ (k : Nat) (d : Jvm.Cond), tables_1[k]? = some d → d.before a0 Z = true := fun k d q => hw d (List.mem_of_getElem? q)
  have N0 := Fk.nil h0.size []
  refine Wk.iloadN X0 hx (hb hby d16_0) rfl rfl ?_
  refine Wk.callS X0 hx hZ hown (w 79 _ rfl) (w 80 _ rfl) (w 66 _ rfl) (w 81 _ rfl) (by decide) (as' := [(.int (3 : Int32))]) (backOf (W := 0) (rm_nbf3 l Z a0 hw [] h0 O0) hZ (w 81 _ rfl) (w 66 _ rfl) (by decide) (by decide)) e0 (by rw [hml]; rfl) (rest := []) (lenOf pd2 rfl) rfl (Nat.le_of_eq rfl) (hb hby d16_1) rfl (by decide) (by decide) ?_
  intro T1 h1 v1 L1 X1 e1 hQ1
  obtain ⟨t1, kb1, rfl, Nq1, K1, q1_0, q1_1⟩ := hQ1
  have N1 := Fk.app N0 Nq1 (Nat.le_refl _) all0
  have O2 : Old Z Z.heap.size h1 := O0.keep K1 all0
  show Wp p e below _ _ T1 (mkF m 4 #[.val (.ref b), .val (.int (0 : Int32)), .val (.int (3 : Int32)), .unset, .unset] [(.ref t1)])
  refine Wk.astoreN X1 hx (Ls' := #[.val (.ref b), .val (.int (0 : Int32)), .val (.int (3 : Int32)), .val (.ref t1), .unset]) (hb hby d16_4) rfl rfl rfl ?_
  refine Wk.iconst X1 hx (v := (0 : Int32)) (hb hby d16_5) rfl rfl ?_
  refine Wk.istore X1 hx (Ls' := #[.val (.ref b), .val (.int (0 : Int32)), .val (.int (3 : Int32)), .val (.ref t1), .val (.int (0 : Int32))]) (hb hby d16_6) rfl rfl ?_
  refine Wk.iload X1 hx (hb hby d16_8) rfl rfl ?_
  refine Wk.iloadN X1 hx (hb hby d16_10) rfl rfl ?_
  refine Wk.icmpNo X1 hx (hb hby d16_11) rfl (tlt (by decide : (0 : Int32) < (3 : Int32))).2.1 ?_
  refine Wk.aloadN X1 hx (hb hby d16_14) rfl rfl rfl ?_
  refine Wk.iload X1 hx (hb hby d16_15) rfl rfl ?_
  refine Wk.aloadN X1 hx (hb hby d16_17) rfl rfl rfl ?_
  refine Wk.iloadN X1 hx (hb hby d16_18) rfl rfl ?_
  have KK3 : Keep h0 h1 [] := ((Keep.refl h0 []).trans K1 all0)
  have f4 : Arv Z h1 b kc .char (3 : Int32) [(.int za), (.int zb), (.int zc)] (.int (0 : Int32)) := (hA.keep KK3 nin0)
  refine Wk.caload X1 hx hZ e1 f4 (by decide) (by decide) (v := za) rfl (hb hby d16_19) rfl ?_
  refine Wk.callS X1 hx hZ hown (w 86 _ rfl) (w 87 _ rfl) (w 66 _ rfl) (w 88 _ rfl) (by decide) (as' := [(.ref t1), (.int (0 : Int32)), (.int za)]) (backOf (W := 0) (rm_put0 l Z a0 hw [] t1 za kb1 (6 : Int32) [(.int (0 : Int32)), (.int (0 : Int32)), (.int (0 : Int32)), (.int (0 : Int32)), (.int (0 : Int32)), (.int (0 : Int32))] h1 O2 sH sL sA q1_1 (by first | assumption | rfl | decide | exact Nat.le_of_ble_eq_true rfl) (by first | assumption | rfl | decide | exact Nat.le_of_ble_eq_true rfl) (by first | assumption | rfl | decide | exact Nat.le_of_ble_eq_true rfl) (Nat.le_trans (Nat.le_trans (Nat.le_trans (Nat.le_of_eq O0.1.symm) O0.2.1) (Keep.refl h0 []).1) q1_0)) hZ (w 88 _ rfl) (w 66 _ rfl) (by decide) (by decide)) e1 (by rw [hml]; rfl) (rest := []) (lenOf pd3 rfl) rfl (Nat.le_of_eq rfl) (hb hby d16_20) rfl (by decide) (by decide) ?_
  intro T5 h5 v5 L5 X5 e5 hQ5
  obtain ⟨rfl, Nq5, K5, q5_0⟩ := hQ5
  have N5 := Fk.app N1 Nq5 KK3.1 (allS (Or.inr q1_0) all0)
  have O6 : Old Z Z.heap.size h5 := O2.keep K5 (allS (Nat.le_trans (Nat.le_trans (Nat.le_trans (Nat.le_of_eq O0.1.symm) O0.2.1) (Keep.refl h0 []).1) q1_0) all0)
  have Vl7 : Arv Z h5 t1 kb1 .byte (6 : Int32) [(.int (own_b0 za)), (.int (own_b1 za)), (.int (0 : Int32)), (.int (0 : Int32)), (.int (0 : Int32)), (.int (0 : Int32))] (.int (0 : Int32)) := q5_0
  show Wp p e below _ _ T5 (mkF m 23 #[.val (.ref b), .val (.int (0 : Int32)), .val (.int (3 : Int32)), .val (.ref t1), .val (.int (0 : Int32))] [])
  refine Wk.iinc X5 hx (Ls' := #[.val (.ref b), .val (.int (1 : Int32)), .val (.int (3 : Int32)), .val (.ref t1), .val (.int (0 : Int32))]) (hb hby d16_23) rfl rfl rfl ?_
  refine Wk.iinc X5 hx (Ls' := #[.val (.ref b), .val (.int (1 : Int32)), .val (.int (3 : Int32)), .val (.ref t1), .val (.int (1 : Int32))]) (hb hby d16_26) rfl rfl rfl ?_
  refine Wk.goto X5 hx (hb hby d16_29) (by decide) (q := 8) rfl ?_
  refine Wk.iload X5 hx (hb hby d16_8) rfl rfl ?_
  refine Wk.iloadN X5 hx (hb hby d16_10) rfl rfl ?_
  refine Wk.icmpNo X5 hx (hb hby d16_11) rfl (tlt (by decide : (1 : Int32) < (3 : Int32))).2.1 ?_
  refine Wk.aloadN X5 hx (hb hby d16_14) rfl rfl rfl ?_
  refine Wk.iload X5 hx (hb hby d16_15) rfl rfl ?_
  refine Wk.aloadN X5 hx (hb hby d16_17) rfl rfl rfl ?_
  refine Wk.iloadN X5 hx (hb hby d16_18) rfl rfl ?_
  have KK8 : Keep h0 h5 [] := (KK3.trans K5 (allS (Or.inr q1_0) all0))
  have f9 : Arv Z h5 b kc .char (3 : Int32) [(.int za), (.int zb), (.int zc)] (.int (0 : Int32)) := (hA.keep KK8 nin0)
  refine Wk.caload X5 hx hZ e5 f9 (by decide) (by decide) (v := zb) rfl (hb hby d16_19) rfl ?_
  refine Wk.callS X5 hx hZ hown (w 86 _ rfl) (w 87 _ rfl) (w 66 _ rfl) (w 88 _ rfl) (by decide) (as' := [(.ref t1), (.int (1 : Int32)), (.int zb)]) (backOf (W := 0) (rm_put1 l Z a0 hw [] t1 zb kb1 (6 : Int32) [(.int (own_b0 za)), (.int (own_b1 za)), (.int (0 : Int32)), (.int (0 : Int32)), (.int (0 : Int32)), (.int (0 : Int32))] h5 O6 sH sL sA Vl7 (by first | assumption | rfl | decide | exact Nat.le_of_ble_eq_true rfl) (by first | assumption | rfl | decide | exact Nat.le_of_ble_eq_true rfl) (by first | assumption | rfl | decide | exact Nat.le_of_ble_eq_true rfl) (Nat.le_trans (Nat.le_trans (Nat.le_trans (Nat.le_of_eq O0.1.symm) O0.2.1) (Keep.refl h0 []).1) q1_0)) hZ (w 88 _ rfl) (w 66 _ rfl) (by decide) (by decide)) e5 (by rw [hml]; rfl) (rest := []) (lenOf pd3 rfl) rfl (Nat.le_of_eq rfl) (hb hby d16_20) rfl (by decide) (by decide) ?_
  intro T10 h10 v10 L10 X10 e10 hQ10
  obtain ⟨rfl, Nq10, K10, q10_0⟩ := hQ10
  have N10 := Fk.app N5 Nq10 KK8.1 (allS (Or.inr q1_0) all0)
  have O11 : Old Z Z.heap.size h10 := O6.keep K10 (allS (Nat.le_trans (Nat.le_trans (Nat.le_trans (Nat.le_of_eq O0.1.symm) O0.2.1) (Keep.refl h0 []).1) q1_0) all0)
  have Vl12 : Arv Z h10 t1 kb1 .byte (6 : Int32) [(.int (own_b0 za)), (.int (own_b1 za)), (.int (own_b0 zb)), (.int (own_b1 zb)), (.int (0 : Int32)), (.int (0 : Int32))] (.int (0 : Int32)) := q10_0
  show Wp p e below _ _ T10 (mkF m 23 #[.val (.ref b), .val (.int (1 : Int32)), .val (.int (3 : Int32)), .val (.ref t1), .val (.int (1 : Int32))] [])
  refine Wk.iinc X10 hx (Ls' := #[.val (.ref b), .val (.int (2 : Int32)), .val (.int (3 : Int32)), .val (.ref t1), .val (.int (1 : Int32))]) (hb hby d16_23) rfl rfl rfl ?_
  refine Wk.iinc X10 hx (Ls' := #[.val (.ref b), .val (.int (2 : Int32)), .val (.int (3 : Int32)), .val (.ref t1), .val (.int (2 : Int32))]) (hb hby d16_26) rfl rfl rfl ?_
  refine Wk.goto X10 hx (hb hby d16_29) (by decide) (q := 8) rfl ?_
  refine Wk.iload X10 hx (hb hby d16_8) rfl rfl ?_
  refine Wk.iloadN X10 hx (hb hby d16_10) rfl rfl ?_
  refine Wk.icmpNo X10 hx (hb hby d16_11) rfl (tlt (by decide : (2 : Int32) < (3 : Int32))).2.1 ?_
  refine Wk.aloadN X10 hx (hb hby d16_14) rfl rfl rfl ?_
  refine Wk.iload X10 hx (hb hby d16_15) rfl rfl ?_
  refine Wk.aloadN X10 hx (hb hby d16_17) rfl rfl rfl ?_
  refine Wk.iloadN X10 hx (hb hby d16_18) rfl rfl ?_
  have KK13 : Keep h0 h10 [] := (KK8.trans K10 (allS (Or.inr q1_0) all0))
  have f14 : Arv Z h10 b kc .char (3 : Int32) [(.int za), (.int zb), (.int zc)] (.int (0 : Int32)) := (hA.keep KK13 nin0)
  refine Wk.caload X10 hx hZ e10 f14 (by decide) (by decide) (v := zc) rfl (hb hby d16_19) rfl ?_
  refine Wk.callS X10 hx hZ hown (w 86 _ rfl) (w 87 _ rfl) (w 66 _ rfl) (w 88 _ rfl) (by decide) (as' := [(.ref t1), (.int (2 : Int32)), (.int zc)]) (backOf (W := 0) (rm_put2 l Z a0 hw [] t1 zc kb1 (6 : Int32) [(.int (own_b0 za)), (.int (own_b1 za)), (.int (own_b0 zb)), (.int (own_b1 zb)), (.int (0 : Int32)), (.int (0 : Int32))] h10 O11 sH sL sA Vl12 (by first | assumption | rfl | decide | exact Nat.le_of_ble_eq_true rfl) (by first | assumption | rfl | decide | exact Nat.le_of_ble_eq_true rfl) (by first | assumption | rfl | decide | exact Nat.le_of_ble_eq_true rfl) (Nat.le_trans (Nat.le_trans (Nat.le_trans (Nat.le_of_eq O0.1.symm) O0.2.1) (Keep.refl h0 []).1) q1_0)) hZ (w 88 _ rfl) (w 66 _ rfl) (by decide) (by decide)) e10 (by rw [hml]; rfl) (rest := []) (lenOf pd3 rfl) rfl (Nat.le_of_eq rfl) (hb hby d16_20) rfl (by decide) (by decide) ?_
  intro T15 h15 v15 L15 X15 e15 hQ15
  obtain ⟨rfl, Nq15, K15, q15_0⟩ := hQ15
  have N15 := Fk.app N10 Nq15 KK13.1 (allS (Or.inr q1_0) all0)
  have O16 : Old Z Z.heap.size h15 := O11.keep K15 (allS (Nat.le_trans (Nat.le_trans (Nat.le_trans (Nat.le_of_eq O0.1.symm) O0.2.1) (Keep.refl h0 []).1) q1_0) all0)
  have Vl17 : Arv Z h15 t1 kb1 .byte (6 : Int32) [(.int (own_b0 za)), (.int (own_b1 za)), (.int (own_b0 zb)), (.int (own_b1 zb)), (.int (own_b0 zc)), (.int (own_b1 zc))] (.int (0 : Int32)) := q15_0
  show Wp p e below _ _ T15 (mkF m 23 #[.val (.ref b), .val (.int (2 : Int32)), .val (.int (3 : Int32)), .val (.ref t1), .val (.int (2 : Int32))] [])
  refine Wk.iinc X15 hx (Ls' := #[.val (.ref b), .val (.int (3 : Int32)), .val (.int (3 : Int32)), .val (.ref t1), .val (.int (2 : Int32))]) (hb hby d16_23) rfl rfl rfl ?_
  refine Wk.iinc X15 hx (Ls' := #[.val (.ref b), .val (.int (3 : Int32)), .val (.int (3 : Int32)), .val (.ref t1), .val (.int (3 : Int32))]) (hb hby d16_26) rfl rfl rfl ?_
  refine Wk.goto X15 hx (hb hby d16_29) (by decide) (q := 8) rfl ?_
  refine Wk.iload X15 hx (hb hby d16_8) rfl rfl ?_
  refine Wk.iloadN X15 hx (hb hby d16_10) rfl rfl ?_
  refine Wk.icmpYes X15 hx (hb hby d16_11) (by decide) (q := 32) rfl (flt (by decide : ¬ ((3 : Int32) < (3 : Int32)))).2.1 ?_
  refine Wk.aloadN X15 hx (hb hby d16_32) rfl rfl rfl ?_
  have KK18 : Keep h0 h15 [] := (KK13.trans K15 (allS (Or.inr q1_0) all0))
  exact Wk.retA' X15 hx hlk hr rfl rfl (hb hby d16_33) (by decide) (by decide) (Qc := Q_rm_tob3 Z b kc za zb zc h0) e15 ⟨t1, kb1, rfl, N15, KK18, q1_0, Vl17⟩
def Q_rm_cfa3 (Z : State) (t : Addr) (kb : ClassId) (vs : List Value) (h0 : Heap) (v : Option Value) (h : Heap) (L : List Loc) : Prop := v = some (.int (1 : Int32)) ∧ Fk h0.size [] L ∧ h = h0
set_option maxRecDepth 65536 in
set_option maxHeartbeats 40000000 in
theorem rm_cfa3 (l : Launch) (Z : State) (a0 : Array Value) (hw : ∀ d ∈ tables_1, d.before a0 Z = true) (ws : List Jvm.Cond) (t : Addr) (kb : ClassId) (vs : List Value) (h0 : Heap) (O0 : Old Z Z.heap.size h0) (hA : Arv Z h0 t kb .byte (6 : Int32) vs (.int (0 : Int32))) :
    Ctr l Z (⟨"java/lang/StringUTF16", "coderFromArrayLen", "([BI)B"⟩ : MethodName) jdk_52_method_15_code 2 (some .byte) ws ({ frames := 0, cells := 0, slots := 0, locals := 0 } : Room) #[(.ref t), (.int (3 : Int32))] h0 (Q_rm_cfa3 Z t kb vs h0) := by
  refine Ctr.intro (Ls := fun _ => #[.val (.ref t), .val (.int (3 : Int32))]) (plainFor_of_name pn0) (fun m => by first | rfl | (simp [entryFrame, mkF, argsToLocals, Value.category]; done)) ?_
  intro p e s m below meth c s₁ hx hby hml hr hlk hZ hown hnm hs0 X0 e0
  have w : ∀ (k : Nat) (d : Jvm.Cond), tables_1[k]? = some d → d.before a0 Z = true := fun k d q => hw d (List.mem_of_getElem? q)
  have N0 := Fk.nil h0.size []
  refine Wk.iloadN X0 hx (hb hby d15_0) rfl rfl ?_
  refine Wk.aloadN X0 hx (hb hby d15_1) rfl rfl rfl ?_
  refine Wk.arraylength X0 hx hZ e0 hA (hb hby d15_2) rfl ?_
  refine Wk.isub X0 hx (hb hby d15_3) rfl ?_
  rw [(by decide : (((3 : Int32) - (6 : Int32)) : Int32) = (-3 : Int32))]
  refine Wk.bipush X0 hx (v := (31 : Int32)) (hb hby d15_4) rfl rfl ?_
  refine Wk.iushr X0 hx (hb hby d15_6) rfl ?_
  rw [(by decide : ((((-3 : Int32).toUInt32 >>> ((31 : Int32) &&& 31).toUInt32).toInt32) : Int32) = (1 : Int32))]
  refine Wk.i2b X0 hx (hb hby d15_7) rfl ?_
  intro c1 hc1
  obtain rfl : c1 = (1 : Int32) := hc1.trans (by decide)
  exact Wk.retZ' X0 hx hlk hr (by simp) (hb hby d15_8) (by decide) (by decide) (Qc := Q_rm_cfa3 Z t kb vs h0) e0 ⟨rfl, N0, rfl⟩
def Q_rm_cp5_30 (Z : State) (b : Addr) (kc : ClassId) (t : Addr) (kb : ClassId) (za : Int32) (zb : Int32) (zc : Int32) (h0 : Heap) (v : Option Value) (h : Heap) (L : List Loc) : Prop := v = some (.int (0 : Int32)) ∧ Fk h0.size [] L ∧ Keep h0 h []
set_option maxRecDepth 65536 in
set_option maxHeartbeats 40000000 in
theorem rm_cp5_30 (l : Launch) (Z : State) (a0 : Array Value) (hw : ∀ d ∈ tables_1, d.before a0 Z = true) (ws : List Jvm.Cond) (b : Addr) (kc : ClassId) (t : Addr) (kb : ClassId) (za : Int32) (zb : Int32) (zc : Int32) (h0 : Heap) (O0 : Old Z Z.heap.size h0) (hA : Arv Z h0 b kc .char (3 : Int32) [(.int za), (.int zb), (.int zc)] (.int (0 : Int32))) (hT : Arv Z h0 t kb .byte (3 : Int32) [(.int (0 : Int32)), (.int (0 : Int32)), (.int (0 : Int32))] (.int (0 : Int32))) (ht : Z.heap.size ≤ t) (hbt : b ≠ t) (hgza : (255 : Int32) < za) :
    Ctr l Z (⟨"java/lang/StringUTF16", "compress", "([CI[BII)I"⟩ : MethodName) jdk_52_method_21_code 7 (some .int) ws ({ frames := 0, cells := 0, slots := 0, locals := 0 } : Room) #[(.ref b), (.int (0 : Int32)), (.ref t), (.int (0 : Int32)), (.int (3 : Int32))] h0 (Q_rm_cp5_30 Z b kc t kb za zb zc h0) := by
  refine Ctr.intro (Ls := fun _ => #[.val (.ref b), .val (.int (0 : Int32)), .val (.ref t), .val (.int (0 : Int32)), .val (.int (3 : Int32)), .unset, .unset]) (plainFor_of_name pn0) (fun m => by first | rfl | (simp [entryFrame, mkF, argsToLocals, Value.category]; done)) ?_
  intro p e s m below meth c s₁ hx hby hml hr hlk hZ hown hnm hs0 X0 e0
  have w : ∀ (k : Nat) (d : Jvm.Cond), tables_1[k]? = some d → d.before a0 Z = true := fun k d q => hw d (List.mem_of_getElem? q)
  have N0 := Fk.nil h0.size []
  refine Wk.iconst X0 hx (v := (0 : Int32)) (hb hby d14_0) rfl rfl ?_
  refine Wk.istore X0 hx (Ls' := #[.val (.ref b), .val (.int (0 : Int32)), .val (.ref t), .val (.int (0 : Int32)), .val (.int (3 : Int32)), .val (.int (0 : Int32)), .unset]) (hb hby d14_1) rfl rfl ?_
  refine Wk.iload X0 hx (hb hby d14_3) rfl rfl ?_
  refine Wk.iload X0 hx (hb hby d14_5) rfl rfl ?_
  refine Wk.icmpNo X0 hx (hb hby d14_7) rfl (tlt (by decide : (0 : Int32) < (3 : Int32))).2.1 ?_
  refine Wk.aloadN X0 hx (hb hby d14_10) rfl rfl rfl ?_
  refine Wk.iloadN X0 hx (hb hby d14_11) rfl rfl ?_
  refine Wk.caload X0 hx hZ e0 hA (by decide) (by decide) (v := za) rfl (hb hby d14_12) rfl ?_
  refine Wk.istore X0 hx (Ls' := #[.val (.ref b), .val (.int (0 : Int32)), .val (.ref t), .val (.int (0 : Int32)), .val (.int (3 : Int32)), .val (.int (0 : Int32)), .val (.int za)]) (hb hby d14_13) rfl rfl ?_
  refine Wk.iload X0 hx (hb hby d14_15) rfl rfl ?_
  refine Wk.sipush X0 hx (v := (255 : Int32)) (hb hby d14_17) rfl rfl ?_
  refine Wk.icmpNo X0 hx (hb hby d14_20) rfl (tlt hgza).2.2.2 ?_
  refine Wk.iload X0 hx (hb hby d14_23) rfl rfl ?_
  exact Wk.retI' X0 hx hlk hr (hb hby d14_25) (by decide) (by decide) (Qc := Q_rm_cp5_30 Z b kc t kb za zb zc h0) e0 ⟨rfl, N0, (Keep.refl h0 [])⟩
def Q_rm_cp3_30 (Z : State) (b : Addr) (kc : ClassId) (za : Int32) (zb : Int32) (zc : Int32) (h0 : Heap) (v : Option Value) (h : Heap) (L : List Loc) : Prop := ∃ t : Addr, ∃ kb : ClassId, v = some (.ref t) ∧ Fk h0.size [] L ∧ Keep h0 h [] ∧ h0.size ≤ t ∧ Arv Z h t kb .byte (6 : Int32) [(.int (own_b0 za)), (.int (own_b1 za)), (.int (own_b0 zb)), (.int (own_b1 zb)), (.int (own_b0 zc)), (.int (own_b1 zc))] (.int (0 : Int32))
set_option maxRecDepth 65536 in
set_option maxHeartbeats 40000000 in
theorem rm_cp3_30 (l : Launch) (Z : State) (a0 : Array Value) (hw : ∀ d ∈ tables_1, d.before a0 Z = true) (ws : List Jvm.Cond) (b : Addr) (kc : ClassId) (za : Int32) (zb : Int32) (zc : Int32) (h0 : Heap) (O0 : Old Z Z.heap.size h0) (sH : Sta Z Z.heap "java/lang/StringUTF16" "HI_BYTE_SHIFT" "I" (.int (0 : Int32))) (sL : Sta Z Z.heap "java/lang/StringUTF16" "LO_BYTE_SHIFT" "I" (.int (8 : Int32))) (sA : Sta Z Z.heap "java/lang/StringUTF16" "$assertionsDisabled" "Z" (.int (1 : Int32))) (hA : Arv Z h0 b kc .char (3 : Int32) [(.int za), (.int zb), (.int zc)] (.int (0 : Int32))) (hcza : Chr za) (hczb : Chr zb) (hczc : Chr zc) (hgza : (255 : Int32) < za) :
    Ctr l Z (⟨"java/lang/StringUTF16", "compress", "([CII)[B"⟩ : MethodName) jdk_52_method_16_code 6 (some (.array .byte)) ws ({ frames := 3, cells := 2, slots := 9, locals := 40 } : Room) #[(.ref b), (.int (0 : Int32)), (.int (3 : Int32))] h0 (Q_rm_cp3_30 Z b kc za zb zc h0) := by
  refine Ctr.intro (Ls := fun _ => #[.val (.ref b), .val (.int (0 : Int32)), .val (.int (3 : Int32)), .unset, .unset, .unset]) (plainFor_of_name pn0) (fun m => by first | rfl | (simp [entryFrame, mkF, argsToLocals, Value.category]; done)) ?_
  intro p e s m below meth c s₁ hx hby hml hr hlk hZ hown hnm hs0 X0 e0
  have w : ∀ (k : Nat) (d : Jvm.Cond), tables_1[k]? = some d → d.before a0 Z = true := fun k d q => hw d (List.mem_of_getElem? q)
  have N0 := Fk.nil h0.size []
  refine Wk.iloadN X0 hx (hb hby d13_0) rfl rfl ?_
  refine Wk.newarray X0 hx hZ (w 23 _ rfl) e0 (hb hby d13_1) rfl (by decide) 3 (by decide) (by decide) (by decide) (by decide) ?_
  intro T1 h1 a1 kA1 g1 X1 e1 E1 A1
  have O2 : Old Z Z.heap.size h1 := O0.ext E1
  have V1 : Arv Z h1 a1 kA1 .byte (3 : Int32) [(.int (0 : Int32)), (.int (0 : Int32)), (.int (0 : Int32))] (.int (0 : Int32)) := A1.pad (pad_rep [] (.int (0 : Int32)) 3)
  refine Wk.astoreN X1 hx (Ls' := #[.val (.ref b), .val (.int (0 : Int32)), .val (.int (3 : Int32)), .val (.ref a1), .unset, .unset]) (hb hby d13_3) rfl rfl rfl ?_
  refine Wk.aloadN X1 hx (hb hby d13_4) rfl rfl rfl ?_
  refine Wk.iloadN X1 hx (hb hby d13_5) rfl rfl ?_
  refine Wk.aloadN X1 hx (hb hby d13_6) rfl rfl rfl ?_
  refine Wk.iconst X1 hx (v := (0 : Int32)) (hb hby d13_7) rfl rfl ?_
  refine Wk.iloadN X1 hx (hb hby d13_8) rfl rfl ?_
  have KK3 : Keep h0 h1 [] := ((Keep.refl h0 []).ext E1)
  have f4 : Arv Z h1 b kc .char (3 : Int32) [(.int za), (.int zb), (.int zc)] (.int (0 : Int32)) := (hA.keep KK3 nin0)
  refine Wk.callS X1 hx hZ hown (w 68 _ rfl) (w 69 _ rfl) (w 66 _ rfl) (w 70 _ rfl) (by decide) (as' := [(.ref b), (.int (0 : Int32)), (.ref a1), (.int (0 : Int32)), (.int (3 : Int32))]) (backOf (W := 0) (rm_cp5_30 l Z a0 hw [] b kc a1 kA1 za zb zc h1 O2 f4 V1 (Nat.le_trans (Nat.le_trans (Nat.le_trans (Nat.le_of_eq O0.1.symm) O0.2.1) (Keep.refl h0 []).1) (Nat.le_of_eq g1)) (Nat.ne_of_lt (Nat.lt_of_lt_of_le hA.lt (Nat.le_of_eq g1))) hgza) hZ (w 70 _ rfl) (w 66 _ rfl) (by decide) (by decide)) e1 (by rw [hml]; rfl) (rest := []) (lenOf pd4 rfl) rfl (Nat.le_of_eq rfl) (hb hby d13_9) rfl (by decide) (by decide) ?_
  intro T5 h5 v5 L5 X5 e5 hQ5
  obtain ⟨rfl, Nq5, K5⟩ := hQ5
  have N5 := Fk.app N0 Nq5 KK3.1 all0
  have O6 : Old Z Z.heap.size h5 := O2.keep K5 all0
  show Wp p e below _ _ T5 (mkF m 12 #[.val (.ref b), .val (.int (0 : Int32)), .val (.int (3 : Int32)), .val (.ref a1), .unset, .unset] [(.int (0 : Int32))])
  refine Wk.istore X5 hx (Ls' := #[.val (.ref b), .val (.int (0 : Int32)), .val (.int (3 : Int32)), .val (.ref a1), .val (.int (0 : Int32)), .unset]) (hb hby d13_12) rfl rfl ?_
  refine Wk.iload X5 hx (hb hby d13_14) rfl rfl ?_
  refine Wk.iloadN X5 hx (hb hby d13_16) rfl rfl ?_
  refine Wk.icmpNo X5 hx (hb hby d13_17) rfl (feq (by decide : ¬ ((0 : Int32) = (3 : Int32)))).1 ?_
  refine Wk.aloadN X5 hx (hb hby d13_20) rfl rfl rfl ?_
  refine Wk.iloadN X5 hx (hb hby d13_21) rfl rfl ?_
  refine Wk.iloadN X5 hx (hb hby d13_22) rfl rfl ?_
  have KK7 : Keep h1 h5 [] := ((Keep.refl h1 []).trans K5 all0)
  have f8 : Arv Z h5 b kc .char (3 : Int32) [(.int za), (.int zb), (.int zc)] (.int (0 : Int32)) := (f4.keep KK7 nin0)
  refine Wk.callS X5 hx hZ hown (w 76 _ rfl) (w 77 _ rfl) (w 66 _ rfl) (w 78 _ rfl) (by decide) (as' := [(.ref b), (.int (0 : Int32)), (.int (3 : Int32))]) (backOf (W := 0) (rm_tob3 l Z a0 hw [] b kc za zb zc h5 O6 sH sL sA f8) hZ (w 78 _ rfl) (w 66 _ rfl) (by decide) (by decide)) e5 (by rw [hml]; rfl) (rest := []) (lenOf pd5 rfl) rfl (Nat.le_of_eq rfl) (hb hby d13_23) rfl (by decide) (by decide) ?_
  intro T9 h9 v9 L9 X9 e9 hQ9
  obtain ⟨t9, kb9, rfl, Nq9, K9, q9_0, q9_1⟩ := hQ9
  have KK10 : Keep h0 h5 [] := (KK3.trans K5 all0)
  have N9 := Fk.app N5 Nq9 KK10.1 all0
  have O11 : Old Z Z.heap.size h9 := O6.keep K9 all0
  show Wp p e below _ _ T9 (mkF m 26 #[.val (.ref b), .val (.int (0 : Int32)), .val (.int (3 : Int32)), .val (.ref a1), .val (.int (0 : Int32)), .unset] [(.ref t9)])
  refine Wk.astore X9 hx (Ls' := #[.val (.ref b), .val (.int (0 : Int32)), .val (.int (3 : Int32)), .val (.ref a1), .val (.int (0 : Int32)), .val (.ref t9)]) (hb hby d13_26) rfl rfl rfl ?_
  refine Wk.aload X9 hx (hb hby d13_28) rfl rfl rfl ?_
  refine Wk.iload X9 hx (hb hby d13_30) rfl rfl ?_
  refine Wk.callS X9 hx hZ hown (w 92 _ rfl) (w 93 _ rfl) (w 66 _ rfl) (w 94 _ rfl) (by decide) (as' := [(.ref t9), (.int (0 : Int32))]) (backOf (W := 0) (rm_get0 l Z a0 hw [] t9 za kb9 (6 : Int32) [(.int (own_b0 za)), (.int (own_b1 za)), (.int (own_b0 zb)), (.int (own_b1 zb)), (.int (own_b0 zc)), (.int (own_b1 zc))] h9 O11 sH sL sA q9_1 (by first | assumption | rfl | decide | exact Nat.le_of_ble_eq_true rfl) (by first | assumption | rfl | decide | exact Nat.le_of_ble_eq_true rfl) (by first | assumption | rfl | decide | exact Nat.le_of_ble_eq_true rfl) (by first | assumption | rfl | decide | exact Nat.le_of_ble_eq_true rfl) hcza) hZ (w 94 _ rfl) (w 66 _ rfl) (by decide) (by decide)) e9 (by rw [hml]; rfl) (rest := []) (lenOf pd6 rfl) rfl (Nat.le_of_eq rfl) (hb hby d13_32) rfl (by decide) (by decide) ?_
  intro T12 h12 v12 L12 X12 e12 hQ12
  obtain ⟨rfl, Nq12, K12⟩ := hQ12
  have KK13 : Keep h0 h9 [] := (KK10.trans K9 all0)
  have N12 := Fk.app N9 Nq12 KK13.1 all0
  rw [K12] at e12
  show Wp p e below _ _ T12 (mkF m 35 #[.val (.ref b), .val (.int (0 : Int32)), .val (.int (3 : Int32)), .val (.ref a1), .val (.int (0 : Int32)), .val (.ref t9)] [(.int za)])
  refine Wk.sipush X12 hx (v := (255 : Int32)) (hb hby d13_35) rfl rfl ?_
  refine Wk.icmpYes X12 hx (hb hby d13_38) (by decide) (q := 54) rfl (tlt hgza).2.2.1 ?_
  refine Wk.aload X12 hx (hb hby d13_54) rfl rfl rfl ?_
  exact Wk.retA' X12 hx hlk hr rfl rfl (hb hby d13_56) (by decide) (by decide) (Qc := Q_rm_cp3_30 Z b kc za zb zc h0) e12 ⟨t9, kb9, rfl, N12, KK13, (Nat.le_trans KK10.1 q9_0), q9_1⟩
def Q_rm_iv_30 (Z : State) (x : Addr) (b : Addr) (kc : ClassId) (G1 : Int32) (za : Int32) (zb : Int32) (zc : Int32) (h0 : Heap) (v : Option Value) (h : Heap) (L : List Loc) : Prop := ∃ t : Addr, ∃ kb : ClassId, v = none ∧ Fk h0.size [x] L ∧ Keep h0 h [x] ∧ h0.size ≤ t ∧ Exa Z h x "java/lang/String" ∧ Fld Z h x "java/lang/String" "coder" "B" (.int (1 : Int32)) ∧ Fld Z h x "java/lang/String" "value" "[B" (.ref t) ∧ Arv Z h t kb .byte (6 : Int32) [(.int (own_b0 za)), (.int (own_b1 za)), (.int (own_b0 zb)), (.int (own_b1 zb)), (.int (own_b0 zc)), (.int (own_b1 zc))] (.int (0 : Int32))
set_option maxRecDepth 65536 in
set_option maxHeartbeats 40000000 in
theorem rm_iv_30 (l : Launch) (Z : State) (a0 : Array Value) (hw : ∀ d ∈ tables_1, d.before a0 Z = true) (ws : List Jvm.Cond) (x : Addr) (b : Addr) (kc : ClassId) (G1 : Int32) (za : Int32) (zb : Int32) (zc : Int32) (h0 : Heap) (O0 : Old Z Z.heap.size h0) (sH : Sta Z Z.heap "java/lang/StringUTF16" "HI_BYTE_SHIFT" "I" (.int (0 : Int32))) (sL : Sta Z Z.heap "java/lang/StringUTF16" "LO_BYTE_SHIFT" "I" (.int (8 : Int32))) (sA : Sta Z Z.heap "java/lang/StringUTF16" "$assertionsDisabled" "Z" (.int (1 : Int32))) (SG1 : Sta Z Z.heap "java/lang/String" "COMPACT_STRINGS" "Z" (.int G1)) (nG1 : ¬ G1 = 0) (hE : Exa Z h0 x "java/lang/String") (hV : Fld Z h0 x "java/lang/String" "value" "[B" .null) (hC : Fld Z h0 x "java/lang/String" "coder" "B" (.int (0 : Int32))) (hxz : Z.heap.size ≤ x) (hA : Arv Z h0 b kc .char (3 : Int32) [(.int za), (.int zb), (.int zc)] (.int (0 : Int32))) (hcza : Chr za) (hczb : Chr zb) (hczc : Chr zc) (hgza : (255 : Int32) < za) :
    Ctr l Z (⟨"java/lang/String", "<init>", "([CIILjava/lang/Void;)V"⟩ : MethodName) jdk_42_method_149_code 6 none ws ({ frames := 4, cells := 2, slots := 9, locals := 57 } : Room) #[(.ref x), (.ref b), (.int (0 : Int32)), (.int (3 : Int32)), .null] h0 (Q_rm_iv_30 Z x b kc G1 za zb zc h0) := by
  refine Ctr.intro (Ls := fun _ => #[.val (.ref x), .val (.ref b), .val (.int (0 : Int32)), .val (.int (3 : Int32)), .val .null, .unset]) (plainFor_of_name pn7) (fun m => by first | rfl | (simp [entryFrame, mkF, argsToLocals, Value.category]; done)) ?_
  intro p e s m below meth c s₁ hx hby hml hr hlk hZ hown hnm hs0 X0 e0
  have w : ∀ (k : Nat) (d : Jvm.Cond), tables_1[k]? = some d → d.before a0 Z = true := fun k d q => hw d (List.mem_of_getElem? q)
  have N0 := Fk.nil h0.size [x]
  refine Wk.aloadN X0 hx (hb hby d4_0) rfl rfl rfl ?_
  refine Wk.objinit X0 hx hZ hown (w 19 _ rfl) (w 20 _ rfl) (w 21 _ rfl) e0 (by rw [hml]; rfl) (hb hby d4_1) rfl (by decide) 0 (Nat.le_of_eq rfl) (by decide) ?_
  intro T1 X1 e1
  refine Wk.iloadN X1 hx (hb hby d4_4) rfl rfl ?_
  refine Wk.ifYes X1 hx (hb hby d4_5) (by decide) (q := 27) rfl ((if0 _ _).trans (feq (by decide : ¬ ((3 : Int32) = (0 : Int32)))).2) ?_
  refine Wk.getstatic X1 hx hZ hown (host := "") (Or.inl (w 44 _ rfl)) Via.refl e1 (SG1.ext O0.2) (hb hby d4_27) rfl ?_
  intro T2 X2 e2
  refine Wk.ifNo X2 hx (hb hby d4_30) rfl ((if0 _ _).trans (feq nG1).1) ?_
  refine Wk.aloadN X2 hx (hb hby d4_33) rfl rfl rfl ?_
  refine Wk.iloadN X2 hx (hb hby d4_34) rfl rfl ?_
  refine Wk.iloadN X2 hx (hb hby d4_35) rfl rfl ?_
  refine Wk.callS X2 hx hZ hown (w 64 _ rfl) (w 65 _ rfl) (w 66 _ rfl) (w 67 _ rfl) (by decide) (as' := [(.ref b), (.int (0 : Int32)), (.int (3 : Int32))]) (backOf (W := 0) (rm_cp3_30 l Z a0 hw [] b kc za zb zc h0 O0 sH sL sA hA hcza hczb hczc hgza) hZ (w 67 _ rfl) (w 66 _ rfl) (by decide) (by decide)) e2 (by rw [hml]; rfl) (rest := []) (lenOf pd5 rfl) rfl (Nat.le_of_eq rfl) (hb hby d4_36) rfl (by decide) (by decide) ?_
  intro T3 h3 v3 L3 X3 e3 hQ3
  obtain ⟨t3, kb3, rfl, Nq3, K3, q3_0, q3_1⟩ := hQ3
  have N3 := Fk.app N0 Nq3 (Nat.le_refl _) all0
  have O4 : Old Z Z.heap.size h3 := O0.keep K3 all0
  show Wp p e below _ _ T3 (mkF m 39 #[.val (.ref x), .val (.ref b), .val (.int (0 : Int32)), .val (.int (3 : Int32)), .val .null, .unset] [(.ref t3)])
  refine Wk.astore X3 hx (Ls' := #[.val (.ref x), .val (.ref b), .val (.int (0 : Int32)), .val (.int (3 : Int32)), .val .null, .val (.ref t3)]) (hb hby d4_39) rfl rfl rfl ?_
  refine Wk.aloadN X3 hx (hb hby d4_41) rfl rfl rfl ?_
  refine Wk.aload X3 hx (hb hby d4_42) rfl rfl rfl ?_
  refine Wk.iloadN X3 hx (hb hby d4_44) rfl rfl ?_
  refine Wk.callS X3 hx hZ hown (w 71 _ rfl) (w 72 _ rfl) (w 66 _ rfl) (w 73 _ rfl) (by decide) (as' := [(.ref t3), (.int (3 : Int32))]) (backOf (W := 1) (rm_cfa3 l Z a0 hw [] t3 kb3 [(.int (own_b0 za)), (.int (own_b1 za)), (.int (own_b0 zb)), (.int (own_b1 zb)), (.int (own_b0 zc)), (.int (own_b1 zc))] h3 O4 q3_1) hZ (w 73 _ rfl) (w 66 _ rfl) (by decide) (by decide)) e3 (by rw [hml]; rfl) (rest := [(.ref x)]) (lenOf pd8 rfl) rfl (Nat.le_of_eq rfl) (hb hby d4_45) rfl (by decide) (by decide) ?_
  intro T5 h5 v5 L5 X5 e5 hQ5
  obtain ⟨rfl, Nq5, K5⟩ := hQ5
  have KK6 : Keep h0 h3 [] := ((Keep.refl h0 []).trans K3 all0)
  have N5 := Fk.app N3 Nq5 KK6.1 all0
  rw [K5] at e5
  show Wp p e below _ _ T5 (mkF m 48 #[.val (.ref x), .val (.ref b), .val (.int (0 : Int32)), .val (.int (3 : Int32)), .val .null, .val (.ref t3)] [(.int (1 : Int32)), (.ref x)])
  have f7 : Exa Z h3 x "java/lang/String" := (hE.keep KK6)
  have f8 : Fld Z h3 x "java/lang/String" "coder" "B" (.int (0 : Int32)) := (hC.keep KK6 nin0)
  have f10 : Fld Z h3 x "java/lang/String" "value" "[B" .null := (hV.keep KK6 nin0)
  refine Wk.putfieldN X5 hx hZ hown (w 29 _ rfl) Via.refl e5 (v' := (.int (1 : Int32))) f8 f7 (Or.inr ⟨(w 25 _ rfl), rfl, hnm⟩) (w 9 _ rfl) (ty := .byte) (by decide) rfl rfl (hb hby d4_48) rfl ?_
  intro T9 h9 L9 M9 X9 e9 W9 Fw9
  have N9 := M9 _ _ N5 (Or.inl (List.mem_of_getElem? (i := 0) rfl))
  have O11 : Old Z Z.heap.size h9 := O4.wr W9 hxz
  have f12 : Fld Z h9 x "java/lang/String" "value" "[B" .null := f10.other W9 (Or.inr (slot_ne (Or.inr (w 24 _ rfl)) (Or.inr (w 25 _ rfl)) (by decide) (t := (.array .byte)) (t' := .byte) (by decide) (by decide)))
  have E9' : Exa Z h9 x "java/lang/String" := f7.wr W9
  refine Wk.aloadN X9 hx (hb hby d4_51) rfl rfl rfl ?_
  refine Wk.aload X9 hx (hb hby d4_52) rfl rfl rfl ?_
  refine Wk.putfield X9 hx hZ hown (host := "") (Or.inl (w 28 _ rfl)) Via.refl e9 f12 E9' (Or.inr ⟨(w 24 _ rfl), rfl, hnm⟩) (w 9 _ rfl) (ty := (.array .byte)) (by decide) rfl rfl (hb hby d4_54) rfl ?_
  intro T13 h13 L13 M13 X13 e13 W13 Fw13
  have N13 := M13 _ _ N9 (Or.inl (List.mem_of_getElem? (i := 0) rfl))
  have O14 : Old Z Z.heap.size h13 := O11.wr W13 hxz
  have f15 : Fld Z h13 x "java/lang/String" "coder" "B" (.int (1 : Int32)) := Fw9.other W13 (Or.inr (slot_ne (Or.inr (w 25 _ rfl)) (Or.inr (w 24 _ rfl)) (by decide) (t := .byte) (t' := (.array .byte)) (by decide) (by decide)))
  have E13' : Exa Z h13 x "java/lang/String" := E9'.wr W13
  have KK16 : Keep h0 h13 [x] := ((((Keep.refl h0 [x]).trans K3 all0).wr W9 (Or.inl (List.mem_of_getElem? (i := 0) rfl))).wr W13 (Or.inl (List.mem_of_getElem? (i := 0) rfl)))
  have KK17 : Keep h3 h13 [x] := (((Keep.refl h3 [x]).wr W9 (Or.inl (List.mem_of_getElem? (i := 0) rfl))).wr W13 (Or.inl (List.mem_of_getElem? (i := 0) rfl)))
  have f18 : Arv Z h13 t3 kb3 .byte (6 : Int32) [(.int (own_b0 za)), (.int (own_b1 za)), (.int (own_b0 zb)), (.int (own_b1 zb)), (.int (own_b0 zc)), (.int (own_b1 zc))] (.int (0 : Int32)) := (q3_1.keep KK17 (ninS (Ne.symm (Nat.ne_of_lt (Nat.lt_of_lt_of_le hE.lt q3_0))) nin0))
  exact Wk.ret0' X13 hx hlk hr (hb hby d4_57) (by decide) (by decide) (Qc := Q_rm_iv_30 Z x b kc G1 za zb zc h0) e13 ⟨t3, kb3, rfl, N13, KK16, q3_0, E13', f15, Fw13, f18⟩
def Q_rm_ic_30 (Z : State) (x : Addr) (b : Addr) (kc : ClassId) (G1 : Int32) (za : Int32) (zb : Int32) (zc : Int32) (h0 : Heap) (v : Option Value) (h : Heap) (L : List Loc) : Prop := ∃ t : Addr, ∃ kb : ClassId, v = none ∧ Fk h0.size [x] L ∧ Keep h0 h [x] ∧ h0.size ≤ t ∧ Exa Z h x "java/lang/String" ∧ Fld Z h x "java/lang/String" "coder" "B" (.int (1 : Int32)) ∧ Fld Z h x "java/lang/String" "value" "[B" (.ref t) ∧ Arv Z h t kb .byte (6 : Int32) [(.int (own_b0 za)), (.int (own_b1 za)), (.int (own_b0 zb)), (.int (own_b1 zb)), (.int (own_b0 zc)), (.int (own_b1 zc))] (.int (0 : Int32))
set_option maxRecDepth 65536 in
set_option maxHeartbeats 40000000 in
theorem rm_ic_30 (l : Launch) (Z : State) (a0 : Array Value) (hw : ∀ d ∈ tables_1, d.before a0 Z = true) (ws : List Jvm.Cond) (x : Addr) (b : Addr) (kc : ClassId) (G1 : Int32) (za : Int32) (zb : Int32) (zc : Int32) (h0 : Heap) (O0 : Old Z Z.heap.size h0) (sH : Sta Z Z.heap "java/lang/StringUTF16" "HI_BYTE_SHIFT" "I" (.int (0 : Int32))) (sL : Sta Z Z.heap "java/lang/StringUTF16" "LO_BYTE_SHIFT" "I" (.int (8 : Int32))) (sA : Sta Z Z.heap "java/lang/StringUTF16" "$assertionsDisabled" "Z" (.int (1 : Int32))) (SG1 : Sta Z Z.heap "java/lang/String" "COMPACT_STRINGS" "Z" (.int G1)) (nG1 : ¬ G1 = 0) (hE : Exa Z h0 x "java/lang/String") (hV : Fld Z h0 x "java/lang/String" "value" "[B" .null) (hC : Fld Z h0 x "java/lang/String" "coder" "B" (.int (0 : Int32))) (hxz : Z.heap.size ≤ x) (hA : Arv Z h0 b kc .char (3 : Int32) [(.int za), (.int zb), (.int zc)] (.int (0 : Int32))) (hcza : Chr za) (hczb : Chr zb) (hczc : Chr zc) (hgza : (255 : Int32) < za) :
    Ctr l Z (⟨"java/lang/String", "<init>", "([C)V"⟩ : MethodName) jdk_42_method_3_code 2 none ws ({ frames := 5, cells := 2, slots := 9, locals := 74 } : Room) #[(.ref x), (.ref b)] h0 (Q_rm_ic_30 Z x b kc G1 za zb zc h0) := by
  refine Ctr.intro (Ls := fun _ => #[.val (.ref x), .val (.ref b)]) (plainFor_of_name pn7) (fun m => by first | rfl | (simp [entryFrame, mkF, argsToLocals, Value.category]; done)) ?_
  intro p e s m below meth c s₁ hx hby hml hr hlk hZ hown hnm hs0 X0 e0
  have w : ∀ (k : Nat) (d : Jvm.Cond), tables_1[k]? = some d → d.before a0 Z = true := fun k d q => hw d (List.mem_of_getElem? q)
  have N0 := Fk.nil h0.size [x]
  refine Wk.aloadN X0 hx (hb hby d3_0) rfl rfl rfl ?_
  refine Wk.aloadN X0 hx (hb hby d3_1) rfl rfl rfl ?_
  refine Wk.iconst X0 hx (v := (0 : Int32)) (hb hby d3_2) rfl rfl ?_
  refine Wk.aloadN X0 hx (hb hby d3_3) rfl rfl rfl ?_
  refine Wk.arraylength X0 hx hZ e0 hA (hb hby d3_4) rfl ?_
  refine Wk.aconstNull X0 hx (hb hby d3_5) rfl ?_
  refine Wk.callI X0 hx hZ rfl hown (w 15 _ rfl) (w 16 _ rfl) (w 18 _ rfl) (by decide) (as' := [(.ref b), (.int (0 : Int32)), (.int (3 : Int32)), .null]) (backOf (W := 0) (rm_iv_30 l Z a0 hw [] x b kc G1 za zb zc h0 O0 sH sL sA SG1 nG1 hE hV hC hxz hA hcza hczb hczc hgza) hZ (w 18 _ rfl) (w 10 _ rfl) (by decide) (by decide)) e0 (by rw [hml]; rfl) (rest := []) (lenOf pd9 rfl) rfl (Nat.le_of_eq rfl) (hb hby d3_6) rfl (by decide) (by decide) ?_
  intro T1 h1 v1 L1 X1 e1 hQ1
  obtain ⟨t1, kb1, rfl, Nq1, K1, q1_0, q1_1, q1_2, q1_3, q1_4⟩ := hQ1
  have N1 := Fk.app N0 Nq1 (Nat.le_refl _) (allS (Or.inl (List.mem_of_getElem? (i := 0) rfl)) all0)
  have O2 : Old Z Z.heap.size h1 := O0.keep K1 (allS hxz all0)
  show Wp p e below _ _ T1 (mkF m 9 #[.val (.ref x), .val (.ref b)] [])
  have KK3 : Keep h0 h1 [x] := ((Keep.refl h0 [x]).trans K1 (allS (Or.inl (List.mem_of_getElem? (i := 0) rfl)) all0))
  exact Wk.ret0' X1 hx hlk hr (hb hby d3_9) (by decide) (by decide) (Qc := Q_rm_ic_30 Z x b kc G1 za zb zc h0) e1 ⟨t1, kb1, rfl, N1, KK3, q1_0, q1_1, q1_2, q1_3, q1_4⟩
def Q_rm_cp5_31 (Z : State) (b : Addr) (kc : ClassId) (t : Addr) (kb : ClassId) (za : Int32) (zb : Int32) (zc : Int32) (h0 : Heap) (v : Option Value) (h : Heap) (L : List Loc) : Prop := v = some (.int (1 : Int32)) ∧ Fk h0.size [t] L ∧ Keep h0 h [t]
set_option maxRecDepth 65536 in
set_option maxHeartbeats 40000000 in
theorem rm_cp5_31 (l : Launch) (Z : State) (a0 : Array Value) (hw : ∀ d ∈ tables_1, d.before a0 Z = true) (ws : List Jvm.Cond) (b : Addr) (kc : ClassId) (t : Addr) (kb : ClassId) (za : Int32) (zb : Int32) (zc : Int32) (h0 : Heap) (O0 : Old Z Z.heap.size h0) (hA : Arv Z h0 b kc .char (3 : Int32) [(.int za), (.int zb), (.int zc)] (.int (0 : Int32))) (hT : Arv Z h0 t kb .byte (3 : Int32) [(.int (0 : Int32)), (.int (0 : Int32)), (.int (0 : Int32))] (.int (0 : Int32))) (ht : Z.heap.size ≤ t) (hbt : b ≠ t) (hlza : ¬ ((255 : Int32) < za)) (hgzb : (255 : Int32) < zb) :
    Ctr l Z (⟨"java/lang/StringUTF16", "compress", "([CI[BII)I"⟩ : MethodName) jdk_52_method_21_code 7 (some .int) ws ({ frames := 0, cells := 0, slots := 0, locals := 0 } : Room) #[(.ref b), (.int (0 : Int32)), (.ref t), (.int (0 : Int32)), (.int (3 : Int32))] h0 (Q_rm_cp5_31 Z b kc t kb za zb zc h0) := by
  refine Ctr.intro (Ls := fun _ => #[.val (.ref b), .val (.int (0 : Int32)), .val (.ref t), .val (.int (0 : Int32)), .val (.int (3 : Int32)), .unset, .unset]) (plainFor_of_name pn0) (fun m => by first | rfl | (simp [entryFrame, mkF, argsToLocals, Value.category]; done)) ?_
  intro p e s m below meth c s₁ hx hby hml hr hlk hZ hown hnm hs0 X0 e0
  have w : ∀ (k : Nat) (d : Jvm.Cond), tables_1[k]? = some d → d.before a0 Z = true := fun k d q => hw d (List.mem_of_getElem? q)
  have N0 := Fk.nil h0.size [t]
  refine Wk.iconst X0 hx (v := (0 : Int32)) (hb hby d14_0) rfl rfl ?_
  refine Wk.istore X0 hx (Ls' := #[.val (.ref b), .val (.int (0 : Int32)), .val (.ref t), .val (.int (0 : Int32)), .val (.int (3 : Int32)), .val (.int (0 : Int32)), .unset]) (hb hby d14_1) rfl rfl ?_
  refine Wk.iload X0 hx (hb hby d14_3) rfl rfl ?_
  refine Wk.iload X0 hx (hb hby d14_5) rfl rfl ?_
  refine Wk.icmpNo X0 hx (hb hby d14_7) rfl (tlt (by decide : (0 : Int32) < (3 : Int32))).2.1 ?_
  refine Wk.aloadN X0 hx (hb hby d14_10) rfl rfl rfl ?_
  refine Wk.iloadN X0 hx (hb hby d14_11) rfl rfl ?_
  refine Wk.caload X0 hx hZ e0 hA (by decide) (by decide) (v := za) rfl (hb hby d14_12) rfl ?_
  refine Wk.istore X0 hx (Ls' := #[.val (.ref b), .val (.int (0 : Int32)), .val (.ref t), .val (.int (0 : Int32)), .val (.int (3 : Int32)), .val (.int (0 : Int32)), .val (.int za)]) (hb hby d14_13) rfl rfl ?_
  refine Wk.iload X0 hx (hb hby d14_15) rfl rfl ?_
  refine Wk.sipush X0 hx (v := (255 : Int32)) (hb hby d14_17) rfl rfl ?_
  refine Wk.icmpYes X0 hx (hb hby d14_20) (by decide) (q := 26) rfl (flt hlza).2.2.2 ?_
  refine Wk.aloadN X0 hx (hb hby d14_26) rfl rfl rfl ?_
  refine Wk.iloadN X0 hx (hb hby d14_27) rfl rfl ?_
  refine Wk.iload X0 hx (hb hby d14_28) rfl rfl ?_
  refine Wk.i2b X0 hx (hb hby d14_30) rfl ?_
  intro c1 hc1
  refine Wk.bastore X0 hx hZ e0 hT (by decide) (by decide) 0 rfl (Nat.le_of_ble_eq_true rfl) (w := (nar .byte c1)) rfl (hb hby d14_31) rfl ?_
  intro T2 h2 L2 M2 X2 e2 W2 A2
  have N2 := M2 _ _ N0 (Or.inl (List.mem_of_getElem? (i := 0) rfl))
  have O3 : Old Z Z.heap.size h2 := O0.wr W2 ht
  have V2 : Arv Z h2 t kb .byte (3 : Int32) [(.int (nar .byte c1)), (.int (0 : Int32)), (.int (0 : Int32))] (.int (0 : Int32)) := A2
  refine Wk.iinc X2 hx (Ls' := #[.val (.ref b), .val (.int (1 : Int32)), .val (.ref t), .val (.int (0 : Int32)), .val (.int (3 : Int32)), .val (.int (0 : Int32)), .val (.int za)]) (hb hby d14_32) rfl rfl rfl ?_
  refine Wk.iinc X2 hx (Ls' := #[.val (.ref b), .val (.int (1 : Int32)), .val (.ref t), .val (.int (1 : Int32)), .val (.int (3 : Int32)), .val (.int (0 : Int32)), .val (.int za)]) (hb hby d14_35) rfl rfl rfl ?_
  refine Wk.iinc X2 hx (Ls' := #[.val (.ref b), .val (.int (1 : Int32)), .val (.ref t), .val (.int (1 : Int32)), .val (.int (3 : Int32)), .val (.int (1 : Int32)), .val (.int za)]) (hb hby d14_38) rfl rfl rfl ?_
  refine Wk.goto X2 hx (hb hby d14_41) (by decide) (q := 3) rfl ?_
  refine Wk.iload X2 hx (hb hby d14_3) rfl rfl ?_
  refine Wk.iload X2 hx (hb hby d14_5) rfl rfl ?_
  refine Wk.icmpNo X2 hx (hb hby d14_7) rfl (tlt (by decide : (1 : Int32) < (3 : Int32))).2.1 ?_
  refine Wk.aloadN X2 hx (hb hby d14_10) rfl rfl rfl ?_
  refine Wk.iloadN X2 hx (hb hby d14_11) rfl rfl ?_
  have KK4 : Keep h0 h2 [t] := ((Keep.refl h0 [t]).wr W2 (Or.inl (List.mem_of_getElem? (i := 0) rfl)))
  have f5 : Arv Z h2 b kc .char (3 : Int32) [(.int za), (.int zb), (.int zc)] (.int (0 : Int32)) := (hA.keep KK4 (ninS hbt nin0))
  refine Wk.caload X2 hx hZ e2 f5 (by decide) (by decide) (v := zb) rfl (hb hby d14_12) rfl ?_
  refine Wk.istore X2 hx (Ls' := #[.val (.ref b), .val (.int (1 : Int32)), .val (.ref t), .val (.int (1 : Int32)), .val (.int (3 : Int32)), .val (.int (1 : Int32)), .val (.int zb)]) (hb hby d14_13) rfl rfl ?_
  refine Wk.iload X2 hx (hb hby d14_15) rfl rfl ?_
  refine Wk.sipush X2 hx (v := (255 : Int32)) (hb hby d14_17) rfl rfl ?_
  refine Wk.icmpNo X2 hx (hb hby d14_20) rfl (tlt hgzb).2.2.2 ?_
  refine Wk.iload X2 hx (hb hby d14_23) rfl rfl ?_
  exact Wk.retI' X2 hx hlk hr (hb hby d14_25) (by decide) (by decide) (Qc := Q_rm_cp5_31 Z b kc t kb za zb zc h0) e2 ⟨rfl, N2, KK4⟩
def Q_rm_cp3_31 (Z : State) (b : Addr) (kc : ClassId) (za : Int32) (zb : Int32) (zc : Int32) (h0 : Heap) (v : Option Value) (h : Heap) (L : List Loc) : Prop := ∃ t : Addr, ∃ kb : ClassId, v = some (.ref t) ∧ Fk h0.size [] L ∧ Keep h0 h [] ∧ h0.size ≤ t ∧ Arv Z h t kb .byte (6 : Int32) [(.int (own_b0 za)), (.int (own_b1 za)), (.int (own_b0 zb)), (.int (own_b1 zb)), (.int (own_b0 zc)), (.int (own_b1 zc))] (.int (0 : Int32))
set_option maxRecDepth 65536 in
set_option maxHeartbeats 40000000 in
theorem rm_cp3_31 (l : Launch) (Z : State) (a0 : Array Value) (hw : ∀ d ∈ tables_1, d.before a0 Z = true) (ws : List Jvm.Cond) (b : Addr) (kc : ClassId) (za : Int32) (zb : Int32) (zc : Int32) (h0 : Heap) (O0 : Old Z Z.heap.size h0) (sH : Sta Z Z.heap "java/lang/StringUTF16" "HI_BYTE_SHIFT" "I" (.int (0 : Int32))) (sL : Sta Z Z.heap "java/lang/StringUTF16" "LO_BYTE_SHIFT" "I" (.int (8 : Int32))) (sA : Sta Z Z.heap "java/lang/StringUTF16" "$assertionsDisabled" "Z" (.int (1 : Int32))) (hA : Arv Z h0 b kc .char (3 : Int32) [(.int za), (.int zb), (.int zc)] (.int (0 : Int32))) (hcza : Chr za) (hczb : Chr zb) (hczc : Chr zc) (hlza : ¬ ((255 : Int32) < za)) (hgzb : (255 : Int32) < zb) :
    Ctr l Z (⟨"java/lang/StringUTF16", "compress", "([CII)[B"⟩ : MethodName) jdk_52_method_16_code 6 (some (.array .byte)) ws ({ frames := 3, cells := 2, slots := 9, locals := 40 } : Room) #[(.ref b), (.int (0 : Int32)), (.int (3 : Int32))] h0 (Q_rm_cp3_31 Z b kc za zb zc h0) := by
  refine Ctr.intro (Ls := fun _ => #[.val (.ref b), .val (.int (0 : Int32)), .val (.int (3 : Int32)), .unset, .unset, .unset]) (plainFor_of_name pn0) (fun m => by first | rfl | (simp [entryFrame, mkF, argsToLocals, Value.category]; done)) ?_
  intro p e s m below meth c s₁ hx hby hml hr hlk hZ hown hnm hs0 X0 e0
  have w : ∀ (k : Nat) (d : Jvm.Cond), tables_1[k]? = some d → d.before a0 Z = true := fun k d q => hw d (List.mem_of_getElem? q)
  have N0 := Fk.nil h0.size []
  refine Wk.iloadN X0 hx (hb hby d13_0) rfl rfl ?_
  refine Wk.newarray X0 hx hZ (w 23 _ rfl) e0 (hb hby d13_1) rfl (by decide) 3 (by decide) (by decide) (by decide) (by decide) ?_
  intro T1 h1 a1 kA1 g1 X1 e1 E1 A1
  have O2 : Old Z Z.heap.size h1 := O0.ext E1
  have V1 : Arv Z h1 a1 kA1 .byte (3 : Int32) [(.int (0 : Int32)), (.int (0 : Int32)), (.int (0 : Int32))] (.int (0 : Int32)) := A1.pad (pad_rep [] (.int (0 : Int32)) 3)
  refine Wk.astoreN X1 hx (Ls' := #[.val (.ref b), .val (.int (0 : Int32)), .val (.int (3 : Int32)), .val (.ref a1), .unset, .unset]) (hb hby d13_3) rfl rfl rfl ?_
  refine Wk.aloadN X1 hx (hb hby d13_4) rfl rfl rfl ?_
  refine Wk.iloadN X1 hx (hb hby d13_5) rfl rfl ?_
  refine Wk.aloadN X1 hx (hb hby d13_6) rfl rfl rfl ?_
  refine Wk.iconst X1 hx (v := (0 : Int32)) (hb hby d13_7) rfl rfl ?_
  refine Wk.iloadN X1 hx (hb hby d13_8) rfl rfl ?_
  have KK3 : Keep h0 h1 [] := ((Keep.refl h0 []).ext E1)
  have f4 : Arv Z h1 b kc .char (3 : Int32) [(.int za), (.int zb), (.int zc)] (.int (0 : Int32)) := (hA.keep KK3 nin0)
  refine Wk.callS X1 hx hZ hown (w 68 _ rfl) (w 69 _ rfl) (w 66 _ rfl) (w 70 _ rfl) (by decide) (as' := [(.ref b), (.int (0 : Int32)), (.ref a1), (.int (0 : Int32)), (.int (3 : Int32))]) (backOf (W := 0) (rm_cp5_31 l Z a0 hw [] b kc a1 kA1 za zb zc h1 O2 f4 V1 (Nat.le_trans (Nat.le_trans (Nat.le_trans (Nat.le_of_eq O0.1.symm) O0.2.1) (Keep.refl h0 []).1) (Nat.le_of_eq g1)) (Nat.ne_of_lt (Nat.lt_of_lt_of_le hA.lt (Nat.le_of_eq g1))) hlza hgzb) hZ (w 70 _ rfl) (w 66 _ rfl) (by decide) (by decide)) e1 (by rw [hml]; rfl) (rest := []) (lenOf pd4 rfl) rfl (Nat.le_of_eq rfl) (hb hby d13_9) rfl (by decide) (by decide) ?_
  intro T5 h5 v5 L5 X5 e5 hQ5
  obtain ⟨rfl, Nq5, K5⟩ := hQ5
  have N5 := Fk.app N0 Nq5 KK3.1 (allS (Or.inr (Nat.le_of_eq g1)) all0)
  have O6 : Old Z Z.heap.size h5 := O2.keep K5 (allS (Nat.le_trans (Nat.le_trans (Nat.le_trans (Nat.le_of_eq O0.1.symm) O0.2.1) (Keep.refl h0 []).1) (Nat.le_of_eq g1)) all0)
  show Wp p e below _ _ T5 (mkF m 12 #[.val (.ref b), .val (.int (0 : Int32)), .val (.int (3 : Int32)), .val (.ref a1), .unset, .unset] [(.int (1 : Int32))])
  refine Wk.istore X5 hx (Ls' := #[.val (.ref b), .val (.int (0 : Int32)), .val (.int (3 : Int32)), .val (.ref a1), .val (.int (1 : Int32)), .unset]) (hb hby d13_12) rfl rfl ?_
  refine Wk.iload X5 hx (hb hby d13_14) rfl rfl ?_
  refine Wk.iloadN X5 hx (hb hby d13_16) rfl rfl ?_
  refine Wk.icmpNo X5 hx (hb hby d13_17) rfl (feq (by decide : ¬ ((1 : Int32) = (3 : Int32)))).1 ?_
  refine Wk.aloadN X5 hx (hb hby d13_20) rfl rfl rfl ?_
  refine Wk.iloadN X5 hx (hb hby d13_21) rfl rfl ?_
  refine Wk.iloadN X5 hx (hb hby d13_22) rfl rfl ?_
  have KK7 : Keep h0 h5 [] := (KK3.trans K5 (allS (Or.inr (Nat.le_of_eq g1)) all0))
  have f8 : Arv Z h5 b kc .char (3 : Int32) [(.int za), (.int zb), (.int zc)] (.int (0 : Int32)) := (hA.keep KK7 nin0)
  refine Wk.callS X5 hx hZ hown (w 76 _ rfl) (w 77 _ rfl) (w 66 _ rfl) (w 78 _ rfl) (by decide) (as' := [(.ref b), (.int (0 : Int32)), (.int (3 : Int32))]) (backOf (W := 0) (rm_tob3 l Z a0 hw [] b kc za zb zc h5 O6 sH sL sA f8) hZ (w 78 _ rfl) (w 66 _ rfl) (by decide) (by decide)) e5 (by rw [hml]; rfl) (rest := []) (lenOf pd5 rfl) rfl (Nat.le_of_eq rfl) (hb hby d13_23) rfl (by decide) (by decide) ?_
  intro T9 h9 v9 L9 X9 e9 hQ9
  obtain ⟨t9, kb9, rfl, Nq9, K9, q9_0, q9_1⟩ := hQ9
  have N9 := Fk.app N5 Nq9 KK7.1 all0
  have O10 : Old Z Z.heap.size h9 := O6.keep K9 all0
  show Wp p e below _ _ T9 (mkF m 26 #[.val (.ref b), .val (.int (0 : Int32)), .val (.int (3 : Int32)), .val (.ref a1), .val (.int (1 : Int32)), .unset] [(.ref t9)])
  refine Wk.astore X9 hx (Ls' := #[.val (.ref b), .val (.int (0 : Int32)), .val (.int (3 : Int32)), .val (.ref a1), .val (.int (1 : Int32)), .val (.ref t9)]) (hb hby d13_26) rfl rfl rfl ?_
  refine Wk.aload X9 hx (hb hby d13_28) rfl rfl rfl ?_
  refine Wk.iload X9 hx (hb hby d13_30) rfl rfl ?_
  refine Wk.callS X9 hx hZ hown (w 92 _ rfl) (w 93 _ rfl) (w 66 _ rfl) (w 94 _ rfl) (by decide) (as' := [(.ref t9), (.int (1 : Int32))]) (backOf (W := 0) (rm_get1 l Z a0 hw [] t9 zb kb9 (6 : Int32) [(.int (own_b0 za)), (.int (own_b1 za)), (.int (own_b0 zb)), (.int (own_b1 zb)), (.int (own_b0 zc)), (.int (own_b1 zc))] h9 O10 sH sL sA q9_1 (by first | assumption | rfl | decide | exact Nat.le_of_ble_eq_true rfl) (by first | assumption | rfl | decide | exact Nat.le_of_ble_eq_true rfl) (by first | assumption | rfl | decide | exact Nat.le_of_ble_eq_true rfl) (by first | assumption | rfl | decide | exact Nat.le_of_ble_eq_true rfl) hczb) hZ (w 94 _ rfl) (w 66 _ rfl) (by decide) (by decide)) e9 (by rw [hml]; rfl) (rest := []) (lenOf pd6 rfl) rfl (Nat.le_of_eq rfl) (hb hby d13_32) rfl (by decide) (by decide) ?_
  intro T11 h11 v11 L11 X11 e11 hQ11
  obtain ⟨rfl, Nq11, K11⟩ := hQ11
  have KK12 : Keep h0 h9 [] := (KK7.trans K9 all0)
  have N11 := Fk.app N9 Nq11 KK12.1 all0
  rw [K11] at e11
  show Wp p e below _ _ T11 (mkF m 35 #[.val (.ref b), .val (.int (0 : Int32)), .val (.int (3 : Int32)), .val (.ref a1), .val (.int (1 : Int32)), .val (.ref t9)] [(.int zb)])
  refine Wk.sipush X11 hx (v := (255 : Int32)) (hb hby d13_35) rfl rfl ?_
  refine Wk.icmpYes X11 hx (hb hby d13_38) (by decide) (q := 54) rfl (tlt hgzb).2.2.1 ?_
  refine Wk.aload X11 hx (hb hby d13_54) rfl rfl rfl ?_
  exact Wk.retA' X11 hx hlk hr rfl rfl (hb hby d13_56) (by decide) (by decide) (Qc := Q_rm_cp3_31 Z b kc za zb zc h0) e11 ⟨t9, kb9, rfl, N11, KK12, (Nat.le_trans KK7.1 q9_0), q9_1⟩
def Q_rm_iv_31 (Z : State) (x : Addr) (b : Addr) (kc : ClassId) (G1 : Int32) (za : Int32) (zb : Int32) (zc : Int32) (h0 : Heap) (v : Option Value) (h : Heap) (L : List Loc) : Prop := ∃ t : Addr, ∃ kb : ClassId, v = none ∧ Fk h0.size [x] L ∧ Keep h0 h [x] ∧ h0.size ≤ t ∧ Exa Z h x "java/lang/String" ∧ Fld Z h x "java/lang/String" "coder" "B" (.int (1 : Int32)) ∧ Fld Z h x "java/lang/String" "value" "[B" (.ref t) ∧ Arv Z h t kb .byte (6 : Int32) [(.int (own_b0 za)), (.int (own_b1 za)), (.int (own_b0 zb)), (.int (own_b1 zb)), (.int (own_b0 zc)), (.int (own_b1 zc))] (.int (0 : Int32))
set_option maxRecDepth 65536 in
set_option maxHeartbeats 40000000 in
theorem rm_iv_31 (l : Launch) (Z : State) (a0 : Array Value) (hw : ∀ d ∈ tables_1, d.before a0 Z = true) (ws : List Jvm.Cond) (x : Addr) (b : Addr) (kc : ClassId) (G1 : Int32) (za : Int32) (zb : Int32) (zc : Int32) (h0 : Heap) (O0 : Old Z Z.heap.size h0) (sH : Sta Z Z.heap "java/lang/StringUTF16" "HI_BYTE_SHIFT" "I" (.int (0 : Int32))) (sL : Sta Z Z.heap "java/lang/StringUTF16" "LO_BYTE_SHIFT" "I" (.int (8 : Int32))) (sA : Sta Z Z.heap "java/lang/StringUTF16" "$assertionsDisabled" "Z" (.int (1 : Int32))) (SG1 : Sta Z Z.heap "java/lang/String" "COMPACT_STRINGS" "Z" (.int G1)) (nG1 : ¬ G1 = 0) (hE : Exa Z h0 x "java/lang/String") (hV : Fld Z h0 x "java/lang/String" "value" "[B" .null) (hC : Fld Z h0 x "java/lang/String" "coder" "B" (.int (0 : Int32))) (hxz : Z.heap.size ≤ x) (hA : Arv Z h0 b kc .char (3 : Int32) [(.int za), (.int zb), (.int zc)] (.int (0 : Int32))) (hcza : Chr za) (hczb : Chr zb) (hczc : Chr zc) (hlza : ¬ ((255 : Int32) < za)) (hgzb : (255 : Int32) < zb) :
    Ctr l Z (⟨"java/lang/String", "<init>", "([CIILjava/lang/Void;)V"⟩ : MethodName) jdk_42_method_149_code 6 none ws ({ frames := 4, cells := 2, slots := 9, locals := 57 } : Room) #[(.ref x), (.ref b), (.int (0 : Int32)), (.int (3 : Int32)), .null] h0 (Q_rm_iv_31 Z x b kc G1 za zb zc h0) := by
  refine Ctr.intro (Ls := fun _ => #[.val (.ref x), .val (.ref b), .val (.int (0 : Int32)), .val (.int (3 : Int32)), .val .null, .unset]) (plainFor_of_name pn7) (fun m => by first | rfl | (simp [entryFrame, mkF, argsToLocals, Value.category]; done)) ?_
  intro p e s m below meth c s₁ hx hby hml hr hlk hZ hown hnm hs0 X0 e0
  have w : ∀ (k : Nat) (d : Jvm.Cond), tables_1[k]? = some d → d.before a0 Z = true := fun k d q => hw d (List.mem_of_getElem? q)
  have N0 := Fk.nil h0.size [x]
  refine Wk.aloadN X0 hx (hb hby d4_0) rfl rfl rfl ?_
  refine Wk.objinit X0 hx hZ hown (w 19 _ rfl) (w 20 _ rfl) (w 21 _ rfl) e0 (by rw [hml]; rfl) (hb hby d4_1) rfl (by decide) 0 (Nat.le_of_eq rfl) (by decide) ?_
  intro T1 X1 e1
  refine Wk.iloadN X1 hx (hb hby d4_4) rfl rfl ?_
  refine Wk.ifYes X1 hx (hb hby d4_5) (by decide) (q := 27) rfl ((if0 _ _).trans (feq (by decide : ¬ ((3 : Int32) = (0 : Int32)))).2) ?_
  refine Wk.getstatic X1 hx hZ hown (host := "") (Or.inl (w 44 _ rfl)) Via.refl e1 (SG1.ext O0.2) (hb hby d4_27) rfl ?_
  intro T2 X2 e2
  refine Wk.ifNo X2 hx (hb hby d4_30) rfl ((if0 _ _).trans (feq nG1).1) ?_
  refine Wk.aloadN X2 hx (hb hby d4_33) rfl rfl rfl ?_
  refine Wk.iloadN X2 hx (hb hby d4_34) rfl rfl ?_
  refine Wk.iloadN X2 hx (hb hby d4_35) rfl rfl ?_
  refine Wk.callS X2 hx hZ hown (w 64 _ rfl) (w 65 _ rfl) (w 66 _ rfl) (w 67 _ rfl) (by decide) (as' := [(.ref b), (.int (0 : Int32)), (.int (3 : Int32))]) (backOf (W := 0) (rm_cp3_31 l Z a0 hw [] b kc za zb zc h0 O0 sH sL sA hA hcza hczb hczc hlza hgzb) hZ (w 67 _ rfl) (w 66 _ rfl) (by decide) (by decide)) e2 (by rw [hml]; rfl) (rest := []) (lenOf pd5 rfl) rfl (Nat.le_of_eq rfl) (hb hby d4_36) rfl (by decide) (by decide) ?_
  intro T3 h3 v3 L3 X3 e3 hQ3
  obtain ⟨t3, kb3, rfl, Nq3, K3, q3_0, q3_1⟩ := hQ3
  have N3 := Fk.app N0 Nq3 (Nat.le_refl _) all0
  have O4 : Old Z Z.heap.size h3 := O0.keep K3 all0
  show Wp p e below _ _ T3 (mkF m 39 #[.val (.ref x), .val (.ref b), .val (.int (0 : Int32)), .val (.int (3 : Int32)), .val .null, .unset] [(.ref t3)])
  refine Wk.astore X3 hx (Ls' := #[.val (.ref x), .val (.ref b), .val (.int (0 : Int32)), .val (.int (3 : Int32)), .val .null, .val (.ref t3)]) (hb hby d4_39) rfl rfl rfl ?_
  refine Wk.aloadN X3 hx (hb hby d4_41) rfl rfl rfl ?_
  refine Wk.aload X3 hx (hb hby d4_42) rfl rfl rfl ?_
  refine Wk.iloadN X3 hx (hb hby d4_44) rfl rfl ?_
  refine Wk.callS X3 hx hZ hown (w 71 _ rfl) (w 72 _ rfl) (w 66 _ rfl) (w 73 _ rfl) (by decide) (as' := [(.ref t3), (.int (3 : Int32))]) (backOf (W := 1) (rm_cfa3 l Z a0 hw [] t3 kb3 [(.int (own_b0 za)), (.int (own_b1 za)), (.int (own_b0 zb)), (.int (own_b1 zb)), (.int (own_b0 zc)), (.int (own_b1 zc))] h3 O4 q3_1) hZ (w 73 _ rfl) (w 66 _ rfl) (by decide) (by decide)) e3 (by rw [hml]; rfl) (rest := [(.ref x)]) (lenOf pd8 rfl) rfl (Nat.le_of_eq rfl) (hb hby d4_45) rfl (by decide) (by decide) ?_
  intro T5 h5 v5 L5 X5 e5 hQ5
  obtain ⟨rfl, Nq5, K5⟩ := hQ5
  have KK6 : Keep h0 h3 [] := ((Keep.refl h0 []).trans K3 all0)
  have N5 := Fk.app N3 Nq5 KK6.1 all0
  rw [K5] at e5
  show Wp p e below _ _ T5 (mkF m 48 #[.val (.ref x), .val (.ref b), .val (.int (0 : Int32)), .val (.int (3 : Int32)), .val .null, .val (.ref t3)] [(.int (1 : Int32)), (.ref x)])
  have f7 : Exa Z h3 x "java/lang/String" := (hE.keep KK6)
  have f8 : Fld Z h3 x "java/lang/String" "coder" "B" (.int (0 : Int32)) := (hC.keep KK6 nin0)
  have f10 : Fld Z h3 x "java/lang/String" "value" "[B" .null := (hV.keep KK6 nin0)
  refine Wk.putfieldN X5 hx hZ hown (w 29 _ rfl) Via.refl e5 (v' := (.int (1 : Int32))) f8 f7 (Or.inr ⟨(w 25 _ rfl), rfl, hnm⟩) (w 9 _ rfl) (ty := .byte) (by decide) rfl rfl (hb hby d4_48) rfl ?_
  intro T9 h9 L9 M9 X9 e9 W9 Fw9
  have N9 := M9 _ _ N5 (Or.inl (List.mem_of_getElem? (i := 0) rfl))
  have O11 : Old Z Z.heap.size h9 := O4.wr W9 hxz
  have f12 : Fld Z h9 x "java/lang/String" "value" "[B" .null := f10.other W9 (Or.inr (slot_ne (Or.inr (w 24 _ rfl)) (Or.inr (w 25 _ rfl)) (by decide) (t := (.array .byte)) (t' := .byte) (by decide) (by decide)))
  have E9' : Exa Z h9 x "java/lang/String" := f7.wr W9
  refine Wk.aloadN X9 hx (hb hby d4_51) rfl rfl rfl ?_
  refine Wk.aload X9 hx (hb hby d4_52) rfl rfl rfl ?_
  refine Wk.putfield X9 hx hZ hown (host := "") (Or.inl (w 28 _ rfl)) Via.refl e9 f12 E9' (Or.inr ⟨(w 24 _ rfl), rfl, hnm⟩) (w 9 _ rfl) (ty := (.array .byte)) (by decide) rfl rfl (hb hby d4_54) rfl ?_
  intro T13 h13 L13 M13 X13 e13 W13 Fw13
  have N13 := M13 _ _ N9 (Or.inl (List.mem_of_getElem? (i := 0) rfl))
  have O14 : Old Z Z.heap.size h13 := O11.wr W13 hxz
  have f15 : Fld Z h13 x "java/lang/String" "coder" "B" (.int (1 : Int32)) := Fw9.other W13 (Or.inr (slot_ne (Or.inr (w 25 _ rfl)) (Or.inr (w 24 _ rfl)) (by decide) (t := .byte) (t' := (.array .byte)) (by decide) (by decide)))
  have E13' : Exa Z h13 x "java/lang/String" := E9'.wr W13
  have KK16 : Keep h0 h13 [x] := ((((Keep.refl h0 [x]).trans K3 all0).wr W9 (Or.inl (List.mem_of_getElem? (i := 0) rfl))).wr W13 (Or.inl (List.mem_of_getElem? (i := 0) rfl)))
  have KK17 : Keep h3 h13 [x] := (((Keep.refl h3 [x]).wr W9 (Or.inl (List.mem_of_getElem? (i := 0) rfl))).wr W13 (Or.inl (List.mem_of_getElem? (i := 0) rfl)))
  have f18 : Arv Z h13 t3 kb3 .byte (6 : Int32) [(.int (own_b0 za)), (.int (own_b1 za)), (.int (own_b0 zb)), (.int (own_b1 zb)), (.int (own_b0 zc)), (.int (own_b1 zc))] (.int (0 : Int32)) := (q3_1.keep KK17 (ninS (Ne.symm (Nat.ne_of_lt (Nat.lt_of_lt_of_le hE.lt q3_0))) nin0))
  exact Wk.ret0' X13 hx hlk hr (hb hby d4_57) (by decide) (by decide) (Qc := Q_rm_iv_31 Z x b kc G1 za zb zc h0) e13 ⟨t3, kb3, rfl, N13, KK16, q3_0, E13', f15, Fw13, f18⟩
def Q_rm_ic_31 (Z : State) (x : Addr) (b : Addr) (kc : ClassId) (G1 : Int32) (za : Int32) (zb : Int32) (zc : Int32) (h0 : Heap) (v : Option Value) (h : Heap) (L : List Loc) : Prop := ∃ t : Addr, ∃ kb : ClassId, v = none ∧ Fk h0.size [x] L ∧ Keep h0 h [x] ∧ h0.size ≤ t ∧ Exa Z h x "java/lang/String" ∧ Fld Z h x "java/lang/String" "coder" "B" (.int (1 : Int32)) ∧ Fld Z h x "java/lang/String" "value" "[B" (.ref t) ∧ Arv Z h t kb .byte (6 : Int32) [(.int (own_b0 za)), (.int (own_b1 za)), (.int (own_b0 zb)), (.int (own_b1 zb)), (.int (own_b0 zc)), (.int (own_b1 zc))] (.int (0 : Int32))
set_option maxRecDepth 65536 in
set_option maxHeartbeats 40000000 in
theorem rm_ic_31 (l : Launch) (Z : State) (a0 : Array Value) (hw : ∀ d ∈ tables_1, d.before a0 Z = true) (ws : List Jvm.Cond) (x : Addr) (b : Addr) (kc : ClassId) (G1 : Int32) (za : Int32) (zb : Int32) (zc : Int32) (h0 : Heap) (O0 : Old Z Z.heap.size h0) (sH : Sta Z Z.heap "java/lang/StringUTF16" "HI_BYTE_SHIFT" "I" (.int (0 : Int32))) (sL : Sta Z Z.heap "java/lang/StringUTF16" "LO_BYTE_SHIFT" "I" (.int (8 : Int32))) (sA : Sta Z Z.heap "java/lang/StringUTF16" "$assertionsDisabled" "Z" (.int (1 : Int32))) (SG1 : Sta Z Z.heap "java/lang/String" "COMPACT_STRINGS" "Z" (.int G1)) (nG1 : ¬ G1 = 0) (hE : Exa Z h0 x "java/lang/String") (hV : Fld Z h0 x "java/lang/String" "value" "[B" .null) (hC : Fld Z h0 x "java/lang/String" "coder" "B" (.int (0 : Int32))) (hxz : Z.heap.size ≤ x) (hA : Arv Z h0 b kc .char (3 : Int32) [(.int za), (.int zb), (.int zc)] (.int (0 : Int32))) (hcza : Chr za) (hczb : Chr zb) (hczc : Chr zc) (hlza : ¬ ((255 : Int32) < za)) (hgzb : (255 : Int32) < zb) :
    Ctr l Z (⟨"java/lang/String", "<init>", "([C)V"⟩ : MethodName) jdk_42_method_3_code 2 none ws ({ frames := 5, cells := 2, slots := 9, locals := 74 } : Room) #[(.ref x), (.ref b)] h0 (Q_rm_ic_31 Z x b kc G1 za zb zc h0) := by
  refine Ctr.intro (Ls := fun _ => #[.val (.ref x), .val (.ref b)]) (plainFor_of_name pn7) (fun m => by first | rfl | (simp [entryFrame, mkF, argsToLocals, Value.category]; done)) ?_
  intro p e s m below meth c s₁ hx hby hml hr hlk hZ hown hnm hs0 X0 e0
  have w : ∀ (k : Nat) (d : Jvm.Cond), tables_1[k]? = some d → d.before a0 Z = true := fun k d q => hw d (List.mem_of_getElem? q)
  have N0 := Fk.nil h0.size [x]
  refine Wk.aloadN X0 hx (hb hby d3_0) rfl rfl rfl ?_
  refine Wk.aloadN X0 hx (hb hby d3_1) rfl rfl rfl ?_
  refine Wk.iconst X0 hx (v := (0 : Int32)) (hb hby d3_2) rfl rfl ?_
  refine Wk.aloadN X0 hx (hb hby d3_3) rfl rfl rfl ?_
  refine Wk.arraylength X0 hx hZ e0 hA (hb hby d3_4) rfl ?_
  refine Wk.aconstNull X0 hx (hb hby d3_5) rfl ?_
  refine Wk.callI X0 hx hZ rfl hown (w 15 _ rfl) (w 16 _ rfl) (w 18 _ rfl) (by decide) (as' := [(.ref b), (.int (0 : Int32)), (.int (3 : Int32)), .null]) (backOf (W := 0) (rm_iv_31 l Z a0 hw [] x b kc G1 za zb zc h0 O0 sH sL sA SG1 nG1 hE hV hC hxz hA hcza hczb hczc hlza hgzb) hZ (w 18 _ rfl) (w 10 _ rfl) (by decide) (by decide)) e0 (by rw [hml]; rfl) (rest := []) (lenOf pd9 rfl) rfl (Nat.le_of_eq rfl) (hb hby d3_6) rfl (by decide) (by decide) ?_
  intro T1 h1 v1 L1 X1 e1 hQ1
  obtain ⟨t1, kb1, rfl, Nq1, K1, q1_0, q1_1, q1_2, q1_3, q1_4⟩ := hQ1
  have N1 := Fk.app N0 Nq1 (Nat.le_refl _) (allS (Or.inl (List.mem_of_getElem? (i := 0) rfl)) all0)
  have O2 : Old Z Z.heap.size h1 := O0.keep K1 (allS hxz all0)
  show Wp p e below _ _ T1 (mkF m 9 #[.val (.ref x), .val (.ref b)] [])
  have KK3 : Keep h0 h1 [x] := ((Keep.refl h0 [x]).trans K1 (allS (Or.inl (List.mem_of_getElem? (i := 0) rfl)) all0))
  exact Wk.ret0' X1 hx hlk hr (hb hby d3_9) (by decide) (by decide) (Qc := Q_rm_ic_31 Z x b kc G1 za zb zc h0) e1 ⟨t1, kb1, rfl, N1, KK3, q1_0, q1_1, q1_2, q1_3, q1_4⟩
def Q_rm_cp5_32 (Z : State) (b : Addr) (kc : ClassId) (t : Addr) (kb : ClassId) (za : Int32) (zb : Int32) (zc : Int32) (h0 : Heap) (v : Option Value) (h : Heap) (L : List Loc) : Prop := v = some (.int (2 : Int32)) ∧ Fk h0.size [t] L ∧ Keep h0 h [t]
set_option maxRecDepth 65536 in
set_option maxHeartbeats 40000000 in
theorem rm_cp5_32 (l : Launch) (Z : State) (a0 : Array Value) (hw : ∀ d ∈ tables_1, d.before a0 Z = true) (ws : List Jvm.Cond) (b : Addr) (kc : ClassId) (t : Addr) (kb : ClassId) (za : Int32) (zb : Int32) (zc : Int32) (h0 : Heap) (O0 : Old Z Z.heap.size h0) (hA : Arv Z h0 b kc .char (3 : Int32) [(.int za), (.int zb), (.int zc)] (.int (0 : Int32))) (hT : Arv Z h0 t kb .byte (3 : Int32) [(.int (0 : Int32)), (.int (0 : Int32)), (.int (0 : Int32))] (.int (0 : Int32))) (ht : Z.heap.size ≤ t) (hbt : b ≠ t) (hlza : ¬ ((255 : Int32) < za)) (hlzb : ¬ ((255 : Int32) < zb)) (hgzc : (255 : Int32) < zc) :
    Ctr l Z (⟨"java/lang/StringUTF16", "compress", "([CI[BII)I"⟩ : MethodName) jdk_52_method_21_code 7 (some .int) ws ({ frames := 0, cells := 0, slots := 0, locals := 0 } : Room) #[(.ref b), (.int (0 : Int32)), (.ref t), (.int (0 : Int32)), (.int (3 : Int32))] h0 (Q_rm_cp5_32 Z b kc t kb za zb zc h0) := by
  refine Ctr.intro (Ls := fun _ => #[.val (.ref b), .val (.int (0 : Int32)), .val (.ref t), .val (.int (0 : Int32)), .val (.int (3 : Int32)), .unset, .unset]) (plainFor_of_name pn0) (fun m => by first | rfl | (simp [entryFrame, mkF, argsToLocals, Value.category]; done)) ?_
  intro p e s m below meth c s₁ hx hby hml hr hlk hZ hown hnm hs0 X0 e0
  have w : ∀ (k : Nat) (d : Jvm.Cond), tables_1[k]? = some d → d.before a0 Z = true := fun k d q => hw d (List.mem_of_getElem? q)
  have N0 := Fk.nil h0.size [t]
  refine Wk.iconst X0 hx (v := (0 : Int32)) (hb hby d14_0) rfl rfl ?_
  refine Wk.istore X0 hx (Ls' := #[.val (.ref b), .val (.int (0 : Int32)), .val (.ref t), .val (.int (0 : Int32)), .val (.int (3 : Int32)), .val (.int (0 : Int32)), .unset]) (hb hby d14_1) rfl rfl ?_
  refine Wk.iload X0 hx (hb hby d14_3) rfl rfl ?_
  refine Wk.iload X0 hx (hb hby d14_5) rfl rfl ?_
  refine Wk.icmpNo X0 hx (hb hby d14_7) rfl (tlt (by decide : (0 : Int32) < (3 : Int32))).2.1 ?_
  refine Wk.aloadN X0 hx (hb hby d14_10) rfl rfl rfl ?_
  refine Wk.iloadN X0 hx (hb hby d14_11) rfl rfl ?_
  refine Wk.caload X0 hx hZ e0 hA (by decide) (by decide) (v := za) rfl (hb hby d14_12) rfl ?_
  refine Wk.istore X0 hx (Ls' := #[.val (.ref b), .val (.int (0 : Int32)), .val (.ref t), .val (.int (0 : Int32)), .val (.int (3 : Int32)), .val (.int (0 : Int32)), .val (.int za)]) (hb hby d14_13) rfl rfl ?_
  refine Wk.iload X0 hx (hb hby d14_15) rfl rfl ?_
  refine Wk.sipush X0 hx (v := (255 : Int32)) (hb hby d14_17) rfl rfl ?_
  refine Wk.icmpYes X0 hx (hb hby d14_20) (by decide) (q := 26) rfl (flt hlza).2.2.2 ?_
  refine Wk.aloadN X0 hx (hb hby d14_26) rfl rfl rfl ?_
  refine Wk.iloadN X0 hx (hb hby d14_27) rfl rfl ?_
  refine Wk.iload X0 hx (hb hby d14_28) rfl rfl ?_
  refine Wk.i2b X0 hx (hb hby d14_30) rfl ?_
  intro c1 hc1
  refine Wk.bastore X0 hx hZ e0 hT (by decide) (by decide) 0 rfl (Nat.le_of_ble_eq_true rfl) (w := (nar .byte c1)) rfl (hb hby d14_31) rfl ?_
  intro T2 h2 L2 M2 X2 e2 W2 A2
  have N2 := M2 _ _ N0 (Or.inl (List.mem_of_getElem? (i := 0) rfl))
  have O3 : Old Z Z.heap.size h2 := O0.wr W2 ht
  have V2 : Arv Z h2 t kb .byte (3 : Int32) [(.int (nar .byte c1)), (.int (0 : Int32)), (.int (0 : Int32))] (.int (0 : Int32)) := A2
  refine Wk.iinc X2 hx (Ls' := #[.val (.ref b), .val (.int (1 : Int32)), .val (.ref t), .val (.int (0 : Int32)), .val (.int (3 : Int32)), .val (.int (0 : Int32)), .val (.int za)]) (hb hby d14_32) rfl rfl rfl ?_
  refine Wk.iinc X2 hx (Ls' := #[.val (.ref b), .val (.int (1 : Int32)), .val (.ref t), .val (.int (1 : Int32)), .val (.int (3 : Int32)), .val (.int (0 : Int32)), .val (.int za)]) (hb hby d14_35) rfl rfl rfl ?_
  refine Wk.iinc X2 hx (Ls' := #[.val (.ref b), .val (.int (1 : Int32)), .val (.ref t), .val (.int (1 : Int32)), .val (.int (3 : Int32)), .val (.int (1 : Int32)), .val (.int za)]) (hb hby d14_38) rfl rfl rfl ?_
  refine Wk.goto X2 hx (hb hby d14_41) (by decide) (q := 3) rfl ?_
  refine Wk.iload X2 hx (hb hby d14_3) rfl rfl ?_
  refine Wk.iload X2 hx (hb hby d14_5) rfl rfl ?_
  refine Wk.icmpNo X2 hx (hb hby d14_7) rfl (tlt (by decide : (1 : Int32) < (3 : Int32))).2.1 ?_
  refine Wk.aloadN X2 hx (hb hby d14_10) rfl rfl rfl ?_
  refine Wk.iloadN X2 hx (hb hby d14_11) rfl rfl ?_
  have KK4 : Keep h0 h2 [t] := ((Keep.refl h0 [t]).wr W2 (Or.inl (List.mem_of_getElem? (i := 0) rfl)))
  have f5 : Arv Z h2 b kc .char (3 : Int32) [(.int za), (.int zb), (.int zc)] (.int (0 : Int32)) := (hA.keep KK4 (ninS hbt nin0))
  refine Wk.caload X2 hx hZ e2 f5 (by decide) (by decide) (v := zb) rfl (hb hby d14_12) rfl ?_
  refine Wk.istore X2 hx (Ls' := #[.val (.ref b), .val (.int (1 : Int32)), .val (.ref t), .val (.int (1 : Int32)), .val (.int (3 : Int32)), .val (.int (1 : Int32)), .val (.int zb)]) (hb hby d14_13) rfl rfl ?_
  refine Wk.iload X2 hx (hb hby d14_15) rfl rfl ?_
  refine Wk.sipush X2 hx (v := (255 : Int32)) (hb hby d14_17) rfl rfl ?_
  refine Wk.icmpYes X2 hx (hb hby d14_20) (by decide) (q := 26) rfl (flt hlzb).2.2.2 ?_
  refine Wk.aloadN X2 hx (hb hby d14_26) rfl rfl rfl ?_
  refine Wk.iloadN X2 hx (hb hby d14_27) rfl rfl ?_
  refine Wk.iload X2 hx (hb hby d14_28) rfl rfl ?_
  refine Wk.i2b X2 hx (hb hby d14_30) rfl ?_
  intro c6 hc6
  refine Wk.bastore X2 hx hZ e2 V2 (by decide) (by decide) 1 rfl (Nat.le_of_ble_eq_true rfl) (w := (nar .byte c6)) rfl (hb hby d14_31) rfl ?_
  intro T7 h7 L7 M7 X7 e7 W7 A7
  have N7 := M7 _ _ N2 (Or.inl (List.mem_of_getElem? (i := 0) rfl))
  have O8 : Old Z Z.heap.size h7 := O3.wr W7 ht
  have V7 : Arv Z h7 t kb .byte (3 : Int32) [(.int (nar .byte c1)), (.int (nar .byte c6)), (.int (0 : Int32))] (.int (0 : Int32)) := A7
  refine Wk.iinc X7 hx (Ls' := #[.val (.ref b), .val (.int (2 : Int32)), .val (.ref t), .val (.int (1 : Int32)), .val (.int (3 : Int32)), .val (.int (1 : Int32)), .val (.int zb)]) (hb hby d14_32) rfl rfl rfl ?_
  refine Wk.iinc X7 hx (Ls' := #[.val (.ref b), .val (.int (2 : Int32)), .val (.ref t), .val (.int (2 : Int32)), .val (.int (3 : Int32)), .val (.int (1 : Int32)), .val (.int zb)]) (hb hby d14_35) rfl rfl rfl ?_
  refine Wk.iinc X7 hx (Ls' := #[.val (.ref b), .val (.int (2 : Int32)), .val (.ref t), .val (.int (2 : Int32)), .val (.int (3 : Int32)), .val (.int (2 : Int32)), .val (.int zb)]) (hb hby d14_38) rfl rfl rfl ?_
  refine Wk.goto X7 hx (hb hby d14_41) (by decide) (q := 3) rfl ?_
  refine Wk.iload X7 hx (hb hby d14_3) rfl rfl ?_
  refine Wk.iload X7 hx (hb hby d14_5) rfl rfl ?_
  refine Wk.icmpNo X7 hx (hb hby d14_7) rfl (tlt (by decide : (2 : Int32) < (3 : Int32))).2.1 ?_
  refine Wk.aloadN X7 hx (hb hby d14_10) rfl rfl rfl ?_
  refine Wk.iloadN X7 hx (hb hby d14_11) rfl rfl ?_
  have KK9 : Keep h2 h7 [t] := ((Keep.refl h2 [t]).wr W7 (Or.inl (List.mem_of_getElem? (i := 0) rfl)))
  have f10 : Arv Z h7 b kc .char (3 : Int32) [(.int za), (.int zb), (.int zc)] (.int (0 : Int32)) := (f5.keep KK9 (ninS hbt nin0))
  refine Wk.caload X7 hx hZ e7 f10 (by decide) (by decide) (v := zc) rfl (hb hby d14_12) rfl ?_
  refine Wk.istore X7 hx (Ls' := #[.val (.ref b), .val (.int (2 : Int32)), .val (.ref t), .val (.int (2 : Int32)), .val (.int (3 : Int32)), .val (.int (2 : Int32)), .val (.int zc)]) (hb hby d14_13) rfl rfl ?_
  refine Wk.iload X7 hx (hb hby d14_15) rfl rfl ?_
  refine Wk.sipush X7 hx (v := (255 : Int32)) (hb hby d14_17) rfl rfl ?_
  refine Wk.icmpNo X7 hx (hb hby d14_20) rfl (tlt hgzc).2.2.2 ?_
  refine Wk.iload X7 hx (hb hby d14_23) rfl rfl ?_
  have KK11 : Keep h0 h7 [t] := (KK4.wr W7 (Or.inl (List.mem_of_getElem? (i := 0) rfl)))
  exact Wk.retI' X7 hx hlk hr (hb hby d14_25) (by decide) (by decide) (Qc := Q_rm_cp5_32 Z b kc t kb za zb zc h0) e7 ⟨rfl, N7, KK11⟩
def Q_rm_cp3_32 (Z : State) (b : Addr) (kc : ClassId) (za : Int32) (zb : Int32) (zc : Int32) (h0 : Heap) (v : Option Value) (h : Heap) (L : List Loc) : Prop := ∃ t : Addr, ∃ kb : ClassId, v = some (.ref t) ∧ Fk h0.size [] L ∧ Keep h0 h [] ∧ h0.size ≤ t ∧ Arv Z h t kb .byte (6 : Int32) [(.int (own_b0 za)), (.int (own_b1 za)), (.int (own_b0 zb)), (.int (own_b1 zb)), (.int (own_b0 zc)), (.int (own_b1 zc))] (.int (0 : Int32))
set_option maxRecDepth 65536 in
set_option maxHeartbeats 40000000 in
theorem rm_cp3_32 (l : Launch) (Z : State) (a0 : Array Value) (hw : ∀ d ∈ tables_1, d.before a0 Z = true) (ws : List Jvm.Cond) (b : Addr) (kc : ClassId) (za : Int32) (zb : Int32) (zc : Int32) (h0 : Heap) (O0 : Old Z Z.heap.size h0) (sH : Sta Z Z.heap "java/lang/StringUTF16" "HI_BYTE_SHIFT" "I" (.int (0 : Int32))) (sL : Sta Z Z.heap "java/lang/StringUTF16" "LO_BYTE_SHIFT" "I" (.int (8 : Int32))) (sA : Sta Z Z.heap "java/lang/StringUTF16" "$assertionsDisabled" "Z" (.int (1 : Int32))) (hA : Arv Z h0 b kc .char (3 : Int32) [(.int za), (.int zb), (.int zc)] (.int (0 : Int32))) (hcza : Chr za) (hczb : Chr zb) (hczc : Chr zc) (hlza : ¬ ((255 : Int32) < za)) (hlzb : ¬ ((255 : Int32) < zb)) (hgzc : (255 : Int32) < zc) :
    Ctr l Z (⟨"java/lang/StringUTF16", "compress", "([CII)[B"⟩ : MethodName) jdk_52_method_16_code 6 (some (.array .byte)) ws ({ frames := 3, cells := 2, slots := 9, locals := 40 } : Room) #[(.ref b), (.int (0 : Int32)), (.int (3 : Int32))] h0 (Q_rm_cp3_32 Z b kc za zb zc h0) := by
  refine Ctr.intro (Ls := fun _ => #[.val (.ref b), .val (.int (0 : Int32)), .val (.int (3 : Int32)), .unset, .unset, .unset]) (plainFor_of_name pn0) (fun m => by first | rfl | (simp [entryFrame, mkF, argsToLocals, Value.category]; done)) ?_
  intro p e s m below meth c s₁ hx hby hml hr hlk hZ hown hnm hs0 X0 e0
  have w : ∀ (k : Nat) (d : Jvm.Cond), tables_1[k]? = some d → d.before a0 Z = true := fun k d q => hw d (List.mem_of_getElem? q)
  have N0 := Fk.nil h0.size []
  refine Wk.iloadN X0 hx (hb hby d13_0) rfl rfl ?_
  refine Wk.newarray X0 hx hZ (w 23 _ rfl) e0 (hb hby d13_1) rfl (by decide) 3 (by decide) (by decide) (by decide) (by decide) ?_
  intro T1 h1 a1 kA1 g1 X1 e1 E1 A1
  have O2 : Old Z Z.heap.size h1 := O0.ext E1
  have V1 : Arv Z h1 a1 kA1 .byte (3 : Int32) [(.int (0 : Int32)), (.int (0 : Int32)), (.int (0 : Int32))] (.int (0 : Int32)) := A1.pad (pad_rep [] (.int (0 : Int32)) 3)
  refine Wk.astoreN X1 hx (Ls' := #[.val (.ref b), .val (.int (0 : Int32)), .val (.int (3 : Int32)), .val (.ref a1), .unset, .unset]) (hb hby d13_3) rfl rfl rfl ?_
  refine Wk.aloadN X1 hx (hb hby d13_4) rfl rfl rfl ?_
  refine Wk.iloadN X1 hx (hb hby d13_5) rfl rfl ?_
  refine Wk.aloadN X1 hx (hb hby d13_6) rfl rfl rfl ?_
  refine Wk.iconst X1 hx (v := (0 : Int32)) (hb hby d13_7) rfl rfl ?_
  refine Wk.iloadN X1 hx (hb hby d13_8) rfl rfl ?_
  have KK3 : Keep h0 h1 [] := ((Keep.refl h0 []).ext E1)
  have f4 : Arv Z h1 b kc .char (3 : Int32) [(.int za), (.int zb), (.int zc)] (.int (0 : Int32)) := (hA.keep KK3 nin0)
  refine Wk.callS X1 hx hZ hown (w 68 _ rfl) (w 69 _ rfl) (w 66 _ rfl) (w 70 _ rfl) (by decide) (as' := [(.ref b), (.int (0 : Int32)), (.ref a1), (.int (0 : Int32)), (.int (3 : Int32))]) (backOf (W := 0) (rm_cp5_32 l Z a0 hw [] b kc a1 kA1 za zb zc h1 O2 f4 V1 (Nat.le_trans (Nat.le_trans (Nat.le_trans (Nat.le_of_eq O0.1.symm) O0.2.1) (Keep.refl h0 []).1) (Nat.le_of_eq g1)) (Nat.ne_of_lt (Nat.lt_of_lt_of_le hA.lt (Nat.le_of_eq g1))) hlza hlzb hgzc) hZ (w 70 _ rfl) (w 66 _ rfl) (by decide) (by decide)) e1 (by rw [hml]; rfl) (rest := []) (lenOf pd4 rfl) rfl (Nat.le_of_eq rfl) (hb hby d13_9) rfl (by decide) (by decide) ?_
  intro T5 h5 v5 L5 X5 e5 hQ5
  obtain ⟨rfl, Nq5, K5⟩ := hQ5
  have N5 := Fk.app N0 Nq5 KK3.1 (allS (Or.inr (Nat.le_of_eq g1)) all0)
  have O6 : Old Z Z.heap.size h5 := O2.keep K5 (allS (Nat.le_trans (Nat.le_trans (Nat.le_trans (Nat.le_of_eq O0.1.symm) O0.2.1) (Keep.refl h0 []).1) (Nat.le_of_eq g1)) all0)
  show Wp p e below _ _ T5 (mkF m 12 #[.val (.ref b), .val (.int (0 : Int32)), .val (.int (3 : Int32)), .val (.ref a1), .unset, .unset] [(.int (2 : Int32))])
  refine Wk.istore X5 hx (Ls' := #[.val (.ref b), .val (.int (0 : Int32)), .val (.int (3 : Int32)), .val (.ref a1), .val (.int (2 : Int32)), .unset]) (hb hby d13_12) rfl rfl ?_
  refine Wk.iload X5 hx (hb hby d13_14) rfl rfl ?_
  refine Wk.iloadN X5 hx (hb hby d13_16) rfl rfl ?_
  refine Wk.icmpNo X5 hx (hb hby d13_17) rfl (feq (by decide : ¬ ((2 : Int32) = (3 : Int32)))).1 ?_
  refine Wk.aloadN X5 hx (hb hby d13_20) rfl rfl rfl ?_
  refine Wk.iloadN X5 hx (hb hby d13_21) rfl rfl ?_
  refine Wk.iloadN X5 hx (hb hby d13_22) rfl rfl ?_
  have KK7 : Keep h0 h5 [] := (KK3.trans K5 (allS (Or.inr (Nat.le_of_eq g1)) all0))
  have f8 : Arv Z h5 b kc .char (3 : Int32) [(.int za), (.int zb), (.int zc)] (.int (0 : Int32)) := (hA.keep KK7 nin0)
  refine Wk.callS X5 hx hZ hown (w 76 _ rfl) (w 77 _ rfl) (w 66 _ rfl) (w 78 _ rfl) (by decide) (as' := [(.ref b), (.int (0 : Int32)), (.int (3 : Int32))]) (backOf (W := 0) (rm_tob3 l Z a0 hw [] b kc za zb zc h5 O6 sH sL sA f8) hZ (w 78 _ rfl) (w 66 _ rfl) (by decide) (by decide)) e5 (by rw [hml]; rfl) (rest := []) (lenOf pd5 rfl) rfl (Nat.le_of_eq rfl) (hb hby d13_23) rfl (by decide) (by decide) ?_
  intro T9 h9 v9 L9 X9 e9 hQ9
  obtain ⟨t9, kb9, rfl, Nq9, K9, q9_0, q9_1⟩ := hQ9
  have N9 := Fk.app N5 Nq9 KK7.1 all0
  have O10 : Old Z Z.heap.size h9 := O6.keep K9 all0
  show Wp p e below _ _ T9 (mkF m 26 #[.val (.ref b), .val (.int (0 : Int32)), .val (.int (3 : Int32)), .val (.ref a1), .val (.int (2 : Int32)), .unset] [(.ref t9)])
  refine Wk.astore X9 hx (Ls' := #[.val (.ref b), .val (.int (0 : Int32)), .val (.int (3 : Int32)), .val (.ref a1), .val (.int (2 : Int32)), .val (.ref t9)]) (hb hby d13_26) rfl rfl rfl ?_
  refine Wk.aload X9 hx (hb hby d13_28) rfl rfl rfl ?_
  refine Wk.iload X9 hx (hb hby d13_30) rfl rfl ?_
  refine Wk.callS X9 hx hZ hown (w 92 _ rfl) (w 93 _ rfl) (w 66 _ rfl) (w 94 _ rfl) (by decide) (as' := [(.ref t9), (.int (2 : Int32))]) (backOf (W := 0) (rm_get2 l Z a0 hw [] t9 zc kb9 (6 : Int32) [(.int (own_b0 za)), (.int (own_b1 za)), (.int (own_b0 zb)), (.int (own_b1 zb)), (.int (own_b0 zc)), (.int (own_b1 zc))] h9 O10 sH sL sA q9_1 (by first | assumption | rfl | decide | exact Nat.le_of_ble_eq_true rfl) (by first | assumption | rfl | decide | exact Nat.le_of_ble_eq_true rfl) (by first | assumption | rfl | decide | exact Nat.le_of_ble_eq_true rfl) (by first | assumption | rfl | decide | exact Nat.le_of_ble_eq_true rfl) hczc) hZ (w 94 _ rfl) (w 66 _ rfl) (by decide) (by decide)) e9 (by rw [hml]; rfl) (rest := []) (lenOf pd6 rfl) rfl (Nat.le_of_eq rfl) (hb hby d13_32) rfl (by decide) (by decide) ?_
  intro T11 h11 v11 L11 X11 e11 hQ11
  obtain ⟨rfl, Nq11, K11⟩ := hQ11
  have KK12 : Keep h0 h9 [] := (KK7.trans K9 all0)
  have N11 := Fk.app N9 Nq11 KK12.1 all0
  rw [K11] at e11
  show Wp p e below _ _ T11 (mkF m 35 #[.val (.ref b), .val (.int (0 : Int32)), .val (.int (3 : Int32)), .val (.ref a1), .val (.int (2 : Int32)), .val (.ref t9)] [(.int zc)])
  refine Wk.sipush X11 hx (v := (255 : Int32)) (hb hby d13_35) rfl rfl ?_
  refine Wk.icmpYes X11 hx (hb hby d13_38) (by decide) (q := 54) rfl (tlt hgzc).2.2.1 ?_
  refine Wk.aload X11 hx (hb hby d13_54) rfl rfl rfl ?_
  exact Wk.retA' X11 hx hlk hr rfl rfl (hb hby d13_56) (by decide) (by decide) (Qc := Q_rm_cp3_32 Z b kc za zb zc h0) e11 ⟨t9, kb9, rfl, N11, KK12, (Nat.le_trans KK7.1 q9_0), q9_1⟩
def Q_rm_iv_32 (Z : State) (x : Addr) (b : Addr) (kc : ClassId) (G1 : Int32) (za : Int32) (zb : Int32) (zc : Int32) (h0 : Heap) (v : Option Value) (h : Heap) (L : List Loc) : Prop := ∃ t : Addr, ∃ kb : ClassId, v = none ∧ Fk h0.size [x] L ∧ Keep h0 h [x] ∧ h0.size ≤ t ∧ Exa Z h x "java/lang/String" ∧ Fld Z h x "java/lang/String" "coder" "B" (.int (1 : Int32)) ∧ Fld Z h x "java/lang/String" "value" "[B" (.ref t) ∧ Arv Z h t kb .byte (6 : Int32) [(.int (own_b0 za)), (.int (own_b1 za)), (.int (own_b0 zb)), (.int (own_b1 zb)), (.int (own_b0 zc)), (.int (own_b1 zc))] (.int (0 : Int32))
set_option maxRecDepth 65536 in
set_option maxHeartbeats 40000000 in
theorem rm_iv_32 (l : Launch) (Z : State) (a0 : Array Value) (hw : ∀ d ∈ tables_1, d.before a0 Z = true) (ws : List Jvm.Cond) (x : Addr) (b : Addr) (kc : ClassId) (G1 : Int32) (za : Int32) (zb : Int32) (zc : Int32) (h0 : Heap) (O0 : Old Z Z.heap.size h0) (sH : Sta Z Z.heap "java/lang/StringUTF16" "HI_BYTE_SHIFT" "I" (.int (0 : Int32))) (sL : Sta Z Z.heap "java/lang/StringUTF16" "LO_BYTE_SHIFT" "I" (.int (8 : Int32))) (sA : Sta Z Z.heap "java/lang/StringUTF16" "$assertionsDisabled" "Z" (.int (1 : Int32))) (SG1 : Sta Z Z.heap "java/lang/String" "COMPACT_STRINGS" "Z" (.int G1)) (nG1 : ¬ G1 = 0) (hE : Exa Z h0 x "java/lang/String") (hV : Fld Z h0 x "java/lang/String" "value" "[B" .null) (hC : Fld Z h0 x "java/lang/String" "coder" "B" (.int (0 : Int32))) (hxz : Z.heap.size ≤ x) (hA : Arv Z h0 b kc .char (3 : Int32) [(.int za), (.int zb), (.int zc)] (.int (0 : Int32))) (hcza : Chr za) (hczb : Chr zb) (hczc : Chr zc) (hlza : ¬ ((255 : Int32) < za)) (hlzb : ¬ ((255 : Int32) < zb)) (hgzc : (255 : Int32) < zc) :
    Ctr l Z (⟨"java/lang/String", "<init>", "([CIILjava/lang/Void;)V"⟩ : MethodName) jdk_42_method_149_code 6 none ws ({ frames := 4, cells := 2, slots := 9, locals := 57 } : Room) #[(.ref x), (.ref b), (.int (0 : Int32)), (.int (3 : Int32)), .null] h0 (Q_rm_iv_32 Z x b kc G1 za zb zc h0) := by
  refine Ctr.intro (Ls := fun _ => #[.val (.ref x), .val (.ref b), .val (.int (0 : Int32)), .val (.int (3 : Int32)), .val .null, .unset]) (plainFor_of_name pn7) (fun m => by first | rfl | (simp [entryFrame, mkF, argsToLocals, Value.category]; done)) ?_
  intro p e s m below meth c s₁ hx hby hml hr hlk hZ hown hnm hs0 X0 e0
  have w : ∀ (k : Nat) (d : Jvm.Cond), tables_1[k]? = some d → d.before a0 Z = true := fun k d q => hw d (List.mem_of_getElem? q)
  have N0 := Fk.nil h0.size [x]
  refine Wk.aloadN X0 hx (hb hby d4_0) rfl rfl rfl ?_
  refine Wk.objinit X0 hx hZ hown (w 19 _ rfl) (w 20 _ rfl) (w 21 _ rfl) e0 (by rw [hml]; rfl) (hb hby d4_1) rfl (by decide) 0 (Nat.le_of_eq rfl) (by decide) ?_
  intro T1 X1 e1
  refine Wk.iloadN X1 hx (hb hby d4_4) rfl rfl ?_
  refine Wk.ifYes X1 hx (hb hby d4_5) (by decide) (q := 27) rfl ((if0 _ _).trans (feq (by decide : ¬ ((3 : Int32) = (0 : Int32)))).2) ?_
  refine Wk.getstatic X1 hx hZ hown (host := "") (Or.inl (w 44 _ rfl)) Via.refl e1 (SG1.ext O0.2) (hb hby d4_27) rfl ?_
  intro T2 X2 e2
  refine Wk.ifNo X2 hx (hb hby d4_30) rfl ((if0 _ _).trans (feq nG1).1) ?_
  refine Wk.aloadN X2 hx (hb hby d4_33) rfl rfl rfl ?_
  refine Wk.iloadN X2 hx (hb hby d4_34) rfl rfl ?_
  refine Wk.iloadN X2 hx (hb hby d4_35) rfl rfl ?_
  refine Wk.callS X2 hx hZ hown (w 64 _ rfl) (w 65 _ rfl) (w 66 _ rfl) (w 67 _ rfl) (by decide) (as' := [(.ref b), (.int (0 : Int32)), (.int (3 : Int32))]) (backOf (W := 0) (rm_cp3_32 l Z a0 hw [] b kc za zb zc h0 O0 sH sL sA hA hcza hczb hczc hlza hlzb hgzc) hZ (w 67 _ rfl) (w 66 _ rfl) (by decide) (by decide)) e2 (by rw [hml]; rfl) (rest := []) (lenOf pd5 rfl) rfl (Nat.le_of_eq rfl) (hb hby d4_36) rfl (by decide) (by decide) ?_
  intro T3 h3 v3 L3 X3 e3 hQ3
  obtain ⟨t3, kb3, rfl, Nq3, K3, q3_0, q3_1⟩ := hQ3
  have N3 := Fk.app N0 Nq3 (Nat.le_refl _) all0
  have O4 : Old Z Z.heap.size h3 := O0.keep K3 all0
  show Wp p e below _ _ T3 (mkF m 39 #[.val (.ref x), .val (.ref b), .val (.int (0 : Int32)), .val (.int (3 : Int32)), .val .null, .unset] [(.ref t3)])
  refine Wk.astore X3 hx (Ls' := #[.val (.ref x), .val (.ref b), .val (.int (0 : Int32)), .val (.int (3 : Int32)), .val .null, .val (.ref t3)]) (hb hby d4_39) rfl rfl rfl ?_
  refine Wk.aloadN X3 hx (hb hby d4_41) rfl rfl rfl ?_
  refine Wk.aload X3 hx (hb hby d4_42) rfl rfl rfl ?_
  refine Wk.iloadN X3 hx (hb hby d4_44) rfl rfl ?_
  refine Wk.callS X3 hx hZ hown (w 71 _ rfl) (w 72 _ rfl) (w 66 _ rfl) (w 73 _ rfl) (by decide) (as' := [(.ref t3), (.int (3 : Int32))]) (backOf (W := 1) (rm_cfa3 l Z a0 hw [] t3 kb3 [(.int (own_b0 za)), (.int (own_b1 za)), (.int (own_b0 zb)), (.int (own_b1 zb)), (.int (own_b0 zc)), (.int (own_b1 zc))] h3 O4 q3_1) hZ (w 73 _ rfl) (w 66 _ rfl) (by decide) (by decide)) e3 (by rw [hml]; rfl) (rest := [(.ref x)]) (lenOf pd8 rfl) rfl (Nat.le_of_eq rfl) (hb hby d4_45) rfl (by decide) (by decide) ?_
  intro T5 h5 v5 L5 X5 e5 hQ5
  obtain ⟨rfl, Nq5, K5⟩ := hQ5
  have KK6 : Keep h0 h3 [] := ((Keep.refl h0 []).trans K3 all0)
  have N5 := Fk.app N3 Nq5 KK6.1 all0
  rw [K5] at e5
  show Wp p e below _ _ T5 (mkF m 48 #[.val (.ref x), .val (.ref b), .val (.int (0 : Int32)), .val (.int (3 : Int32)), .val .null, .val (.ref t3)] [(.int (1 : Int32)), (.ref x)])
  have f7 : Exa Z h3 x "java/lang/String" := (hE.keep KK6)
  have f8 : Fld Z h3 x "java/lang/String" "coder" "B" (.int (0 : Int32)) := (hC.keep KK6 nin0)
  have f10 : Fld Z h3 x "java/lang/String" "value" "[B" .null := (hV.keep KK6 nin0)
  refine Wk.putfieldN X5 hx hZ hown (w 29 _ rfl) Via.refl e5 (v' := (.int (1 : Int32))) f8 f7 (Or.inr ⟨(w 25 _ rfl), rfl, hnm⟩) (w 9 _ rfl) (ty := .byte) (by decide) rfl rfl (hb hby d4_48) rfl ?_
  intro T9 h9 L9 M9 X9 e9 W9 Fw9
  have N9 := M9 _ _ N5 (Or.inl (List.mem_of_getElem? (i := 0) rfl))
  have O11 : Old Z Z.heap.size h9 := O4.wr W9 hxz
  have f12 : Fld Z h9 x "java/lang/String" "value" "[B" .null := f10.other W9 (Or.inr (slot_ne (Or.inr (w 24 _ rfl)) (Or.inr (w 25 _ rfl)) (by decide) (t := (.array .byte)) (t' := .byte) (by decide) (by decide)))
  have E9' : Exa Z h9 x "java/lang/String" := f7.wr W9
  refine Wk.aloadN X9 hx (hb hby d4_51) rfl rfl rfl ?_
  refine Wk.aload X9 hx (hb hby d4_52) rfl rfl rfl ?_
  refine Wk.putfield X9 hx hZ hown (host := "") (Or.inl (w 28 _ rfl)) Via.refl e9 f12 E9' (Or.inr ⟨(w 24 _ rfl), rfl, hnm⟩) (w 9 _ rfl) (ty := (.array .byte)) (by decide) rfl rfl (hb hby d4_54) rfl ?_
  intro T13 h13 L13 M13 X13 e13 W13 Fw13
  have N13 := M13 _ _ N9 (Or.inl (List.mem_of_getElem? (i := 0) rfl))
  have O14 : Old Z Z.heap.size h13 := O11.wr W13 hxz
  have f15 : Fld Z h13 x "java/lang/String" "coder" "B" (.int (1 : Int32)) := Fw9.other W13 (Or.inr (slot_ne (Or.inr (w 25 _ rfl)) (Or.inr (w 24 _ rfl)) (by decide) (t := .byte) (t' := (.array .byte)) (by decide) (by decide)))
  have E13' : Exa Z h13 x "java/lang/String" := E9'.wr W13
  have KK16 : Keep h0 h13 [x] := ((((Keep.refl h0 [x]).trans K3 all0).wr W9 (Or.inl (List.mem_of_getElem? (i := 0) rfl))).wr W13 (Or.inl (List.mem_of_getElem? (i := 0) rfl)))
  have KK17 : Keep h3 h13 [x] := (((Keep.refl h3 [x]).wr W9 (Or.inl (List.mem_of_getElem? (i := 0) rfl))).wr W13 (Or.inl (List.mem_of_getElem? (i := 0) rfl)))
  have f18 : Arv Z h13 t3 kb3 .byte (6 : Int32) [(.int (own_b0 za)), (.int (own_b1 za)), (.int (own_b0 zb)), (.int (own_b1 zb)), (.int (own_b0 zc)), (.int (own_b1 zc))] (.int (0 : Int32)) := (q3_1.keep KK17 (ninS (Ne.symm (Nat.ne_of_lt (Nat.lt_of_lt_of_le hE.lt q3_0))) nin0))
  exact Wk.ret0' X13 hx hlk hr (hb hby d4_57) (by decide) (by decide) (Qc := Q_rm_iv_32 Z x b kc G1 za zb zc h0) e13 ⟨t3, kb3, rfl, N13, KK16, q3_0, E13', f15, Fw13, f18⟩
def Q_rm_ic_32 (Z : State) (x : Addr) (b : Addr) (kc : ClassId) (G1 : Int32) (za : Int32) (zb : Int32) (zc : Int32) (h0 : Heap) (v : Option Value) (h : Heap) (L : List Loc) : Prop := ∃ t : Addr, ∃ kb : ClassId, v = none ∧ Fk h0.size [x] L ∧ Keep h0 h [x] ∧ h0.size ≤ t ∧ Exa Z h x "java/lang/String" ∧ Fld Z h x "java/lang/String" "coder" "B" (.int (1 : Int32)) ∧ Fld Z h x "java/lang/String" "value" "[B" (.ref t) ∧ Arv Z h t kb .byte (6 : Int32) [(.int (own_b0 za)), (.int (own_b1 za)), (.int (own_b0 zb)), (.int (own_b1 zb)), (.int (own_b0 zc)), (.int (own_b1 zc))] (.int (0 : Int32))
set_option maxRecDepth 65536 in
set_option maxHeartbeats 40000000 in
theorem rm_ic_32 (l : Launch) (Z : State) (a0 : Array Value) (hw : ∀ d ∈ tables_1, d.before a0 Z = true) (ws : List Jvm.Cond) (x : Addr) (b : Addr) (kc : ClassId) (G1 : Int32) (za : Int32) (zb : Int32) (zc : Int32) (h0 : Heap) (O0 : Old Z Z.heap.size h0) (sH : Sta Z Z.heap "java/lang/StringUTF16" "HI_BYTE_SHIFT" "I" (.int (0 : Int32))) (sL : Sta Z Z.heap "java/lang/StringUTF16" "LO_BYTE_SHIFT" "I" (.int (8 : Int32))) (sA : Sta Z Z.heap "java/lang/StringUTF16" "$assertionsDisabled" "Z" (.int (1 : Int32))) (SG1 : Sta Z Z.heap "java/lang/String" "COMPACT_STRINGS" "Z" (.int G1)) (nG1 : ¬ G1 = 0) (hE : Exa Z h0 x "java/lang/String") (hV : Fld Z h0 x "java/lang/String" "value" "[B" .null) (hC : Fld Z h0 x "java/lang/String" "coder" "B" (.int (0 : Int32))) (hxz : Z.heap.size ≤ x) (hA : Arv Z h0 b kc .char (3 : Int32) [(.int za), (.int zb), (.int zc)] (.int (0 : Int32))) (hcza : Chr za) (hczb : Chr zb) (hczc : Chr zc) (hlza : ¬ ((255 : Int32) < za)) (hlzb : ¬ ((255 : Int32) < zb)) (hgzc : (255 : Int32) < zc) :
    Ctr l Z (⟨"java/lang/String", "<init>", "([C)V"⟩ : MethodName) jdk_42_method_3_code 2 none ws ({ frames := 5, cells := 2, slots := 9, locals := 74 } : Room) #[(.ref x), (.ref b)] h0 (Q_rm_ic_32 Z x b kc G1 za zb zc h0) := by
  refine Ctr.intro (Ls := fun _ => #[.val (.ref x), .val (.ref b)]) (plainFor_of_name pn7) (fun m => by first | rfl | (simp [entryFrame, mkF, argsToLocals, Value.category]; done)) ?_
  intro p e s m below meth c s₁ hx hby hml hr hlk hZ hown hnm hs0 X0 e0
  have w : ∀ (k : Nat) (d : Jvm.Cond), tables_1[k]? = some d → d.before a0 Z = true := fun k d q => hw d (List.mem_of_getElem? q)
  have N0 := Fk.nil h0.size [x]
  refine Wk.aloadN X0 hx (hb hby d3_0) rfl rfl rfl ?_
  refine Wk.aloadN X0 hx (hb hby d3_1) rfl rfl rfl ?_
  refine Wk.iconst X0 hx (v := (0 : Int32)) (hb hby d3_2) rfl rfl ?_
  refine Wk.aloadN X0 hx (hb hby d3_3) rfl rfl rfl ?_
  refine Wk.arraylength X0 hx hZ e0 hA (hb hby d3_4) rfl ?_
  refine Wk.aconstNull X0 hx (hb hby d3_5) rfl ?_
  refine Wk.callI X0 hx hZ rfl hown (w 15 _ rfl) (w 16 _ rfl) (w 18 _ rfl) (by decide) (as' := [(.ref b), (.int (0 : Int32)), (.int (3 : Int32)), .null]) (backOf (W := 0) (rm_iv_32 l Z a0 hw [] x b kc G1 za zb zc h0 O0 sH sL sA SG1 nG1 hE hV hC hxz hA hcza hczb hczc hlza hlzb hgzc) hZ (w 18 _ rfl) (w 10 _ rfl) (by decide) (by decide)) e0 (by rw [hml]; rfl) (rest := []) (lenOf pd9 rfl) rfl (Nat.le_of_eq rfl) (hb hby d3_6) rfl (by decide) (by decide) ?_
  intro T1 h1 v1 L1 X1 e1 hQ1
  obtain ⟨t1, kb1, rfl, Nq1, K1, q1_0, q1_1, q1_2, q1_3, q1_4⟩ := hQ1
  have N1 := Fk.app N0 Nq1 (Nat.le_refl _) (allS (Or.inl (List.mem_of_getElem? (i := 0) rfl)) all0)
  have O2 : Old Z Z.heap.size h1 := O0.keep K1 (allS hxz all0)
  show Wp p e below _ _ T1 (mkF m 9 #[.val (.ref x), .val (.ref b)] [])
  have KK3 : Keep h0 h1 [x] := ((Keep.refl h0 [x]).trans K1 (allS (Or.inl (List.mem_of_getElem? (i := 0) rfl)) all0))
  exact Wk.ret0' X1 hx hlk hr (hb hby d3_9) (by decide) (by decide) (Qc := Q_rm_ic_32 Z x b kc G1 za zb zc h0) e1 ⟨t1, kb1, rfl, N1, KK3, q1_0, q1_1, q1_2, q1_3, q1_4⟩
theorem d4_8 : decode jdk_42_method_149_code 8 = .ok (.aload_n 0, 1) := by decide +kernel
theorem d4_9 : decode jdk_42_method_149_code 9 = .ok (.ldc 7, 2) := by decide +kernel
theorem d4_11 : decode jdk_42_method_149_code 11 = .ok (.getfield 9, 3) := by decide +kernel
theorem d4_14 : decode jdk_42_method_149_code 14 = .ok (.putfield 9, 3) := by decide +kernel
theorem d4_17 : decode jdk_42_method_149_code 17 = .ok (.aload_n 0, 1) := by decide +kernel
theorem d4_18 : decode jdk_42_method_149_code 18 = .ok (.ldc 7, 2) := by decide +kernel
theorem d4_20 : decode jdk_42_method_149_code 20 = .ok (.getfield 15, 3) := by decide +kernel
theorem d4_23 : decode jdk_42_method_149_code 23 = .ok (.putfield 15, 3) := by decide +kernel
theorem d4_26 : decode jdk_42_method_149_code 26 = .ok (.return_, 1) := by decide +kernel
def Q_rm_svO (Z : State) (x : Addr) (b : Addr) (Ts : List String) (la : Addr) (lt : Addr) (lk : ClassId) (h0 : Heap) (v : Option Value) (vm : Vm) (h : Heap) (L : List Loc) : Prop := v = none ∧ Fk h0.size [x] L ∧ Keep h0 h [x] ∧ Exa Z h x "java/lang/String" ∧ Fld Z h x "java/lang/String" "coder" "B" (.int (0 : Int32)) ∧ Fld Z h x "java/lang/String" "value" "[B" (.ref lt) ∧ Exa Z h la "java/lang/String" ∧ Fld Z h la "java/lang/String" "coder" "B" (.int (0 : Int32)) ∧ Fld Z h la "java/lang/String" "value" "[B" (.ref lt) ∧ Arv Z h lt lk .byte (0 : Int32) [] (.int (0 : Int32)) ∧ IB Z vm Ts ∧ LitV Z vm "java/lang/String" 7 la
set_option maxRecDepth 65536 in
set_option maxHeartbeats 40000000 in
theorem rm_svO (l : Launch) (Z : State) (a0 : Array Value) (hw : ∀ d ∈ tables_1, d.before a0 Z = true) (ws : List Jvm.Cond) (x : Addr) (b : Addr) (Ts : List String) (la : Addr) (lt : Addr) (lk : ClassId) (h0 : Heap) (O0 : Old Z Z.heap.size h0) (hcw : Jvm.Lit.compactW.before a0 Z = true) (hheld : ∀ d ∈ consts_1, Jvm.Lit.constHeld Z d.1 d.2) (hE : Exa Z h0 x "java/lang/String") (hV : Fld Z h0 x "java/lang/String" "value" "[B" .null) (hC : Fld Z h0 x "java/lang/String" "coder" "B" (.int (0 : Int32))) (hxz : Z.heap.size ≤ x) (hl0 : Exa Z h0 la "java/lang/String") (hl1 : Fld Z h0 la "java/lang/String" "coder" "B" (.int (0 : Int32))) (hl2 : Fld Z h0 la "java/lang/String" "value" "[B" (.ref lt)) (hl3 : Arv Z h0 lt lk .byte (0 : Int32) [] (.int (0 : Int32))) (hxl : x ≠ la) :
    CtrW l Z (⟨"java/lang/String", "<init>", "([CIILjava/lang/Void;)V"⟩ : MethodName) jdk_42_method_149_code 6 none ws ({ frames := 1, cells := 2, slots := 4, locals := 12 } : Room) #[(.ref x), (.ref b), (.int (0 : Int32)), (.int (0 : Int32)), .null] h0 (fun vm => IB Z vm Ts ∧ LitV Z vm "java/lang/String" 7 la) (Q_rm_svO Z x b Ts la lt lk h0) := by
  refine CtrW.intro (Ls := fun _ => #[.val (.ref x), .val (.ref b), .val (.int (0 : Int32)), .val (.int (0 : Int32)), .val .null, .unset]) (plainFor_of_name pn7) (fun m => by first | rfl | (simp [entryFrame, mkF, argsToLocals, Value.category]; done)) ?_
  intro p e s m below meth c s₁ vm hx hby hml hr hlk hZ hown hnm hs0 X0 e0 hS hPv
  obtain ⟨I0, LV0⟩ := hPv
  have w : ∀ (k : Nat) (d : Jvm.Cond), tables_1[k]? = some d → d.before a0 Z = true := fun k d q => hw d (List.mem_of_getElem? q)
  have N0 := Fk.nil h0.size [x]
  refine Wk.aloadN X0 hx (hb hby d4_0) rfl rfl rfl ?_
  refine Wk.objinit X0 hx hZ hown (w 19 _ rfl) (w 20 _ rfl) (w 21 _ rfl) e0 (by rw [hml]; rfl) (hb hby d4_1) rfl (by decide) 0 (Nat.le_of_eq rfl) (by decide) ?_
  intro T1 X1 e1
  refine Wk.iloadN X1 hx (hb hby d4_4) rfl rfl ?_
  refine Wk.ifNo X1 hx (hb hby d4_5) rfl ((if0 _ _).trans (teq (by decide : (0 : Int32) = (0 : Int32))).2) ?_
  refine Wk.aloadN X1 hx (hb hby d4_8) rfl rfl rfl ?_
  refine Wk.ldcOld X1 hx hZ hown (w 22 _ rfl) LV0 (hb hby d4_9) rfl ?_
  refine Wk.getfield X1 hx hZ hown (host := "") (Or.inl (w 28 _ rfl)) Via.refl e1 hl2 (hb hby d4_11) rfl ?_
  intro T2 X2 e2
  refine Wk.putfield X2 hx hZ hown (host := "") (Or.inl (w 28 _ rfl)) Via.refl e2 hV hE (Or.inr ⟨(w 24 _ rfl), rfl, hnm⟩) (w 9 _ rfl) (ty := (.array .byte)) (by decide) rfl rfl (hb hby d4_14) rfl ?_
  intro T3 h3 L3 M3 X3 e3 W3 Fw3
  have N3 := M3 _ _ N0 (Or.inl (List.mem_of_getElem? (i := 0) rfl))
  have O4 : Old Z Z.heap.size h3 := O0.wr W3 hxz
  have f5 : Fld Z h3 x "java/lang/String" "coder" "B" (.int (0 : Int32)) := hC.other W3 (Or.inr (slot_ne (Or.inr (w 25 _ rfl)) (Or.inr (w 24 _ rfl)) (by decide) (t := .byte) (t' := (.array .byte)) (by decide) (by decide)))
  have E3' : Exa Z h3 x "java/lang/String" := hE.wr W3
  refine Wk.aloadN X3 hx (hb hby d4_17) rfl rfl rfl ?_
  refine Wk.ldcOld X3 hx hZ hown (w 22 _ rfl) LV0 (hb hby d4_18) rfl ?_
  have KK6 : Keep h0 h3 [x] := ((Keep.refl h0 [x]).wr W3 (Or.inl (List.mem_of_getElem? (i := 0) rfl)))
  have f7 : Fld Z h3 la "java/lang/String" "coder" "B" (.int (0 : Int32)) := (hl1.keep KK6 (ninS (Ne.symm hxl) nin0))
  refine Wk.getfield X3 hx hZ hown (host := "") (Or.inl (w 29 _ rfl)) Via.refl e3 f7 (hb hby d4_20) rfl ?_
  intro T8 X8 e8
  refine Wk.putfieldN X8 hx hZ hown (w 29 _ rfl) Via.refl e8 (v' := (.int (0 : Int32))) f5 E3' (Or.inr ⟨(w 25 _ rfl), rfl, hnm⟩) (w 9 _ rfl) (ty := .byte) (by decide) rfl rfl (hb hby d4_23) rfl ?_
  intro T9 h9 L9 M9 X9 e9 W9 Fw9
  have N9 := M9 _ _ N3 (Or.inl (List.mem_of_getElem? (i := 0) rfl))
  have O10 : Old Z Z.heap.size h9 := O4.wr W9 hxz
  have f11 : Fld Z h9 x "java/lang/String" "value" "[B" (.ref lt) := Fw3.other W9 (Or.inr (slot_ne (Or.inr (w 24 _ rfl)) (Or.inr (w 25 _ rfl)) (by decide) (t := (.array .byte)) (t' := .byte) (by decide) (by decide)))
  have E9' : Exa Z h9 x "java/lang/String" := E3'.wr W9
  have KK12 : Keep h0 h9 [x] := (KK6.wr W9 (Or.inl (List.mem_of_getElem? (i := 0) rfl)))
  have f13 : Exa Z h9 la "java/lang/String" := (hl0.keep KK12)
  have KK14 : Keep h3 h9 [x] := ((Keep.refl h3 [x]).wr W9 (Or.inl (List.mem_of_getElem? (i := 0) rfl)))
  have f15 : Fld Z h9 la "java/lang/String" "coder" "B" (.int (0 : Int32)) := (f7.keep KK14 (ninS (Ne.symm hxl) nin0))
  have f16 : Fld Z h9 la "java/lang/String" "value" "[B" (.ref lt) := (hl2.keep KK12 (ninS (Ne.symm hxl) nin0))
  have f17 : Arv Z h9 lt lk .byte (0 : Int32) [] (.int (0 : Int32)) := (hl3.keep KK12 (ninS (Ne.symm (Exa.neArv hE hl3 (w 9 _ rfl))) nin0))
  exact Wk.ret0W X9 hx hS (Nat.le_trans (Nat.le_refl _) KK12.1) hlk hr (hb hby d4_26) (by decide) (by decide) (Qc := Q_rm_svO Z x b Ts la lt lk h0) e9 (fun vm' hw' => ⟨rfl, N9, KK12, E9', Fw9, f11, f13, f15, f16, f17, (ibWarm I0 hw'), (LV0.warm hw'.wide)⟩)
def Q_rm_svN (Z : State) (x : Addr) (b : Addr) (Ts : List String) (h0 : Heap) (v : Option Value) (vm : Vm) (h : Heap) (L : List Loc) : Prop := ∃ la : Addr, ∃ lt : Addr, ∃ lk : ClassId, v = none ∧ Fk h0.size [x] L ∧ Keep h0 h [x] ∧ Exa Z h x "java/lang/String" ∧ Fld Z h x "java/lang/String" "coder" "B" (.int (0 : Int32)) ∧ Fld Z h x "java/lang/String" "value" "[B" (.ref lt) ∧ Exa Z h la "java/lang/String" ∧ Fld Z h la "java/lang/String" "coder" "B" (.int (0 : Int32)) ∧ Fld Z h la "java/lang/String" "value" "[B" (.ref lt) ∧ Arv Z h lt lk .byte (0 : Int32) [] (.int (0 : Int32)) ∧ IB Z vm ("" :: Ts) ∧ LitV Z vm "java/lang/String" 7 la
set_option maxRecDepth 65536 in
set_option maxHeartbeats 40000000 in
theorem rm_svN (l : Launch) (Z : State) (a0 : Array Value) (hw : ∀ d ∈ tables_1, d.before a0 Z = true) (ws : List Jvm.Cond) (x : Addr) (b : Addr) (Ts : List String) (h0 : Heap) (O0 : Old Z Z.heap.size h0) (hcw : Jvm.Lit.compactW.before a0 Z = true) (hheld : ∀ d ∈ consts_1, Jvm.Lit.constHeld Z d.1 d.2) (hE : Exa Z h0 x "java/lang/String") (hV : Fld Z h0 x "java/lang/String" "value" "[B" .null) (hC : Fld Z h0 x "java/lang/String" "coder" "B" (.int (0 : Int32))) (hxz : Z.heap.size ≤ x) (hnot : "" ∉ Ts) :
    CtrW l Z (⟨"java/lang/String", "<init>", "([CIILjava/lang/Void;)V"⟩ : MethodName) jdk_42_method_149_code 6 none ws ({ frames := 1, cells := 2, slots := 4, locals := 12 } : Room) #[(.ref x), (.ref b), (.int (0 : Int32)), (.int (0 : Int32)), .null] h0 (fun vm => IB Z vm Ts) (Q_rm_svN Z x b Ts h0) := by
  refine CtrW.intro (Ls := fun _ => #[.val (.ref x), .val (.ref b), .val (.int (0 : Int32)), .val (.int (0 : Int32)), .val .null, .unset]) (plainFor_of_name pn7) (fun m => by first | rfl | (simp [entryFrame, mkF, argsToLocals, Value.category]; done)) ?_
  intro p e s m below meth c s₁ vm hx hby hml hr hlk hZ hown hnm hs0 X0 e0 hS hPv
  have I0 := hPv
  have w : ∀ (k : Nat) (d : Jvm.Cond), tables_1[k]? = some d → d.before a0 Z = true := fun k d q => hw d (List.mem_of_getElem? q)
  have N0 := Fk.nil h0.size [x]
  refine Wk.aloadN X0 hx (hb hby d4_0) rfl rfl rfl ?_
  refine Wk.objinit X0 hx hZ hown (w 19 _ rfl) (w 20 _ rfl) (w 21 _ rfl) e0 (by rw [hml]; rfl) (hb hby d4_1) rfl (by decide) 0 (Nat.le_of_eq rfl) (by decide) ?_
  intro T1 X1 e1
  refine Wk.iloadN X1 hx (hb hby d4_4) rfl rfl ?_
  refine Wk.ifNo X1 hx (hb hby d4_5) rfl ((if0 _ _).trans (teq (by decide : (0 : Int32) = (0 : Int32))).2) ?_
  refine Wk.aloadN X1 hx (hb hby d4_8) rfl rfl rfl ?_
  have wS : ∀ a ∈ Bundle.stringAtoms, a.before a0 Z = true := fun d hd => hw d ((by decide +kernel : ∀ d ∈ Bundle.stringAtoms, d ∈ tables_1) d hd)
  refine Wk.ldcNew X1 hx hZ hown (w 22 _ rfl) wS e1 hS (Nat.le_refl _) (Fr.nil _) (by rw [hs0]; exact O0) I0 hnot (hheld _ (List.mem_of_getElem? (i := 0) rfl)) hcw (vs := []) (z := (0 : Int32)) (by decide +kernel) (by decide) rfl (hb hby d4_9) rfl 0 (by decide) (by decide) (by decide) (by decide) ?_
  intro T2 h2 a2 b2 kb2 vm2 X2 e2 E2 hS2 hZ2 ho2 w39_2 A2 C2 V2 B2 I2 Lv2
  have O3 : Old Z Z.heap.size h2 := O0.ext E2
  have KK5 : Keep h0 h2 [] := ((Keep.refl h0 []).ext E2)
  have f6 : Fld Z h2 x "java/lang/String" "value" "[B" .null := (hV.keep KK5 nin0)
  have ne4 : a2 ≠ x := Fld.ne V2 f6 nofun
  refine Wk.getfield X2 hx hZ2 ho2 (host := "") (Or.inl (w 28 _ rfl)) Via.refl e2 V2 (hb hby d4_11) rfl ?_
  intro T7 X7 e7
  have f8 : Exa Z h2 x "java/lang/String" := (hE.keep KK5)
  have f10 : Fld Z h2 x "java/lang/String" "coder" "B" (.int (0 : Int32)) := (hC.keep KK5 nin0)
  refine Wk.putfield X7 hx hZ2 ho2 (host := "") (Or.inl (w 28 _ rfl)) Via.refl e7 f6 f8 (Or.inr ⟨(w 24 _ rfl), rfl, hnm⟩) (w 9 _ rfl) (ty := (.array .byte)) (by decide) rfl rfl (hb hby d4_14) rfl ?_
  intro T9 h9 L9 M9 X9 e9 W9 Fw9
  have N9 := M9 _ _ N0 (Or.inl (List.mem_of_getElem? (i := 0) rfl))
  have O11 : Old Z Z.heap.size h9 := O3.wr W9 hxz
  have f12 : Fld Z h9 x "java/lang/String" "coder" "B" (.int (0 : Int32)) := f10.other W9 (Or.inr (slot_ne (Or.inr (w 25 _ rfl)) (Or.inr (w 24 _ rfl)) (by decide) (t := .byte) (t' := (.array .byte)) (by decide) (by decide)))
  have E9' : Exa Z h9 x "java/lang/String" := f8.wr W9
  refine Wk.aloadN X9 hx (hb hby d4_17) rfl rfl rfl ?_
  refine Wk.ldcOld X9 hx hZ2 ho2 (w 22 _ rfl) Lv2 (hb hby d4_18) rfl ?_
  have KK13 : Keep h2 h9 [x] := ((Keep.refl h2 [x]).wr W9 (Or.inl (List.mem_of_getElem? (i := 0) rfl)))
  have f14 : Fld Z h9 a2 "java/lang/String" "coder" "B" (.int (0 : Int32)) := (C2.keep KK13 (ninS ne4 nin0))
  refine Wk.getfield X9 hx hZ2 ho2 (host := "") (Or.inl (w 29 _ rfl)) Via.refl e9 f14 (hb hby d4_20) rfl ?_
  intro T15 X15 e15
  refine Wk.putfieldN X15 hx hZ2 ho2 (w 29 _ rfl) Via.refl e15 (v' := (.int (0 : Int32))) f12 E9' (Or.inr ⟨(w 25 _ rfl), rfl, hnm⟩) (w 9 _ rfl) (ty := .byte) (by decide) rfl rfl (hb hby d4_23) rfl ?_
  intro T16 h16 L16 M16 X16 e16 W16 Fw16
  have N16 := M16 _ _ N9 (Or.inl (List.mem_of_getElem? (i := 0) rfl))
  have O17 : Old Z Z.heap.size h16 := O11.wr W16 hxz
  have f18 : Fld Z h16 x "java/lang/String" "value" "[B" (.ref b2) := Fw9.other W16 (Or.inr (slot_ne (Or.inr (w 24 _ rfl)) (Or.inr (w 25 _ rfl)) (by decide) (t := (.array .byte)) (t' := .byte) (by decide) (by decide)))
  have E16' : Exa Z h16 x "java/lang/String" := E9'.wr W16
  have KK19 : Keep h0 h16 [x] := ((((Keep.refl h0 [x]).ext E2).wr W9 (Or.inl (List.mem_of_getElem? (i := 0) rfl))).wr W16 (Or.inl (List.mem_of_getElem? (i := 0) rfl)))
  have KK20 : Keep h2 h16 [x] := (KK13.wr W16 (Or.inl (List.mem_of_getElem? (i := 0) rfl)))
  have f21 : Exa Z h16 a2 "java/lang/String" := (A2.keep KK20)
  have KK22 : Keep h9 h16 [x] := ((Keep.refl h9 [x]).wr W16 (Or.inl (List.mem_of_getElem? (i := 0) rfl)))
  have f23 : Fld Z h16 a2 "java/lang/String" "coder" "B" (.int (0 : Int32)) := (f14.keep KK22 (ninS ne4 nin0))
  have f24 : Fld Z h16 a2 "java/lang/String" "value" "[B" (.ref b2) := (V2.keep KK20 (ninS ne4 nin0))
  have f25 : Arv Z h16 b2 kb2 .byte (0 : Int32) [] (.int (0 : Int32)) := (B2.keep KK20 (ninS (Ne.symm (Exa.neArv f8 B2 (w 9 _ rfl))) nin0))
  exact Wk.ret0W X16 hx hS2 (Nat.le_trans (Nat.le_refl _) KK20.1) hlk hr (hb hby d4_26) (by decide) (by decide) (Qc := Q_rm_svN Z x b Ts h0) e16 (fun vm' hw' => ⟨a2, b2, kb2, rfl, N16, KK19, E16', Fw16, f18, f21, f23, f24, f25, (ibWarm I2 hw'), (Lv2.warm hw'.wide)⟩)
def Q_rm_s0O (Z : State) (x : Addr) (b : Addr) (kc : ClassId) (vs : List Value) (dv : Value) (Ts : List String) (la : Addr) (lt : Addr) (lk : ClassId) (h0 : Heap) (v : Option Value) (vm : Vm) (h : Heap) (L : List Loc) : Prop := v = none ∧ Fk h0.size [x] L ∧ Keep h0 h [x] ∧ Exa Z h x "java/lang/String" ∧ Fld Z h x "java/lang/String" "coder" "B" (.int (0 : Int32)) ∧ Fld Z h x "java/lang/String" "value" "[B" (.ref lt) ∧ Exa Z h la "java/lang/String" ∧ Fld Z h la "java/lang/String" "coder" "B" (.int (0 : Int32)) ∧ Fld Z h la "java/lang/String" "value" "[B" (.ref lt) ∧ Arv Z h lt lk .byte (0 : Int32) [] (.int (0 : Int32)) ∧ IB Z vm Ts ∧ LitV Z vm "java/lang/String" 7 la
set_option maxRecDepth 65536 in
set_option maxHeartbeats 40000000 in
theorem rm_s0O (l : Launch) (Z : State) (a0 : Array Value) (hw : ∀ d ∈ tables_1, d.before a0 Z = true) (ws : List Jvm.Cond) (x : Addr) (b : Addr) (kc : ClassId) (vs : List Value) (dv : Value) (Ts : List String) (la : Addr) (lt : Addr) (lk : ClassId) (h0 : Heap) (O0 : Old Z Z.heap.size h0) (hcw : Jvm.Lit.compactW.before a0 Z = true) (hheld : ∀ d ∈ consts_1, Jvm.Lit.constHeld Z d.1 d.2) (hE : Exa Z h0 x "java/lang/String") (hV : Fld Z h0 x "java/lang/String" "value" "[B" .null) (hC : Fld Z h0 x "java/lang/String" "coder" "B" (.int (0 : Int32))) (hxz : Z.heap.size ≤ x) (hb_ : Arv Z h0 b kc .char (0 : Int32) vs dv) (hl0 : Exa Z h0 la "java/lang/String") (hl1 : Fld Z h0 la "java/lang/String" "coder" "B" (.int (0 : Int32))) (hl2 : Fld Z h0 la "java/lang/String" "value" "[B" (.ref lt)) (hl3 : Arv Z h0 lt lk .byte (0 : Int32) [] (.int (0 : Int32))) (hxl : x ≠ la) :
    CtrW l Z (⟨"java/lang/String", "<init>", "([C)V"⟩ : MethodName) jdk_42_method_3_code 2 none ws ({ frames := 2, cells := 2, slots := 4, locals := 29 } : Room) #[(.ref x), (.ref b)] h0 (fun vm => IB Z vm Ts ∧ LitV Z vm "java/lang/String" 7 la) (Q_rm_s0O Z x b kc vs dv Ts la lt lk h0) := by
  refine CtrW.intro (Ls := fun _ => #[.val (.ref x), .val (.ref b)]) (plainFor_of_name pn7) (fun m => by first | rfl | (simp [entryFrame, mkF, argsToLocals, Value.category]; done)) ?_
  intro p e s m below meth c s₁ vm hx hby hml hr hlk hZ hown hnm hs0 X0 e0 hS hPv
  obtain ⟨I0, LV0⟩ := hPv
  have w : ∀ (k : Nat) (d : Jvm.Cond), tables_1[k]? = some d → d.before a0 Z = true := fun k d q => hw d (List.mem_of_getElem? q)
  have N0 := Fk.nil h0.size [x]
  refine Wk.aloadN X0 hx (hb hby d3_0) rfl rfl rfl ?_
  refine Wk.aloadN X0 hx (hb hby d3_1) rfl rfl rfl ?_
  refine Wk.iconst X0 hx (v := (0 : Int32)) (hb hby d3_2) rfl rfl ?_
  refine Wk.aloadN X0 hx (hb hby d3_3) rfl rfl rfl ?_
  refine Wk.arraylength X0 hx hZ e0 hb_ (hb hby d3_4) rfl ?_
  refine Wk.aconstNull X0 hx (hb hby d3_5) rfl ?_
  refine Wk.callIW X0 hx hS (Nat.le_refl _) hZ rfl hown (w 15 _ rfl) (w 16 _ rfl) (w 18 _ rfl) (by decide) (as' := [(.ref b), (.int (0 : Int32)), (.int (0 : Int32)), .null]) (payW (W := 0) (rm_svO l Z a0 hw [] x b Ts la lt lk h0 O0 hcw hheld hE hV hC hxz hl0 hl1 hl2 hl3 hxl) (s := s.setVm vm) hZ (w 18 _ rfl) (w 10 _ rfl) (by decide) (by decide) (fun _ q => ⟨ibWarm I0 q, LV0.warm q.wide⟩)) e0 (by rw [hml]; rfl) (rest := []) (lenOf pd9 rfl) rfl (Nat.le_of_eq rfl) (hb hby d3_6) rfl (by decide) (by decide) ?_
  intro T1 h1 v1 L1 vm1 X1 e1 hS1 hZ1 ho1 w39_1 hQ1
  obtain ⟨rfl, Nq1, K1, q1_0, q1_1, q1_2, q1_3, q1_4, q1_5, q1_6, y1_0, y1_1⟩ := hQ1
  have N1 := Fk.app N0 Nq1 (Nat.le_refl _) (allS (Or.inl (List.mem_of_getElem? (i := 0) rfl)) all0)
  have O2 : Old Z Z.heap.size h1 := O0.keep K1 (allS hxz all0)
  show Wp p e below _ _ T1 (mkF m 9 #[.val (.ref x), .val (.ref b)] [])
  have KK3 : Keep h0 h1 [x] := ((Keep.refl h0 [x]).trans K1 (allS (Or.inl (List.mem_of_getElem? (i := 0) rfl)) all0))
  exact Wk.ret0W X1 hx hS1 (Nat.le_refl _) hlk hr (hb hby d3_9) (by decide) (by decide) (Qc := Q_rm_s0O Z x b kc vs dv Ts la lt lk h0) e1 (fun vm' hw' => ⟨rfl, N1, KK3, q1_0, q1_1, q1_2, q1_3, q1_4, q1_5, q1_6, (ibWarm y1_0 hw'), (y1_1.warm hw'.wide)⟩)
def Q_rm_s0N (Z : State) (x : Addr) (b : Addr) (kc : ClassId) (vs : List Value) (dv : Value) (Ts : List String) (h0 : Heap) (v : Option Value) (vm : Vm) (h : Heap) (L : List Loc) : Prop := ∃ la : Addr, ∃ lt : Addr, ∃ lk : ClassId, v = none ∧ Fk h0.size [x] L ∧ Keep h0 h [x] ∧ Exa Z h x "java/lang/String" ∧ Fld Z h x "java/lang/String" "coder" "B" (.int (0 : Int32)) ∧ Fld Z h x "java/lang/String" "value" "[B" (.ref lt) ∧ Exa Z h la "java/lang/String" ∧ Fld Z h la "java/lang/String" "coder" "B" (.int (0 : Int32)) ∧ Fld Z h la "java/lang/String" "value" "[B" (.ref lt) ∧ Arv Z h lt lk .byte (0 : Int32) [] (.int (0 : Int32)) ∧ IB Z vm ("" :: Ts) ∧ LitV Z vm "java/lang/String" 7 la
set_option maxRecDepth 65536 in
set_option maxHeartbeats 40000000 in
theorem rm_s0N (l : Launch) (Z : State) (a0 : Array Value) (hw : ∀ d ∈ tables_1, d.before a0 Z = true) (ws : List Jvm.Cond) (x : Addr) (b : Addr) (kc : ClassId) (vs : List Value) (dv : Value) (Ts : List String) (h0 : Heap) (O0 : Old Z Z.heap.size h0) (hcw : Jvm.Lit.compactW.before a0 Z = true) (hheld : ∀ d ∈ consts_1, Jvm.Lit.constHeld Z d.1 d.2) (hE : Exa Z h0 x "java/lang/String") (hV : Fld Z h0 x "java/lang/String" "value" "[B" .null) (hC : Fld Z h0 x "java/lang/String" "coder" "B" (.int (0 : Int32))) (hxz : Z.heap.size ≤ x) (hb_ : Arv Z h0 b kc .char (0 : Int32) vs dv) (hnot : "" ∉ Ts) :
    CtrW l Z (⟨"java/lang/String", "<init>", "([C)V"⟩ : MethodName) jdk_42_method_3_code 2 none ws ({ frames := 2, cells := 2, slots := 4, locals := 29 } : Room) #[(.ref x), (.ref b)] h0 (fun vm => IB Z vm Ts) (Q_rm_s0N Z x b kc vs dv Ts h0) := by
  refine CtrW.intro (Ls := fun _ => #[.val (.ref x), .val (.ref b)]) (plainFor_of_name pn7) (fun m => by first | rfl | (simp [entryFrame, mkF, argsToLocals, Value.category]; done)) ?_
  intro p e s m below meth c s₁ vm hx hby hml hr hlk hZ hown hnm hs0 X0 e0 hS hPv
  have I0 := hPv
  have w : ∀ (k : Nat) (d : Jvm.Cond), tables_1[k]? = some d → d.before a0 Z = true := fun k d q => hw d (List.mem_of_getElem? q)
  have N0 := Fk.nil h0.size [x]
  refine Wk.aloadN X0 hx (hb hby d3_0) rfl rfl rfl ?_
  refine Wk.aloadN X0 hx (hb hby d3_1) rfl rfl rfl ?_
  refine Wk.iconst X0 hx (v := (0 : Int32)) (hb hby d3_2) rfl rfl ?_
  refine Wk.aloadN X0 hx (hb hby d3_3) rfl rfl rfl ?_
  refine Wk.arraylength X0 hx hZ e0 hb_ (hb hby d3_4) rfl ?_
  refine Wk.aconstNull X0 hx (hb hby d3_5) rfl ?_
  refine Wk.callIW X0 hx hS (Nat.le_refl _) hZ rfl hown (w 15 _ rfl) (w 16 _ rfl) (w 18 _ rfl) (by decide) (as' := [(.ref b), (.int (0 : Int32)), (.int (0 : Int32)), .null]) (payW (W := 0) (rm_svN l Z a0 hw [] x b Ts h0 O0 hcw hheld hE hV hC hxz hnot) (s := s.setVm vm) hZ (w 18 _ rfl) (w 10 _ rfl) (by decide) (by decide) (fun _ q => ibWarm I0 q)) e0 (by rw [hml]; rfl) (rest := []) (lenOf pd9 rfl) rfl (Nat.le_of_eq rfl) (hb hby d3_6) rfl (by decide) (by decide) ?_
  intro T1 h1 v1 L1 vm1 X1 e1 hS1 hZ1 ho1 w39_1 hQ1
  obtain ⟨la1, lt1, lk1, rfl, Nq1, K1, q1_0, q1_1, q1_2, q1_3, q1_4, q1_5, q1_6, y1_0, y1_1⟩ := hQ1
  have N1 := Fk.app N0 Nq1 (Nat.le_refl _) (allS (Or.inl (List.mem_of_getElem? (i := 0) rfl)) all0)
  have O2 : Old Z Z.heap.size h1 := O0.keep K1 (allS hxz all0)
  show Wp p e below _ _ T1 (mkF m 9 #[.val (.ref x), .val (.ref b)] [])
  have KK3 : Keep h0 h1 [x] := ((Keep.refl h0 [x]).trans K1 (allS (Or.inl (List.mem_of_getElem? (i := 0) rfl)) all0))
  exact Wk.ret0W X1 hx hS1 (Nat.le_refl _) hlk hr (hb hby d3_9) (by decide) (by decide) (Qc := Q_rm_s0N Z x b kc vs dv Ts h0) e1 (fun vm' hw' => ⟨la1, lt1, lk1, rfl, N1, KK3, q1_0, q1_1, q1_2, q1_3, q1_4, q1_5, q1_6, (ibWarm y1_0 hw'), (y1_1.warm hw'.wide)⟩)
theorem pn10 : plainName "com/example/visad/visad/identity/CharactersWithinPinLaw" = true := by first | (simp [plainName, overriddenIn]; done) | decide +kernel
theorem d2_0 : decode method_5_code 0 = .ok (.iload_n 0, 1) := by decide +kernel
theorem d2_1 : decode method_5_code 1 = .ok (.ifCond .ne 14, 3) := by decide +kernel
theorem d2_4 : decode method_5_code 4 = .ok (.new 12, 3) := by decide +kernel
theorem d2_7 : decode method_5_code 7 = .ok (.dup, 1) := by decide +kernel
theorem d2_8 : decode method_5_code 8 = .ok (.iconst 0, 1) := by decide +kernel
theorem d2_9 : decode method_5_code 9 = .ok (.newarray .char, 2) := by decide +kernel
theorem d2_11 : decode method_5_code 11 = .ok (.invokespecial 14, 3) := by decide +kernel
theorem pd11 : parseMethodDescriptor "([C)V" = some ⟨[(.array .char)], none⟩ := by decide +kernel
theorem d2_14 : decode method_5_code 14 = .ok (.areturn, 1) := by decide +kernel
def Q_rm_mk0 (Z : State) (za : Int32) (zb : Int32) (zc : Int32) (Ts : List String) (G1 : Int32) (h0 : Heap) (v : Option Value) (vm : Vm) (h : Heap) (L : List Loc) : Prop := ∃ x : Addr, ∃ t : Addr, ∃ kb : ClassId, ∃ lb : List Value, v = some (.ref x) ∧ Fk h0.size [] L ∧ Keep h0 h [] ∧ Exa Z h x "java/lang/String" ∧ Fld Z h x "java/lang/String" "coder" "B" (.int (0 : Int32)) ∧ Fld Z h x "java/lang/String" "value" "[B" (.ref t) ∧ Arv Z h t kb .byte (0 : Int32) lb (.int (0 : Int32))
set_option maxRecDepth 65536 in
set_option maxHeartbeats 40000000 in
theorem rm_mk0 (l : Launch) (Z : State) (a0 : Array Value) (hw : ∀ d ∈ tables_1, d.before a0 Z = true) (ws : List Jvm.Cond) (za : Int32) (zb : Int32) (zc : Int32) (Ts : List String) (G1 : Int32) (h0 : Heap) (O0 : Old Z Z.heap.size h0) (hcw : Jvm.Lit.compactW.before a0 Z = true) (hheld : ∀ d ∈ consts_1, Jvm.Lit.constHeld Z d.1 d.2) (SG1 : Sta Z Z.heap "java/lang/String" "COMPACT_STRINGS" "Z" (.int G1)) (nG1 : ¬ G1 = 0) (hnot : "" ∉ Ts) :
    CtrW l Z (⟨"com/example/visad/visad/identity/CharactersWithinPinLaw", "make", "(ICCC)Ljava/lang/String;"⟩ : MethodName) method_5_code 4 (some (.object "java/lang/String")) ws ({ frames := 3, cells := 4, slots := 8, locals := 43 } : Room) #[(.int (0 : Int32)), (.int za), (.int zb), (.int zc)] h0 (fun vm => IB Z vm Ts) (Q_rm_mk0 Z za zb zc Ts G1 h0) := by
  refine CtrW.intro (Ls := fun _ => #[.val (.int (0 : Int32)), .val (.int za), .val (.int zb), .val (.int zc)]) (plainFor_of_name pn10) (fun m => by first | rfl | (simp [entryFrame, mkF, argsToLocals, Value.category]; done)) ?_
  intro p e s m below meth c s₁ vm hx hby hml hr hlk hZ hown hnm hs0 X0 e0 hS hPv
  have I0 := hPv
  have w : ∀ (k : Nat) (d : Jvm.Cond), tables_1[k]? = some d → d.before a0 Z = true := fun k d q => hw d (List.mem_of_getElem? q)
  have N0 := Fk.nil h0.size []
  refine Wk.iloadN X0 hx (hb hby d2_0) rfl rfl ?_
  refine Wk.ifNo X0 hx (hb hby d2_1) rfl ((if0 _ _).trans (teq (by decide : (0 : Int32) = (0 : Int32))).2) ?_
  refine Wk.new X0 hx hZ hown (w 8 _ rfl) (w 9 _ rfl) (w 10 _ rfl) e0 (hb hby d2_4) rfl (by decide) (by decide) ?_
  intro T1 h1 a1 g1 X1 e1 E1 A1 D1
  have O2 : Old Z Z.heap.size h1 := O0.ext E1
  have f3 : Fld Z h1 a1 "java/lang/String" "value" "[B" .null := D1 (Or.inr (w 24 _ rfl)) (ty := (.array .byte)) (by decide)
  have f4 : Fld Z h1 a1 "java/lang/String" "coder" "B" (.int (0 : Int32)) := D1 (Or.inr (w 25 _ rfl)) (ty := .byte) (by decide)
  refine Wk.dup X1 hx (hb hby d2_7) rfl rfl ?_
  refine Wk.iconst X1 hx (v := (0 : Int32)) (hb hby d2_8) rfl rfl ?_
  refine Wk.newarray X1 hx hZ (w 11 _ rfl) e1 (hb hby d2_9) rfl (by decide) 0 (by decide) (by decide) (by decide) (by decide) ?_
  intro T5 h5 a5 kA5 g5 X5 e5 E5 A5
  have O6 : Old Z Z.heap.size h5 := O2.ext E5
  have V5 : Arv Z h5 a5 kA5 .char (0 : Int32) [] (.int (0 : Int32)) := A5.pad (pad_rep [] (.int (0 : Int32)) 0)
  have KK7 : Keep h1 h5 [] := ((Keep.refl h1 []).ext E5)
  have f8 : Exa Z h5 a1 "java/lang/String" := (A1.keep KK7)
  have f9 : Fld Z h5 a1 "java/lang/String" "value" "[B" .null := (f3.keep KK7 nin0)
  have f10 : Fld Z h5 a1 "java/lang/String" "coder" "B" (.int (0 : Int32)) := (f4.keep KK7 nin0)
  have KK12 : Keep h0 h5 [] := (((Keep.refl h0 []).ext E1).ext E5)
  refine Wk.callIW X5 hx hS (Nat.le_trans (Nat.le_refl _) KK12.1) hZ rfl hown (w 12 _ rfl) (w 13 _ rfl) (w 14 _ rfl) (by decide) (as' := [(.ref a5)]) (payW (W := 1) (rm_s0N l Z a0 hw [] a1 a5 kA5 [] (.int (0 : Int32)) Ts h5 O6 hcw hheld f8 f9 f10 (Nat.le_trans (Nat.le_trans (Nat.le_trans (Nat.le_of_eq O0.1.symm) O0.2.1) (Keep.refl h0 []).1) (Nat.le_of_eq g1)) V5 hnot) (s := s.setVm vm) hZ (w 14 _ rfl) (w 10 _ rfl) (by decide) (by decide) (fun _ q => ibWarm I0 q)) e5 (by rw [hml]; rfl) (rest := [(.ref a1)]) (lenOf pd11 rfl) rfl (Nat.le_of_eq rfl) (hb hby d2_11) rfl (by decide) (by decide) ?_
  intro T11 h11 v11 L11 vm11 X11 e11 hS11 hZ11 ho11 w39_11 hQ11
  obtain ⟨la11, lt11, lk11, rfl, Nq11, K11, q11_0, q11_1, q11_2, q11_3, q11_4, q11_5, q11_6, y11_0, y11_1⟩ := hQ11
  have N11 := Fk.app N0 Nq11 KK12.1 (allS (Or.inr (Nat.le_of_eq g1)) all0)
  have O13 : Old Z Z.heap.size h11 := O6.keep K11 (allS (Nat.le_trans (Nat.le_trans (Nat.le_trans (Nat.le_of_eq O0.1.symm) O0.2.1) (Keep.refl h0 []).1) (Nat.le_of_eq g1)) all0)
  show Wp p e below _ _ T11 (mkF m 14 #[.val (.int (0 : Int32)), .val (.int za), .val (.int zb), .val (.int zc)] [(.ref a1)])
  have KK14 : Keep h0 h11 [] := (KK12.trans K11 (allS (Or.inr (Nat.le_of_eq g1)) all0))
  exact Wk.retAW X11 hx hS11 (Nat.le_refl _) hlk hr rfl rfl (hb hby d2_14) (by decide) (by decide) (Qc := Q_rm_mk0 Z za zb zc Ts G1 h0) e11 (fun vm' hw' => ⟨a1, lt11, lk11, [], rfl, N11, KK14, q11_0, q11_1, q11_2, q11_6⟩)
theorem d2_15 : decode method_5_code 15 = .ok (.iload_n 0, 1) := by decide +kernel
theorem d2_16 : decode method_5_code 16 = .ok (.iconst 1, 1) := by decide +kernel
theorem d2_17 : decode method_5_code 17 = .ok (.if_icmp .ne 18, 3) := by decide +kernel
theorem d2_20 : decode method_5_code 20 = .ok (.new 12, 3) := by decide +kernel
theorem d2_23 : decode method_5_code 23 = .ok (.dup, 1) := by decide +kernel
theorem d2_24 : decode method_5_code 24 = .ok (.iconst 1, 1) := by decide +kernel
theorem d2_25 : decode method_5_code 25 = .ok (.newarray .char, 2) := by decide +kernel
theorem d2_27 : decode method_5_code 27 = .ok (.dup, 1) := by decide +kernel
theorem d2_28 : decode method_5_code 28 = .ok (.iconst 0, 1) := by decide +kernel
theorem d2_29 : decode method_5_code 29 = .ok (.iload_n 1, 1) := by decide +kernel
theorem d2_30 : decode method_5_code 30 = .ok (.castore, 1) := by decide +kernel
theorem d2_31 : decode method_5_code 31 = .ok (.invokespecial 14, 3) := by decide +kernel
theorem d2_34 : decode method_5_code 34 = .ok (.areturn, 1) := by decide +kernel
def Q_rm_mk10 (Z : State) (za : Int32) (zb : Int32) (zc : Int32) (G1 : Int32) (h0 : Heap) (v : Option Value) (h : Heap) (L : List Loc) : Prop := ∃ x : Addr, ∃ t : Addr, ∃ kb : ClassId, v = some (.ref x) ∧ Fk h0.size [] L ∧ Keep h0 h [] ∧ Exa Z h x "java/lang/String" ∧ Fld Z h x "java/lang/String" "coder" "B" (.int (1 : Int32)) ∧ Fld Z h x "java/lang/String" "value" "[B" (.ref t) ∧ Arv Z h t kb .byte (2 : Int32) [(.int (own_b0 za)), (.int (own_b1 za))] (.int (0 : Int32))
set_option maxRecDepth 65536 in
set_option maxHeartbeats 40000000 in
theorem rm_mk10 (l : Launch) (Z : State) (a0 : Array Value) (hw : ∀ d ∈ tables_1, d.before a0 Z = true) (ws : List Jvm.Cond) (za : Int32) (zb : Int32) (zc : Int32) (G1 : Int32) (h0 : Heap) (O0 : Old Z Z.heap.size h0) (sH : Sta Z Z.heap "java/lang/StringUTF16" "HI_BYTE_SHIFT" "I" (.int (0 : Int32))) (sL : Sta Z Z.heap "java/lang/StringUTF16" "LO_BYTE_SHIFT" "I" (.int (8 : Int32))) (sA : Sta Z Z.heap "java/lang/StringUTF16" "$assertionsDisabled" "Z" (.int (1 : Int32))) (SG1 : Sta Z Z.heap "java/lang/String" "COMPACT_STRINGS" "Z" (.int G1)) (nG1 : ¬ G1 = 0) (hcza : Chr za) (hgza : (255 : Int32) < za) :
    Ctr l Z (⟨"com/example/visad/visad/identity/CharactersWithinPinLaw", "make", "(ICCC)Ljava/lang/String;"⟩ : MethodName) method_5_code 4 (some (.object "java/lang/String")) ws ({ frames := 6, cells := 4, slots := 8, locals := 88 } : Room) #[(.int (1 : Int32)), (.int za), (.int zb), (.int zc)] h0 (Q_rm_mk10 Z za zb zc G1 h0) := by
  refine Ctr.intro (Ls := fun _ => #[.val (.int (1 : Int32)), .val (.int za), .val (.int zb), .val (.int zc)]) (plainFor_of_name pn10) (fun m => by first | rfl | (simp [entryFrame, mkF, argsToLocals, Value.category]; done)) ?_
  intro p e s m below meth c s₁ hx hby hml hr hlk hZ hown hnm hs0 X0 e0
  have w : ∀ (k : Nat) (d : Jvm.Cond), tables_1[k]? = some d → d.before a0 Z = true := fun k d q => hw d (List.mem_of_getElem? q)
  have N0 := Fk.nil h0.size []
  refine Wk.iloadN X0 hx (hb hby d2_0) rfl rfl ?_
  refine Wk.ifYes X0 hx (hb hby d2_1) (by decide) (q := 15) rfl ((if0 _ _).trans (feq (by decide : ¬ ((1 : Int32) = (0 : Int32)))).2) ?_
  refine Wk.iloadN X0 hx (hb hby d2_15) rfl rfl ?_
  refine Wk.iconst X0 hx (v := (1 : Int32)) (hb hby d2_16) rfl rfl ?_
  refine Wk.icmpNo X0 hx (hb hby d2_17) rfl (teq (by decide : (1 : Int32) = (1 : Int32))).2 ?_
  refine Wk.new X0 hx hZ hown (w 8 _ rfl) (w 9 _ rfl) (w 10 _ rfl) e0 (hb hby d2_20) rfl (by decide) (by decide) ?_
  intro T1 h1 a1 g1 X1 e1 E1 A1 D1
  have O2 : Old Z Z.heap.size h1 := O0.ext E1
  have f3 : Fld Z h1 a1 "java/lang/String" "value" "[B" .null := D1 (Or.inr (w 24 _ rfl)) (ty := (.array .byte)) (by decide)
  have f4 : Fld Z h1 a1 "java/lang/String" "coder" "B" (.int (0 : Int32)) := D1 (Or.inr (w 25 _ rfl)) (ty := .byte) (by decide)
  refine Wk.dup X1 hx (hb hby d2_23) rfl rfl ?_
  refine Wk.iconst X1 hx (v := (1 : Int32)) (hb hby d2_24) rfl rfl ?_
  refine Wk.newarray X1 hx hZ (w 11 _ rfl) e1 (hb hby d2_25) rfl (by decide) 1 (by decide) (by decide) (by decide) (by decide) ?_
  intro T5 h5 a5 kA5 g5 X5 e5 E5 A5
  have O6 : Old Z Z.heap.size h5 := O2.ext E5
  have V5 : Arv Z h5 a5 kA5 .char (1 : Int32) [(.int (0 : Int32))] (.int (0 : Int32)) := A5.pad (pad_rep [] (.int (0 : Int32)) 1)
  refine Wk.dup X5 hx (hb hby d2_27) rfl rfl ?_
  refine Wk.iconst X5 hx (v := (0 : Int32)) (hb hby d2_28) rfl rfl ?_
  refine Wk.iloadN X5 hx (hb hby d2_29) rfl rfl ?_
  refine Wk.castore X5 hx hZ e5 V5 (by decide) (by decide) 0 rfl (Nat.le_of_ble_eq_true rfl) (w := za) (narC hcza) (hb hby d2_30) rfl ?_
  intro T7 h7 L7 M7 X7 e7 W7 A7
  have KK8 : Keep h0 h1 [] := ((Keep.refl h0 []).ext E1)
  have N7 := M7 _ _ N0 (Or.inr (Nat.le_trans KK8.1 (Nat.le_of_eq g5)))
  have O9 : Old Z Z.heap.size h7 := O6.wr W7 (Nat.le_trans (Nat.le_trans (Nat.le_trans (Nat.le_of_eq O0.1.symm) O0.2.1) KK8.1) (Nat.le_of_eq g5))
  have V7 : Arv Z h7 a5 kA5 .char (1 : Int32) [(.int za)] (.int (0 : Int32)) := A7
  have KK10 : Keep h1 h7 [] := (((Keep.refl h1 []).ext E5).wr W7 (Or.inr (Nat.le_of_eq g5)))
  have f11 : Exa Z h7 a1 "java/lang/String" := (A1.keep KK10)
  have f12 : Fld Z h7 a1 "java/lang/String" "value" "[B" .null := (f3.keep KK10 nin0)
  have f13 : Fld Z h7 a1 "java/lang/String" "coder" "B" (.int (0 : Int32)) := (f4.keep KK10 nin0)
  refine Wk.callI X7 hx hZ rfl hown (w 12 _ rfl) (w 13 _ rfl) (w 14 _ rfl) (by decide) (as' := [(.ref a5)]) (backOf (W := 1) (rm_ic_10 l Z a0 hw [] a1 a5 kA5 G1 za h7 O9 sH sL sA SG1 nG1 f11 f12 f13 (Nat.le_trans (Nat.le_trans (Nat.le_trans (Nat.le_of_eq O0.1.symm) O0.2.1) (Keep.refl h0 []).1) (Nat.le_of_eq g1)) V7 hcza hgza) hZ (w 14 _ rfl) (w 10 _ rfl) (by decide) (by decide)) e7 (by rw [hml]; rfl) (rest := [(.ref a1)]) (lenOf pd11 rfl) rfl (Nat.le_of_eq rfl) (hb hby d2_31) rfl (by decide) (by decide) ?_
  intro T14 h14 v14 L14 X14 e14 hQ14
  obtain ⟨t14, kb14, rfl, Nq14, K14, q14_0, q14_1, q14_2, q14_3, q14_4⟩ := hQ14
  have KK15 : Keep h0 h7 [] := ((KK8.ext E5).wr W7 (Or.inr (Nat.le_trans KK8.1 (Nat.le_of_eq g5))))
  have N14 := Fk.app N7 Nq14 KK15.1 (allS (Or.inr (Nat.le_of_eq g1)) all0)
  have O16 : Old Z Z.heap.size h14 := O9.keep K14 (allS (Nat.le_trans (Nat.le_trans (Nat.le_trans (Nat.le_of_eq O0.1.symm) O0.2.1) (Keep.refl h0 []).1) (Nat.le_of_eq g1)) all0)
  show Wp p e below _ _ T14 (mkF m 34 #[.val (.int (1 : Int32)), .val (.int za), .val (.int zb), .val (.int zc)] [(.ref a1)])
  have KK17 : Keep h0 h14 [] := (KK15.trans K14 (allS (Or.inr (Nat.le_of_eq g1)) all0))
  exact Wk.retA' X14 hx hlk hr rfl rfl (hb hby d2_34) (by decide) (by decide) (Qc := Q_rm_mk10 Z za zb zc G1 h0) e14 ⟨a1, t14, kb14, rfl, N14, KK17, q14_1, q14_2, q14_3, q14_4⟩
def Q_rm_mk1L (Z : State) (za : Int32) (zb : Int32) (zc : Int32) (G1 : Int32) (h0 : Heap) (v : Option Value) (h : Heap) (L : List Loc) : Prop := ∃ x : Addr, ∃ t : Addr, ∃ kb : ClassId, ∃ lb : List Value, v = some (.ref x) ∧ Fk h0.size [] L ∧ Keep h0 h [] ∧ Exa Z h x "java/lang/String" ∧ Fld Z h x "java/lang/String" "coder" "B" (.int (0 : Int32)) ∧ Fld Z h x "java/lang/String" "value" "[B" (.ref t) ∧ Arv Z h t kb .byte (1 : Int32) lb (.int (0 : Int32))
set_option maxRecDepth 65536 in
set_option maxHeartbeats 40000000 in
theorem rm_mk1L (l : Launch) (Z : State) (a0 : Array Value) (hw : ∀ d ∈ tables_1, d.before a0 Z = true) (ws : List Jvm.Cond) (za : Int32) (zb : Int32) (zc : Int32) (G1 : Int32) (h0 : Heap) (O0 : Old Z Z.heap.size h0) (SG1 : Sta Z Z.heap "java/lang/String" "COMPACT_STRINGS" "Z" (.int G1)) (nG1 : ¬ G1 = 0) (hLza : Lat za) :
    Ctr l Z (⟨"com/example/visad/visad/identity/CharactersWithinPinLaw", "make", "(ICCC)Ljava/lang/String;"⟩ : MethodName) method_5_code 4 (some (.object "java/lang/String")) ws ({ frames := 4, cells := 3, slots := 6, locals := 66 } : Room) #[(.int (1 : Int32)), (.int za), (.int zb), (.int zc)] h0 (Q_rm_mk1L Z za zb zc G1 h0) := by
  refine Ctr.intro (Ls := fun _ => #[.val (.int (1 : Int32)), .val (.int za), .val (.int zb), .val (.int zc)]) (plainFor_of_name pn10) (fun m => by first | rfl | (simp [entryFrame, mkF, argsToLocals, Value.category]; done)) ?_
  intro p e s m below meth c s₁ hx hby hml hr hlk hZ hown hnm hs0 X0 e0
  have w : ∀ (k : Nat) (d : Jvm.Cond), tables_1[k]? = some d → d.before a0 Z = true := fun k d q => hw d (List.mem_of_getElem? q)
  have N0 := Fk.nil h0.size []
  refine Wk.iloadN X0 hx (hb hby d2_0) rfl rfl ?_
  refine Wk.ifYes X0 hx (hb hby d2_1) (by decide) (q := 15) rfl ((if0 _ _).trans (feq (by decide : ¬ ((1 : Int32) = (0 : Int32)))).2) ?_
  refine Wk.iloadN X0 hx (hb hby d2_15) rfl rfl ?_
  refine Wk.iconst X0 hx (v := (1 : Int32)) (hb hby d2_16) rfl rfl ?_
  refine Wk.icmpNo X0 hx (hb hby d2_17) rfl (teq (by decide : (1 : Int32) = (1 : Int32))).2 ?_
  refine Wk.new X0 hx hZ hown (w 8 _ rfl) (w 9 _ rfl) (w 10 _ rfl) e0 (hb hby d2_20) rfl (by decide) (by decide) ?_
  intro T1 h1 a1 g1 X1 e1 E1 A1 D1
  have O2 : Old Z Z.heap.size h1 := O0.ext E1
  have f3 : Fld Z h1 a1 "java/lang/String" "value" "[B" .null := D1 (Or.inr (w 24 _ rfl)) (ty := (.array .byte)) (by decide)
  have f4 : Fld Z h1 a1 "java/lang/String" "coder" "B" (.int (0 : Int32)) := D1 (Or.inr (w 25 _ rfl)) (ty := .byte) (by decide)
  refine Wk.dup X1 hx (hb hby d2_23) rfl rfl ?_
  refine Wk.iconst X1 hx (v := (1 : Int32)) (hb hby d2_24) rfl rfl ?_
  refine Wk.newarray X1 hx hZ (w 11 _ rfl) e1 (hb hby d2_25) rfl (by decide) 1 (by decide) (by decide) (by decide) (by decide) ?_
  intro T5 h5 a5 kA5 g5 X5 e5 E5 A5
  have O6 : Old Z Z.heap.size h5 := O2.ext E5
  have V5 : Arv Z h5 a5 kA5 .char (1 : Int32) [(.int (0 : Int32))] (.int (0 : Int32)) := A5.pad (pad_rep [] (.int (0 : Int32)) 1)
  refine Wk.dup X5 hx (hb hby d2_27) rfl rfl ?_
  refine Wk.iconst X5 hx (v := (0 : Int32)) (hb hby d2_28) rfl rfl ?_
  refine Wk.iloadN X5 hx (hb hby d2_29) rfl rfl ?_
  refine Wk.castore X5 hx hZ e5 V5 (by decide) (by decide) 0 rfl (Nat.le_of_ble_eq_true rfl) (w := za) (narC hLza.chr) (hb hby d2_30) rfl ?_
  intro T7 h7 L7 M7 X7 e7 W7 A7
  have KK8 : Keep h0 h1 [] := ((Keep.refl h0 []).ext E1)
  have N7 := M7 _ _ N0 (Or.inr (Nat.le_trans KK8.1 (Nat.le_of_eq g5)))
  have O9 : Old Z Z.heap.size h7 := O6.wr W7 (Nat.le_trans (Nat.le_trans (Nat.le_trans (Nat.le_of_eq O0.1.symm) O0.2.1) KK8.1) (Nat.le_of_eq g5))
  have V7 : Arv Z h7 a5 kA5 .char (1 : Int32) [(.int za)] (.int (0 : Int32)) := A7
  have hws_words : ∀ d ∈ StrChars.Road.words, d.before a0 Z = true := fun d hd => hw d ((by decide +kernel : ∀ d ∈ StrChars.Road.words, d ∈ tables_1) d hd)
  have KK10 : Keep h1 h7 [] := (((Keep.refl h1 []).ext E5).wr W7 (Or.inr (Nat.le_of_eq g5)))
  have f11 : Exa Z h7 a1 "java/lang/String" := (A1.keep KK10)
  have f12 : Fld Z h7 a1 "java/lang/String" "value" "[B" .null := (f3.keep KK10 nin0)
  have f13 : Fld Z h7 a1 "java/lang/String" "coder" "B" (.int (0 : Int32)) := (f4.keep KK10 nin0)
  have KK14 : Keep h0 h7 [] := ((KK8.ext E5).wr W7 (Or.inr (Nat.le_trans KK8.1 (Nat.le_of_eq g5))))
  refine Wk.callI X7 hx hZ rfl hown (w 12 _ rfl) (w 13 _ rfl) (w 14 _ rfl) (by decide) (as' := [(.ref a5)]) (StrChars.Road.backV (W := 1) hZ hws_words (kI := 4) (w 9 _ rfl) (cs := ([za] : List Int32)) (bs := (([za] : List Int32).map (fun c => c.toInt8.toInt32))) (n := 1) (Nat.le_of_eq g1) KK14.1 f11 f12 f13 V7 (SG1.ext O9.2) nG1 rfl rfl (by decide) (by decide) (latCons hLza latNil) rfl (by decide) (by decide)) e7 (by rw [hml]; rfl) (rest := [(.ref a1)]) (lenOf pd11 rfl) rfl (Nat.le_of_eq rfl) (hb hby d2_31) rfl (by decide) (by decide) ?_
  intro T15 h15 v15 L15 X15 e15 hQ15
  obtain ⟨rfl, Nq15, K15, E15s, C15s, t15, kb15, z15a, z15b, z15c, V15s, B15s⟩ := hQ15
  have N15 := Fk.app N7 (Fk.of_fr (ws := []) Nq15) (Nat.le_refl _) all0
  have O16 : Old Z Z.heap.size h15 := O9.keep K15 (allS (Nat.le_trans (Nat.le_trans (Nat.le_trans (Nat.le_of_eq O0.1.symm) O0.2.1) (Keep.refl h0 []).1) (Nat.le_of_eq g1)) all0)
  show Wp p e below _ _ T15 (mkF m 34 #[.val (.int (1 : Int32)), .val (.int za), .val (.int zb), .val (.int zc)] [(.ref a1)])
  have KK17 : Keep h0 h15 [] := (KK14.trans K15 (allS (Or.inr (Nat.le_of_eq g1)) all0))
  exact Wk.retA' X15 hx hlk hr rfl rfl (hb hby d2_34) (by decide) (by decide) (Qc := Q_rm_mk1L Z za zb zc G1 h0) e15 ⟨a1, t15, kb15, ((([za] : List Int32).map (fun c => c.toInt8.toInt32)).map Value.int), rfl, N15, KK17, E15s, C15s, V15s, B15s⟩
theorem d2_35 : decode method_5_code 35 = .ok (.iload_n 0, 1) := by decide +kernel
theorem d2_36 : decode method_5_code 36 = .ok (.iconst 2, 1) := by decide +kernel
theorem d2_37 : decode method_5_code 37 = .ok (.if_icmp .ne 22, 3) := by decide +kernel
theorem d2_40 : decode method_5_code 40 = .ok (.new 12, 3) := by decide +kernel
theorem d2_43 : decode method_5_code 43 = .ok (.dup, 1) := by decide +kernel
theorem d2_44 : decode method_5_code 44 = .ok (.iconst 2, 1) := by decide +kernel
theorem d2_45 : decode method_5_code 45 = .ok (.newarray .char, 2) := by decide +kernel
theorem d2_47 : decode method_5_code 47 = .ok (.dup, 1) := by decide +kernel
theorem d2_48 : decode method_5_code 48 = .ok (.iconst 0, 1) := by decide +kernel
theorem d2_49 : decode method_5_code 49 = .ok (.iload_n 1, 1) := by decide +kernel
theorem d2_50 : decode method_5_code 50 = .ok (.castore, 1) := by decide +kernel
theorem d2_51 : decode method_5_code 51 = .ok (.dup, 1) := by decide +kernel
theorem d2_52 : decode method_5_code 52 = .ok (.iconst 1, 1) := by decide +kernel
theorem d2_53 : decode method_5_code 53 = .ok (.iload_n 2, 1) := by decide +kernel
theorem d2_54 : decode method_5_code 54 = .ok (.castore, 1) := by decide +kernel
theorem d2_55 : decode method_5_code 55 = .ok (.invokespecial 14, 3) := by decide +kernel
theorem d2_58 : decode method_5_code 58 = .ok (.areturn, 1) := by decide +kernel
def Q_rm_mk20 (Z : State) (za : Int32) (zb : Int32) (zc : Int32) (G1 : Int32) (h0 : Heap) (v : Option Value) (h : Heap) (L : List Loc) : Prop := ∃ x : Addr, ∃ t : Addr, ∃ kb : ClassId, v = some (.ref x) ∧ Fk h0.size [] L ∧ Keep h0 h [] ∧ Exa Z h x "java/lang/String" ∧ Fld Z h x "java/lang/String" "coder" "B" (.int (1 : Int32)) ∧ Fld Z h x "java/lang/String" "value" "[B" (.ref t) ∧ Arv Z h t kb .byte (4 : Int32) [(.int (own_b0 za)), (.int (own_b1 za)), (.int (own_b0 zb)), (.int (own_b1 zb))] (.int (0 : Int32))
set_option maxRecDepth 65536 in
set_option maxHeartbeats 40000000 in
theorem rm_mk20 (l : Launch) (Z : State) (a0 : Array Value) (hw : ∀ d ∈ tables_1, d.before a0 Z = true) (ws : List Jvm.Cond) (za : Int32) (zb : Int32) (zc : Int32) (G1 : Int32) (h0 : Heap) (O0 : Old Z Z.heap.size h0) (sH : Sta Z Z.heap "java/lang/StringUTF16" "HI_BYTE_SHIFT" "I" (.int (0 : Int32))) (sL : Sta Z Z.heap "java/lang/StringUTF16" "LO_BYTE_SHIFT" "I" (.int (8 : Int32))) (sA : Sta Z Z.heap "java/lang/StringUTF16" "$assertionsDisabled" "Z" (.int (1 : Int32))) (SG1 : Sta Z Z.heap "java/lang/String" "COMPACT_STRINGS" "Z" (.int G1)) (nG1 : ¬ G1 = 0) (hcza : Chr za) (hczb : Chr zb) (hgza : (255 : Int32) < za) :
    Ctr l Z (⟨"com/example/visad/visad/identity/CharactersWithinPinLaw", "make", "(ICCC)Ljava/lang/String;"⟩ : MethodName) method_5_code 4 (some (.object "java/lang/String")) ws ({ frames := 6, cells := 4, slots := 12, locals := 88 } : Room) #[(.int (2 : Int32)), (.int za), (.int zb), (.int zc)] h0 (Q_rm_mk20 Z za zb zc G1 h0) := by
  refine Ctr.intro (Ls := fun _ => #[.val (.int (2 : Int32)), .val (.int za), .val (.int zb), .val (.int zc)]) (plainFor_of_name pn10) (fun m => by first | rfl | (simp [entryFrame, mkF, argsToLocals, Value.category]; done)) ?_
  intro p e s m below meth c s₁ hx hby hml hr hlk hZ hown hnm hs0 X0 e0
  have w : ∀ (k : Nat) (d : Jvm.Cond), tables_1[k]? = some d → d.before a0 Z = true := fun k d q => hw d (List.mem_of_getElem? q)
  have N0 := Fk.nil h0.size []
  refine Wk.iloadN X0 hx (hb hby d2_0) rfl rfl ?_
  refine Wk.ifYes X0 hx (hb hby d2_1) (by decide) (q := 15) rfl ((if0 _ _).trans (feq (by decide : ¬ ((2 : Int32) = (0 : Int32)))).2) ?_
  refine Wk.iloadN X0 hx (hb hby d2_15) rfl rfl ?_
  refine Wk.iconst X0 hx (v := (1 : Int32)) (hb hby d2_16) rfl rfl ?_
  refine Wk.icmpYes X0 hx (hb hby d2_17) (by decide) (q := 35) rfl (feq (by decide : ¬ ((2 : Int32) = (1 : Int32)))).2 ?_
  refine Wk.iloadN X0 hx (hb hby d2_35) rfl rfl ?_
  refine Wk.iconst X0 hx (v := (2 : Int32)) (hb hby d2_36) rfl rfl ?_
  refine Wk.icmpNo X0 hx (hb hby d2_37) rfl (teq (by decide : (2 : Int32) = (2 : Int32))).2 ?_
  refine Wk.new X0 hx hZ hown (w 8 _ rfl) (w 9 _ rfl) (w 10 _ rfl) e0 (hb hby d2_40) rfl (by decide) (by decide) ?_
  intro T1 h1 a1 g1 X1 e1 E1 A1 D1
  have O2 : Old Z Z.heap.size h1 := O0.ext E1
  have f3 : Fld Z h1 a1 "java/lang/String" "value" "[B" .null := D1 (Or.inr (w 24 _ rfl)) (ty := (.array .byte)) (by decide)
  have f4 : Fld Z h1 a1 "java/lang/String" "coder" "B" (.int (0 : Int32)) := D1 (Or.inr (w 25 _ rfl)) (ty := .byte) (by decide)
  refine Wk.dup X1 hx (hb hby d2_43) rfl rfl ?_
  refine Wk.iconst X1 hx (v := (2 : Int32)) (hb hby d2_44) rfl rfl ?_
  refine Wk.newarray X1 hx hZ (w 11 _ rfl) e1 (hb hby d2_45) rfl (by decide) 2 (by decide) (by decide) (by decide) (by decide) ?_
  intro T5 h5 a5 kA5 g5 X5 e5 E5 A5
  have O6 : Old Z Z.heap.size h5 := O2.ext E5
  have V5 : Arv Z h5 a5 kA5 .char (2 : Int32) [(.int (0 : Int32)), (.int (0 : Int32))] (.int (0 : Int32)) := A5.pad (pad_rep [] (.int (0 : Int32)) 2)
  refine Wk.dup X5 hx (hb hby d2_47) rfl rfl ?_
  refine Wk.iconst X5 hx (v := (0 : Int32)) (hb hby d2_48) rfl rfl ?_
  refine Wk.iloadN X5 hx (hb hby d2_49) rfl rfl ?_
  refine Wk.castore X5 hx hZ e5 V5 (by decide) (by decide) 0 rfl (Nat.le_of_ble_eq_true rfl) (w := za) (narC hcza) (hb hby d2_50) rfl ?_
  intro T7 h7 L7 M7 X7 e7 W7 A7
  have KK8 : Keep h0 h1 [] := ((Keep.refl h0 []).ext E1)
  have N7 := M7 _ _ N0 (Or.inr (Nat.le_trans KK8.1 (Nat.le_of_eq g5)))
  have O9 : Old Z Z.heap.size h7 := O6.wr W7 (Nat.le_trans (Nat.le_trans (Nat.le_trans (Nat.le_of_eq O0.1.symm) O0.2.1) KK8.1) (Nat.le_of_eq g5))
  have V7 : Arv Z h7 a5 kA5 .char (2 : Int32) [(.int za), (.int (0 : Int32))] (.int (0 : Int32)) := A7
  refine Wk.dup X7 hx (hb hby d2_51) rfl rfl ?_
  refine Wk.iconst X7 hx (v := (1 : Int32)) (hb hby d2_52) rfl rfl ?_
  refine Wk.iloadN X7 hx (hb hby d2_53) rfl rfl ?_
  refine Wk.castore X7 hx hZ e7 V7 (by decide) (by decide) 1 rfl (Nat.le_of_ble_eq_true rfl) (w := zb) (narC hczb) (hb hby d2_54) rfl ?_
  intro T10 h10 L10 M10 X10 e10 W10 A10
  have N10 := M10 _ _ N7 (Or.inr (Nat.le_trans KK8.1 (Nat.le_of_eq g5)))
  have O11 : Old Z Z.heap.size h10 := O9.wr W10 (Nat.le_trans (Nat.le_trans (Nat.le_trans (Nat.le_of_eq O0.1.symm) O0.2.1) KK8.1) (Nat.le_of_eq g5))
  have V10 : Arv Z h10 a5 kA5 .char (2 : Int32) [(.int za), (.int zb)] (.int (0 : Int32)) := A10
  have KK12 : Keep h1 h10 [] := ((((Keep.refl h1 []).ext E5).wr W7 (Or.inr (Nat.le_of_eq g5))).wr W10 (Or.inr (Nat.le_of_eq g5)))
  have f13 : Exa Z h10 a1 "java/lang/String" := (A1.keep KK12)
  have f14 : Fld Z h10 a1 "java/lang/String" "value" "[B" .null := (f3.keep KK12 nin0)
  have f15 : Fld Z h10 a1 "java/lang/String" "coder" "B" (.int (0 : Int32)) := (f4.keep KK12 nin0)
  refine Wk.callI X10 hx hZ rfl hown (w 12 _ rfl) (w 13 _ rfl) (w 14 _ rfl) (by decide) (as' := [(.ref a5)]) (backOf (W := 1) (rm_ic_20 l Z a0 hw [] a1 a5 kA5 G1 za zb h10 O11 sH sL sA SG1 nG1 f13 f14 f15 (Nat.le_trans (Nat.le_trans (Nat.le_trans (Nat.le_of_eq O0.1.symm) O0.2.1) (Keep.refl h0 []).1) (Nat.le_of_eq g1)) V10 hcza hczb hgza) hZ (w 14 _ rfl) (w 10 _ rfl) (by decide) (by decide)) e10 (by rw [hml]; rfl) (rest := [(.ref a1)]) (lenOf pd11 rfl) rfl (Nat.le_of_eq rfl) (hb hby d2_55) rfl (by decide) (by decide) ?_
  intro T16 h16 v16 L16 X16 e16 hQ16
  obtain ⟨t16, kb16, rfl, Nq16, K16, q16_0, q16_1, q16_2, q16_3, q16_4⟩ := hQ16
  have KK17 : Keep h0 h10 [] := (((KK8.ext E5).wr W7 (Or.inr (Nat.le_trans KK8.1 (Nat.le_of_eq g5)))).wr W10 (Or.inr (Nat.le_trans KK8.1 (Nat.le_of_eq g5))))
  have N16 := Fk.app N10 Nq16 KK17.1 (allS (Or.inr (Nat.le_of_eq g1)) all0)
  have O18 : Old Z Z.heap.size h16 := O11.keep K16 (allS (Nat.le_trans (Nat.le_trans (Nat.le_trans (Nat.le_of_eq O0.1.symm) O0.2.1) (Keep.refl h0 []).1) (Nat.le_of_eq g1)) all0)
  show Wp p e below _ _ T16 (mkF m 58 #[.val (.int (2 : Int32)), .val (.int za), .val (.int zb), .val (.int zc)] [(.ref a1)])
  have KK19 : Keep h0 h16 [] := (KK17.trans K16 (allS (Or.inr (Nat.le_of_eq g1)) all0))
  exact Wk.retA' X16 hx hlk hr rfl rfl (hb hby d2_58) (by decide) (by decide) (Qc := Q_rm_mk20 Z za zb zc G1 h0) e16 ⟨a1, t16, kb16, rfl, N16, KK19, q16_1, q16_2, q16_3, q16_4⟩
def Q_rm_mk21 (Z : State) (za : Int32) (zb : Int32) (zc : Int32) (G1 : Int32) (h0 : Heap) (v : Option Value) (h : Heap) (L : List Loc) : Prop := ∃ x : Addr, ∃ t : Addr, ∃ kb : ClassId, v = some (.ref x) ∧ Fk h0.size [] L ∧ Keep h0 h [] ∧ Exa Z h x "java/lang/String" ∧ Fld Z h x "java/lang/String" "coder" "B" (.int (1 : Int32)) ∧ Fld Z h x "java/lang/String" "value" "[B" (.ref t) ∧ Arv Z h t kb .byte (4 : Int32) [(.int (own_b0 za)), (.int (own_b1 za)), (.int (own_b0 zb)), (.int (own_b1 zb))] (.int (0 : Int32))
set_option maxRecDepth 65536 in
set_option maxHeartbeats 40000000 in
theorem rm_mk21 (l : Launch) (Z : State) (a0 : Array Value) (hw : ∀ d ∈ tables_1, d.before a0 Z = true) (ws : List Jvm.Cond) (za : Int32) (zb : Int32) (zc : Int32) (G1 : Int32) (h0 : Heap) (O0 : Old Z Z.heap.size h0) (sH : Sta Z Z.heap "java/lang/StringUTF16" "HI_BYTE_SHIFT" "I" (.int (0 : Int32))) (sL : Sta Z Z.heap "java/lang/StringUTF16" "LO_BYTE_SHIFT" "I" (.int (8 : Int32))) (sA : Sta Z Z.heap "java/lang/StringUTF16" "$assertionsDisabled" "Z" (.int (1 : Int32))) (SG1 : Sta Z Z.heap "java/lang/String" "COMPACT_STRINGS" "Z" (.int G1)) (nG1 : ¬ G1 = 0) (hcza : Chr za) (hczb : Chr zb) (hlza : ¬ ((255 : Int32) < za)) (hgzb : (255 : Int32) < zb) :
    Ctr l Z (⟨"com/example/visad/visad/identity/CharactersWithinPinLaw", "make", "(ICCC)Ljava/lang/String;"⟩ : MethodName) method_5_code 4 (some (.object "java/lang/String")) ws ({ frames := 6, cells := 4, slots := 12, locals := 88 } : Room) #[(.int (2 : Int32)), (.int za), (.int zb), (.int zc)] h0 (Q_rm_mk21 Z za zb zc G1 h0) := by
  refine Ctr.intro (Ls := fun _ => #[.val (.int (2 : Int32)), .val (.int za), .val (.int zb), .val (.int zc)]) (plainFor_of_name pn10) (fun m => by first | rfl | (simp [entryFrame, mkF, argsToLocals, Value.category]; done)) ?_
  intro p e s m below meth c s₁ hx hby hml hr hlk hZ hown hnm hs0 X0 e0
  have w : ∀ (k : Nat) (d : Jvm.Cond), tables_1[k]? = some d → d.before a0 Z = true := fun k d q => hw d (List.mem_of_getElem? q)
  have N0 := Fk.nil h0.size []
  refine Wk.iloadN X0 hx (hb hby d2_0) rfl rfl ?_
  refine Wk.ifYes X0 hx (hb hby d2_1) (by decide) (q := 15) rfl ((if0 _ _).trans (feq (by decide : ¬ ((2 : Int32) = (0 : Int32)))).2) ?_
  refine Wk.iloadN X0 hx (hb hby d2_15) rfl rfl ?_
  refine Wk.iconst X0 hx (v := (1 : Int32)) (hb hby d2_16) rfl rfl ?_
  refine Wk.icmpYes X0 hx (hb hby d2_17) (by decide) (q := 35) rfl (feq (by decide : ¬ ((2 : Int32) = (1 : Int32)))).2 ?_
  refine Wk.iloadN X0 hx (hb hby d2_35) rfl rfl ?_
  refine Wk.iconst X0 hx (v := (2 : Int32)) (hb hby d2_36) rfl rfl ?_
  refine Wk.icmpNo X0 hx (hb hby d2_37) rfl (teq (by decide : (2 : Int32) = (2 : Int32))).2 ?_
  refine Wk.new X0 hx hZ hown (w 8 _ rfl) (w 9 _ rfl) (w 10 _ rfl) e0 (hb hby d2_40) rfl (by decide) (by decide) ?_
  intro T1 h1 a1 g1 X1 e1 E1 A1 D1
  have O2 : Old Z Z.heap.size h1 := O0.ext E1
  have f3 : Fld Z h1 a1 "java/lang/String" "value" "[B" .null := D1 (Or.inr (w 24 _ rfl)) (ty := (.array .byte)) (by decide)
  have f4 : Fld Z h1 a1 "java/lang/String" "coder" "B" (.int (0 : Int32)) := D1 (Or.inr (w 25 _ rfl)) (ty := .byte) (by decide)
  refine Wk.dup X1 hx (hb hby d2_43) rfl rfl ?_
  refine Wk.iconst X1 hx (v := (2 : Int32)) (hb hby d2_44) rfl rfl ?_
  refine Wk.newarray X1 hx hZ (w 11 _ rfl) e1 (hb hby d2_45) rfl (by decide) 2 (by decide) (by decide) (by decide) (by decide) ?_
  intro T5 h5 a5 kA5 g5 X5 e5 E5 A5
  have O6 : Old Z Z.heap.size h5 := O2.ext E5
  have V5 : Arv Z h5 a5 kA5 .char (2 : Int32) [(.int (0 : Int32)), (.int (0 : Int32))] (.int (0 : Int32)) := A5.pad (pad_rep [] (.int (0 : Int32)) 2)
  refine Wk.dup X5 hx (hb hby d2_47) rfl rfl ?_
  refine Wk.iconst X5 hx (v := (0 : Int32)) (hb hby d2_48) rfl rfl ?_
  refine Wk.iloadN X5 hx (hb hby d2_49) rfl rfl ?_
  refine Wk.castore X5 hx hZ e5 V5 (by decide) (by decide) 0 rfl (Nat.le_of_ble_eq_true rfl) (w := za) (narC hcza) (hb hby d2_50) rfl ?_
  intro T7 h7 L7 M7 X7 e7 W7 A7
  have KK8 : Keep h0 h1 [] := ((Keep.refl h0 []).ext E1)
  have N7 := M7 _ _ N0 (Or.inr (Nat.le_trans KK8.1 (Nat.le_of_eq g5)))
  have O9 : Old Z Z.heap.size h7 := O6.wr W7 (Nat.le_trans (Nat.le_trans (Nat.le_trans (Nat.le_of_eq O0.1.symm) O0.2.1) KK8.1) (Nat.le_of_eq g5))
  have V7 : Arv Z h7 a5 kA5 .char (2 : Int32) [(.int za), (.int (0 : Int32))] (.int (0 : Int32)) := A7
  refine Wk.dup X7 hx (hb hby d2_51) rfl rfl ?_
  refine Wk.iconst X7 hx (v := (1 : Int32)) (hb hby d2_52) rfl rfl ?_
  refine Wk.iloadN X7 hx (hb hby d2_53) rfl rfl ?_
  refine Wk.castore X7 hx hZ e7 V7 (by decide) (by decide) 1 rfl (Nat.le_of_ble_eq_true rfl) (w := zb) (narC hczb) (hb hby d2_54) rfl ?_
  intro T10 h10 L10 M10 X10 e10 W10 A10
  have N10 := M10 _ _ N7 (Or.inr (Nat.le_trans KK8.1 (Nat.le_of_eq g5)))
  have O11 : Old Z Z.heap.size h10 := O9.wr W10 (Nat.le_trans (Nat.le_trans (Nat.le_trans (Nat.le_of_eq O0.1.symm) O0.2.1) KK8.1) (Nat.le_of_eq g5))
  have V10 : Arv Z h10 a5 kA5 .char (2 : Int32) [(.int za), (.int zb)] (.int (0 : Int32)) := A10
  have KK12 : Keep h1 h10 [] := ((((Keep.refl h1 []).ext E5).wr W7 (Or.inr (Nat.le_of_eq g5))).wr W10 (Or.inr (Nat.le_of_eq g5)))
  have f13 : Exa Z h10 a1 "java/lang/String" := (A1.keep KK12)
  have f14 : Fld Z h10 a1 "java/lang/String" "value" "[B" .null := (f3.keep KK12 nin0)
  have f15 : Fld Z h10 a1 "java/lang/String" "coder" "B" (.int (0 : Int32)) := (f4.keep KK12 nin0)
  refine Wk.callI X10 hx hZ rfl hown (w 12 _ rfl) (w 13 _ rfl) (w 14 _ rfl) (by decide) (as' := [(.ref a5)]) (backOf (W := 1) (rm_ic_21 l Z a0 hw [] a1 a5 kA5 G1 za zb h10 O11 sH sL sA SG1 nG1 f13 f14 f15 (Nat.le_trans (Nat.le_trans (Nat.le_trans (Nat.le_of_eq O0.1.symm) O0.2.1) (Keep.refl h0 []).1) (Nat.le_of_eq g1)) V10 hcza hczb hlza hgzb) hZ (w 14 _ rfl) (w 10 _ rfl) (by decide) (by decide)) e10 (by rw [hml]; rfl) (rest := [(.ref a1)]) (lenOf pd11 rfl) rfl (Nat.le_of_eq rfl) (hb hby d2_55) rfl (by decide) (by decide) ?_
  intro T16 h16 v16 L16 X16 e16 hQ16
  obtain ⟨t16, kb16, rfl, Nq16, K16, q16_0, q16_1, q16_2, q16_3, q16_4⟩ := hQ16
  have KK17 : Keep h0 h10 [] := (((KK8.ext E5).wr W7 (Or.inr (Nat.le_trans KK8.1 (Nat.le_of_eq g5)))).wr W10 (Or.inr (Nat.le_trans KK8.1 (Nat.le_of_eq g5))))
  have N16 := Fk.app N10 Nq16 KK17.1 (allS (Or.inr (Nat.le_of_eq g1)) all0)
  have O18 : Old Z Z.heap.size h16 := O11.keep K16 (allS (Nat.le_trans (Nat.le_trans (Nat.le_trans (Nat.le_of_eq O0.1.symm) O0.2.1) (Keep.refl h0 []).1) (Nat.le_of_eq g1)) all0)
  show Wp p e below _ _ T16 (mkF m 58 #[.val (.int (2 : Int32)), .val (.int za), .val (.int zb), .val (.int zc)] [(.ref a1)])
  have KK19 : Keep h0 h16 [] := (KK17.trans K16 (allS (Or.inr (Nat.le_of_eq g1)) all0))
  exact Wk.retA' X16 hx hlk hr rfl rfl (hb hby d2_58) (by decide) (by decide) (Qc := Q_rm_mk21 Z za zb zc G1 h0) e16 ⟨a1, t16, kb16, rfl, N16, KK19, q16_1, q16_2, q16_3, q16_4⟩
def Q_rm_mk2L (Z : State) (za : Int32) (zb : Int32) (zc : Int32) (G1 : Int32) (h0 : Heap) (v : Option Value) (h : Heap) (L : List Loc) : Prop := ∃ x : Addr, ∃ t : Addr, ∃ kb : ClassId, ∃ lb : List Value, v = some (.ref x) ∧ Fk h0.size [] L ∧ Keep h0 h [] ∧ Exa Z h x "java/lang/String" ∧ Fld Z h x "java/lang/String" "coder" "B" (.int (0 : Int32)) ∧ Fld Z h x "java/lang/String" "value" "[B" (.ref t) ∧ Arv Z h t kb .byte (2 : Int32) lb (.int (0 : Int32))
set_option maxRecDepth 65536 in
set_option maxHeartbeats 40000000 in
theorem rm_mk2L (l : Launch) (Z : State) (a0 : Array Value) (hw : ∀ d ∈ tables_1, d.before a0 Z = true) (ws : List Jvm.Cond) (za : Int32) (zb : Int32) (zc : Int32) (G1 : Int32) (h0 : Heap) (O0 : Old Z Z.heap.size h0) (SG1 : Sta Z Z.heap "java/lang/String" "COMPACT_STRINGS" "Z" (.int G1)) (nG1 : ¬ G1 = 0) (hLza : Lat za) (hLzb : Lat zb) :
    Ctr l Z (⟨"com/example/visad/visad/identity/CharactersWithinPinLaw", "make", "(ICCC)Ljava/lang/String;"⟩ : MethodName) method_5_code 4 (some (.object "java/lang/String")) ws ({ frames := 4, cells := 3, slots := 8, locals := 66 } : Room) #[(.int (2 : Int32)), (.int za), (.int zb), (.int zc)] h0 (Q_rm_mk2L Z za zb zc G1 h0) := by
  refine Ctr.intro (Ls := fun _ => #[.val (.int (2 : Int32)), .val (.int za), .val (.int zb), .val (.int zc)]) (plainFor_of_name pn10) (fun m => by first | rfl | (simp [entryFrame, mkF, argsToLocals, Value.category]; done)) ?_
  intro p e s m below meth c s₁ hx hby hml hr hlk hZ hown hnm hs0 X0 e0
  have w : ∀ (k : Nat) (d : Jvm.Cond), tables_1[k]? = some d → d.before a0 Z = true := fun k d q => hw d (List.mem_of_getElem? q)
  have N0 := Fk.nil h0.size []
  refine Wk.iloadN X0 hx (hb hby d2_0) rfl rfl ?_
  refine Wk.ifYes X0 hx (hb hby d2_1) (by decide) (q := 15) rfl ((if0 _ _).trans (feq (by decide : ¬ ((2 : Int32) = (0 : Int32)))).2) ?_
  refine Wk.iloadN X0 hx (hb hby d2_15) rfl rfl ?_
  refine Wk.iconst X0 hx (v := (1 : Int32)) (hb hby d2_16) rfl rfl ?_
  refine Wk.icmpYes X0 hx (hb hby d2_17) (by decide) (q := 35) rfl (feq (by decide : ¬ ((2 : Int32) = (1 : Int32)))).2 ?_
  refine Wk.iloadN X0 hx (hb hby d2_35) rfl rfl ?_
  refine Wk.iconst X0 hx (v := (2 : Int32)) (hb hby d2_36) rfl rfl ?_
  refine Wk.icmpNo X0 hx (hb hby d2_37) rfl (teq (by decide : (2 : Int32) = (2 : Int32))).2 ?_
  refine Wk.new X0 hx hZ hown (w 8 _ rfl) (w 9 _ rfl) (w 10 _ rfl) e0 (hb hby d2_40) rfl (by decide) (by decide) ?_
  intro T1 h1 a1 g1 X1 e1 E1 A1 D1
  have O2 : Old Z Z.heap.size h1 := O0.ext E1
  have f3 : Fld Z h1 a1 "java/lang/String" "value" "[B" .null := D1 (Or.inr (w 24 _ rfl)) (ty := (.array .byte)) (by decide)
  have f4 : Fld Z h1 a1 "java/lang/String" "coder" "B" (.int (0 : Int32)) := D1 (Or.inr (w 25 _ rfl)) (ty := .byte) (by decide)
  refine Wk.dup X1 hx (hb hby d2_43) rfl rfl ?_
  refine Wk.iconst X1 hx (v := (2 : Int32)) (hb hby d2_44) rfl rfl ?_
  refine Wk.newarray X1 hx hZ (w 11 _ rfl) e1 (hb hby d2_45) rfl (by decide) 2 (by decide) (by decide) (by decide) (by decide) ?_
  intro T5 h5 a5 kA5 g5 X5 e5 E5 A5
  have O6 : Old Z Z.heap.size h5 := O2.ext E5
  have V5 : Arv Z h5 a5 kA5 .char (2 : Int32) [(.int (0 : Int32)), (.int (0 : Int32))] (.int (0 : Int32)) := A5.pad (pad_rep [] (.int (0 : Int32)) 2)
  refine Wk.dup X5 hx (hb hby d2_47) rfl rfl ?_
  refine Wk.iconst X5 hx (v := (0 : Int32)) (hb hby d2_48) rfl rfl ?_
  refine Wk.iloadN X5 hx (hb hby d2_49) rfl rfl ?_
  refine Wk.castore X5 hx hZ e5 V5 (by decide) (by decide) 0 rfl (Nat.le_of_ble_eq_true rfl) (w := za) (narC hLza.chr) (hb hby d2_50) rfl ?_
  intro T7 h7 L7 M7 X7 e7 W7 A7
  have KK8 : Keep h0 h1 [] := ((Keep.refl h0 []).ext E1)
  have N7 := M7 _ _ N0 (Or.inr (Nat.le_trans KK8.1 (Nat.le_of_eq g5)))
  have O9 : Old Z Z.heap.size h7 := O6.wr W7 (Nat.le_trans (Nat.le_trans (Nat.le_trans (Nat.le_of_eq O0.1.symm) O0.2.1) KK8.1) (Nat.le_of_eq g5))
  have V7 : Arv Z h7 a5 kA5 .char (2 : Int32) [(.int za), (.int (0 : Int32))] (.int (0 : Int32)) := A7
  refine Wk.dup X7 hx (hb hby d2_51) rfl rfl ?_
  refine Wk.iconst X7 hx (v := (1 : Int32)) (hb hby d2_52) rfl rfl ?_
  refine Wk.iloadN X7 hx (hb hby d2_53) rfl rfl ?_
  refine Wk.castore X7 hx hZ e7 V7 (by decide) (by decide) 1 rfl (Nat.le_of_ble_eq_true rfl) (w := zb) (narC hLzb.chr) (hb hby d2_54) rfl ?_
  intro T10 h10 L10 M10 X10 e10 W10 A10
  have N10 := M10 _ _ N7 (Or.inr (Nat.le_trans KK8.1 (Nat.le_of_eq g5)))
  have O11 : Old Z Z.heap.size h10 := O9.wr W10 (Nat.le_trans (Nat.le_trans (Nat.le_trans (Nat.le_of_eq O0.1.symm) O0.2.1) KK8.1) (Nat.le_of_eq g5))
  have V10 : Arv Z h10 a5 kA5 .char (2 : Int32) [(.int za), (.int zb)] (.int (0 : Int32)) := A10
  have hws_words : ∀ d ∈ StrChars.Road.words, d.before a0 Z = true := fun d hd => hw d ((by decide +kernel : ∀ d ∈ StrChars.Road.words, d ∈ tables_1) d hd)
  have KK12 : Keep h1 h10 [] := ((((Keep.refl h1 []).ext E5).wr W7 (Or.inr (Nat.le_of_eq g5))).wr W10 (Or.inr (Nat.le_of_eq g5)))
  have f13 : Exa Z h10 a1 "java/lang/String" := (A1.keep KK12)
  have f14 : Fld Z h10 a1 "java/lang/String" "value" "[B" .null := (f3.keep KK12 nin0)
  have f15 : Fld Z h10 a1 "java/lang/String" "coder" "B" (.int (0 : Int32)) := (f4.keep KK12 nin0)
  have KK16 : Keep h0 h10 [] := (((KK8.ext E5).wr W7 (Or.inr (Nat.le_trans KK8.1 (Nat.le_of_eq g5)))).wr W10 (Or.inr (Nat.le_trans KK8.1 (Nat.le_of_eq g5))))
  refine Wk.callI X10 hx hZ rfl hown (w 12 _ rfl) (w 13 _ rfl) (w 14 _ rfl) (by decide) (as' := [(.ref a5)]) (StrChars.Road.backV (W := 1) hZ hws_words (kI := 4) (w 9 _ rfl) (cs := ([za, zb] : List Int32)) (bs := (([za, zb] : List Int32).map (fun c => c.toInt8.toInt32))) (n := 2) (Nat.le_of_eq g1) KK16.1 f13 f14 f15 V10 (SG1.ext O11.2) nG1 rfl rfl (by decide) (by decide) (latCons hLza (latCons hLzb latNil)) rfl (by decide) (by decide)) e10 (by rw [hml]; rfl) (rest := [(.ref a1)]) (lenOf pd11 rfl) rfl (Nat.le_of_eq rfl) (hb hby d2_55) rfl (by decide) (by decide) ?_
  intro T17 h17 v17 L17 X17 e17 hQ17
  obtain ⟨rfl, Nq17, K17, E17s, C17s, t17, kb17, z17a, z17b, z17c, V17s, B17s⟩ := hQ17
  have N17 := Fk.app N10 (Fk.of_fr (ws := []) Nq17) (Nat.le_refl _) all0
  have O18 : Old Z Z.heap.size h17 := O11.keep K17 (allS (Nat.le_trans (Nat.le_trans (Nat.le_trans (Nat.le_of_eq O0.1.symm) O0.2.1) (Keep.refl h0 []).1) (Nat.le_of_eq g1)) all0)
  show Wp p e below _ _ T17 (mkF m 58 #[.val (.int (2 : Int32)), .val (.int za), .val (.int zb), .val (.int zc)] [(.ref a1)])
  have KK19 : Keep h0 h17 [] := (KK16.trans K17 (allS (Or.inr (Nat.le_of_eq g1)) all0))
  exact Wk.retA' X17 hx hlk hr rfl rfl (hb hby d2_58) (by decide) (by decide) (Qc := Q_rm_mk2L Z za zb zc G1 h0) e17 ⟨a1, t17, kb17, ((([za, zb] : List Int32).map (fun c => c.toInt8.toInt32)).map Value.int), rfl, N17, KK19, E17s, C17s, V17s, B17s⟩
theorem d2_59 : decode method_5_code 59 = .ok (.new 12, 3) := by decide +kernel
theorem d2_62 : decode method_5_code 62 = .ok (.dup, 1) := by decide +kernel
theorem d2_63 : decode method_5_code 63 = .ok (.iconst 3, 1) := by decide +kernel
theorem d2_64 : decode method_5_code 64 = .ok (.newarray .char, 2) := by decide +kernel
theorem d2_66 : decode method_5_code 66 = .ok (.dup, 1) := by decide +kernel
theorem d2_67 : decode method_5_code 67 = .ok (.iconst 0, 1) := by decide +kernel
theorem d2_68 : decode method_5_code 68 = .ok (.iload_n 1, 1) := by decide +kernel
theorem d2_69 : decode method_5_code 69 = .ok (.castore, 1) := by decide +kernel
theorem d2_70 : decode method_5_code 70 = .ok (.dup, 1) := by decide +kernel
theorem d2_71 : decode method_5_code 71 = .ok (.iconst 1, 1) := by decide +kernel
theorem d2_72 : decode method_5_code 72 = .ok (.iload_n 2, 1) := by decide +kernel
theorem d2_73 : decode method_5_code 73 = .ok (.castore, 1) := by decide +kernel
theorem d2_74 : decode method_5_code 74 = .ok (.dup, 1) := by decide +kernel
theorem d2_75 : decode method_5_code 75 = .ok (.iconst 2, 1) := by decide +kernel
theorem d2_76 : decode method_5_code 76 = .ok (.iload_n 3, 1) := by decide +kernel
theorem d2_77 : decode method_5_code 77 = .ok (.castore, 1) := by decide +kernel
theorem d2_78 : decode method_5_code 78 = .ok (.invokespecial 14, 3) := by decide +kernel
theorem d2_81 : decode method_5_code 81 = .ok (.areturn, 1) := by decide +kernel
def Q_rm_mk30 (Z : State) (za : Int32) (zb : Int32) (zc : Int32) (G1 : Int32) (h0 : Heap) (v : Option Value) (h : Heap) (L : List Loc) : Prop := ∃ x : Addr, ∃ t : Addr, ∃ kb : ClassId, v = some (.ref x) ∧ Fk h0.size [] L ∧ Keep h0 h [] ∧ Exa Z h x "java/lang/String" ∧ Fld Z h x "java/lang/String" "coder" "B" (.int (1 : Int32)) ∧ Fld Z h x "java/lang/String" "value" "[B" (.ref t) ∧ Arv Z h t kb .byte (6 : Int32) [(.int (own_b0 za)), (.int (own_b1 za)), (.int (own_b0 zb)), (.int (own_b1 zb)), (.int (own_b0 zc)), (.int (own_b1 zc))] (.int (0 : Int32))
set_option maxRecDepth 65536 in
set_option maxHeartbeats 40000000 in
theorem rm_mk30 (l : Launch) (Z : State) (a0 : Array Value) (hw : ∀ d ∈ tables_1, d.before a0 Z = true) (ws : List Jvm.Cond) (za : Int32) (zb : Int32) (zc : Int32) (G1 : Int32) (h0 : Heap) (O0 : Old Z Z.heap.size h0) (sH : Sta Z Z.heap "java/lang/StringUTF16" "HI_BYTE_SHIFT" "I" (.int (0 : Int32))) (sL : Sta Z Z.heap "java/lang/StringUTF16" "LO_BYTE_SHIFT" "I" (.int (8 : Int32))) (sA : Sta Z Z.heap "java/lang/StringUTF16" "$assertionsDisabled" "Z" (.int (1 : Int32))) (SG1 : Sta Z Z.heap "java/lang/String" "COMPACT_STRINGS" "Z" (.int G1)) (nG1 : ¬ G1 = 0) (hcza : Chr za) (hczb : Chr zb) (hczc : Chr zc) (hgza : (255 : Int32) < za) :
    Ctr l Z (⟨"com/example/visad/visad/identity/CharactersWithinPinLaw", "make", "(ICCC)Ljava/lang/String;"⟩ : MethodName) method_5_code 4 (some (.object "java/lang/String")) ws ({ frames := 6, cells := 4, slots := 16, locals := 88 } : Room) #[(.int (3 : Int32)), (.int za), (.int zb), (.int zc)] h0 (Q_rm_mk30 Z za zb zc G1 h0) := by
  refine Ctr.intro (Ls := fun _ => #[.val (.int (3 : Int32)), .val (.int za), .val (.int zb), .val (.int zc)]) (plainFor_of_name pn10) (fun m => by first | rfl | (simp [entryFrame, mkF, argsToLocals, Value.category]; done)) ?_
  intro p e s m below meth c s₁ hx hby hml hr hlk hZ hown hnm hs0 X0 e0
  have w : ∀ (k : Nat) (d : Jvm.Cond), tables_1[k]? = some d → d.before a0 Z = true := fun k d q => hw d (List.mem_of_getElem? q)
  have N0 := Fk.nil h0.size []
  refine Wk.iloadN X0 hx (hb hby d2_0) rfl rfl ?_
  refine Wk.ifYes X0 hx (hb hby d2_1) (by decide) (q := 15) rfl ((if0 _ _).trans (feq (by decide : ¬ ((3 : Int32) = (0 : Int32)))).2) ?_
  refine Wk.iloadN X0 hx (hb hby d2_15) rfl rfl ?_
  refine Wk.iconst X0 hx (v := (1 : Int32)) (hb hby d2_16) rfl rfl ?_
  refine Wk.icmpYes X0 hx (hb hby d2_17) (by decide) (q := 35) rfl (feq (by decide : ¬ ((3 : Int32) = (1 : Int32)))).2 ?_
  refine Wk.iloadN X0 hx (hb hby d2_35) rfl rfl ?_
  refine Wk.iconst X0 hx (v := (2 : Int32)) (hb hby d2_36) rfl rfl ?_
  refine Wk.icmpYes X0 hx (hb hby d2_37) (by decide) (q := 59) rfl (feq (by decide : ¬ ((3 : Int32) = (2 : Int32)))).2 ?_
  refine Wk.new X0 hx hZ hown (w 8 _ rfl) (w 9 _ rfl) (w 10 _ rfl) e0 (hb hby d2_59) rfl (by decide) (by decide) ?_
  intro T1 h1 a1 g1 X1 e1 E1 A1 D1
  have O2 : Old Z Z.heap.size h1 := O0.ext E1
  have f3 : Fld Z h1 a1 "java/lang/String" "value" "[B" .null := D1 (Or.inr (w 24 _ rfl)) (ty := (.array .byte)) (by decide)
  have f4 : Fld Z h1 a1 "java/lang/String" "coder" "B" (.int (0 : Int32)) := D1 (Or.inr (w 25 _ rfl)) (ty := .byte) (by decide)
  refine Wk.dup X1 hx (hb hby d2_62) rfl rfl ?_
  refine Wk.iconst X1 hx (v := (3 : Int32)) (hb hby d2_63) rfl rfl ?_
  refine Wk.newarray X1 hx hZ (w 11 _ rfl) e1 (hb hby d2_64) rfl (by decide) 3 (by decide) (by decide) (by decide) (by decide) ?_
  intro T5 h5 a5 kA5 g5 X5 e5 E5 A5
  have O6 : Old Z Z.heap.size h5 := O2.ext E5
  have V5 : Arv Z h5 a5 kA5 .char (3 : Int32) [(.int (0 : Int32)), (.int (0 : Int32)), (.int (0 : Int32))] (.int (0 : Int32)) := A5.pad (pad_rep [] (.int (0 : Int32)) 3)
  refine Wk.dup X5 hx (hb hby d2_66) rfl rfl ?_
  refine Wk.iconst X5 hx (v := (0 : Int32)) (hb hby d2_67) rfl rfl ?_
  refine Wk.iloadN X5 hx (hb hby d2_68) rfl rfl ?_
  refine Wk.castore X5 hx hZ e5 V5 (by decide) (by decide) 0 rfl (Nat.le_of_ble_eq_true rfl) (w := za) (narC hcza) (hb hby d2_69) rfl ?_
  intro T7 h7 L7 M7 X7 e7 W7 A7
  have KK8 : Keep h0 h1 [] := ((Keep.refl h0 []).ext E1)
  have N7 := M7 _ _ N0 (Or.inr (Nat.le_trans KK8.1 (Nat.le_of_eq g5)))
  have O9 : Old Z Z.heap.size h7 := O6.wr W7 (Nat.le_trans (Nat.le_trans (Nat.le_trans (Nat.le_of_eq O0.1.symm) O0.2.1) KK8.1) (Nat.le_of_eq g5))
  have V7 : Arv Z h7 a5 kA5 .char (3 : Int32) [(.int za), (.int (0 : Int32)), (.int (0 : Int32))] (.int (0 : Int32)) := A7
  refine Wk.dup X7 hx (hb hby d2_70) rfl rfl ?_
  refine Wk.iconst X7 hx (v := (1 : Int32)) (hb hby d2_71) rfl rfl ?_
  refine Wk.iloadN X7 hx (hb hby d2_72) rfl rfl ?_
  refine Wk.castore X7 hx hZ e7 V7 (by decide) (by decide) 1 rfl (Nat.le_of_ble_eq_true rfl) (w := zb) (narC hczb) (hb hby d2_73) rfl ?_
  intro T10 h10 L10 M10 X10 e10 W10 A10
  have N10 := M10 _ _ N7 (Or.inr (Nat.le_trans KK8.1 (Nat.le_of_eq g5)))
  have O11 : Old Z Z.heap.size h10 := O9.wr W10 (Nat.le_trans (Nat.le_trans (Nat.le_trans (Nat.le_of_eq O0.1.symm) O0.2.1) KK8.1) (Nat.le_of_eq g5))
  have V10 : Arv Z h10 a5 kA5 .char (3 : Int32) [(.int za), (.int zb), (.int (0 : Int32))] (.int (0 : Int32)) := A10
  refine Wk.dup X10 hx (hb hby d2_74) rfl rfl ?_
  refine Wk.iconst X10 hx (v := (2 : Int32)) (hb hby d2_75) rfl rfl ?_
  refine Wk.iloadN X10 hx (hb hby d2_76) rfl rfl ?_
  refine Wk.castore X10 hx hZ e10 V10 (by decide) (by decide) 2 rfl (Nat.le_of_ble_eq_true rfl) (w := zc) (narC hczc) (hb hby d2_77) rfl ?_
  intro T12 h12 L12 M12 X12 e12 W12 A12
  have N12 := M12 _ _ N10 (Or.inr (Nat.le_trans KK8.1 (Nat.le_of_eq g5)))
  have O13 : Old Z Z.heap.size h12 := O11.wr W12 (Nat.le_trans (Nat.le_trans (Nat.le_trans (Nat.le_of_eq O0.1.symm) O0.2.1) KK8.1) (Nat.le_of_eq g5))
  have V12 : Arv Z h12 a5 kA5 .char (3 : Int32) [(.int za), (.int zb), (.int zc)] (.int (0 : Int32)) := A12
  have KK14 : Keep h1 h12 [] := (((((Keep.refl h1 []).ext E5).wr W7 (Or.inr (Nat.le_of_eq g5))).wr W10 (Or.inr (Nat.le_of_eq g5))).wr W12 (Or.inr (Nat.le_of_eq g5)))
  have f15 : Exa Z h12 a1 "java/lang/String" := (A1.keep KK14)
  have f16 : Fld Z h12 a1 "java/lang/String" "value" "[B" .null := (f3.keep KK14 nin0)
  have f17 : Fld Z h12 a1 "java/lang/String" "coder" "B" (.int (0 : Int32)) := (f4.keep KK14 nin0)
  refine Wk.callI X12 hx hZ rfl hown (w 12 _ rfl) (w 13 _ rfl) (w 14 _ rfl) (by decide) (as' := [(.ref a5)]) (backOf (W := 1) (rm_ic_30 l Z a0 hw [] a1 a5 kA5 G1 za zb zc h12 O13 sH sL sA SG1 nG1 f15 f16 f17 (Nat.le_trans (Nat.le_trans (Nat.le_trans (Nat.le_of_eq O0.1.symm) O0.2.1) (Keep.refl h0 []).1) (Nat.le_of_eq g1)) V12 hcza hczb hczc hgza) hZ (w 14 _ rfl) (w 10 _ rfl) (by decide) (by decide)) e12 (by rw [hml]; rfl) (rest := [(.ref a1)]) (lenOf pd11 rfl) rfl (Nat.le_of_eq rfl) (hb hby d2_78) rfl (by decide) (by decide) ?_
  intro T18 h18 v18 L18 X18 e18 hQ18
  obtain ⟨t18, kb18, rfl, Nq18, K18, q18_0, q18_1, q18_2, q18_3, q18_4⟩ := hQ18
  have KK19 : Keep h0 h12 [] := ((((KK8.ext E5).wr W7 (Or.inr (Nat.le_trans KK8.1 (Nat.le_of_eq g5)))).wr W10 (Or.inr (Nat.le_trans KK8.1 (Nat.le_of_eq g5)))).wr W12 (Or.inr (Nat.le_trans KK8.1 (Nat.le_of_eq g5))))
  have N18 := Fk.app N12 Nq18 KK19.1 (allS (Or.inr (Nat.le_of_eq g1)) all0)
  have O20 : Old Z Z.heap.size h18 := O13.keep K18 (allS (Nat.le_trans (Nat.le_trans (Nat.le_trans (Nat.le_of_eq O0.1.symm) O0.2.1) (Keep.refl h0 []).1) (Nat.le_of_eq g1)) all0)
  show Wp p e below _ _ T18 (mkF m 81 #[.val (.int (3 : Int32)), .val (.int za), .val (.int zb), .val (.int zc)] [(.ref a1)])
  have KK21 : Keep h0 h18 [] := (KK19.trans K18 (allS (Or.inr (Nat.le_of_eq g1)) all0))
  exact Wk.retA' X18 hx hlk hr rfl rfl (hb hby d2_81) (by decide) (by decide) (Qc := Q_rm_mk30 Z za zb zc G1 h0) e18 ⟨a1, t18, kb18, rfl, N18, KK21, q18_1, q18_2, q18_3, q18_4⟩
def Q_rm_mk31 (Z : State) (za : Int32) (zb : Int32) (zc : Int32) (G1 : Int32) (h0 : Heap) (v : Option Value) (h : Heap) (L : List Loc) : Prop := ∃ x : Addr, ∃ t : Addr, ∃ kb : ClassId, v = some (.ref x) ∧ Fk h0.size [] L ∧ Keep h0 h [] ∧ Exa Z h x "java/lang/String" ∧ Fld Z h x "java/lang/String" "coder" "B" (.int (1 : Int32)) ∧ Fld Z h x "java/lang/String" "value" "[B" (.ref t) ∧ Arv Z h t kb .byte (6 : Int32) [(.int (own_b0 za)), (.int (own_b1 za)), (.int (own_b0 zb)), (.int (own_b1 zb)), (.int (own_b0 zc)), (.int (own_b1 zc))] (.int (0 : Int32))
set_option maxRecDepth 65536 in
set_option maxHeartbeats 40000000 in
theorem rm_mk31 (l : Launch) (Z : State) (a0 : Array Value) (hw : ∀ d ∈ tables_1, d.before a0 Z = true) (ws : List Jvm.Cond) (za : Int32) (zb : Int32) (zc : Int32) (G1 : Int32) (h0 : Heap) (O0 : Old Z Z.heap.size h0) (sH : Sta Z Z.heap "java/lang/StringUTF16" "HI_BYTE_SHIFT" "I" (.int (0 : Int32))) (sL : Sta Z Z.heap "java/lang/StringUTF16" "LO_BYTE_SHIFT" "I" (.int (8 : Int32))) (sA : Sta Z Z.heap "java/lang/StringUTF16" "$assertionsDisabled" "Z" (.int (1 : Int32))) (SG1 : Sta Z Z.heap "java/lang/String" "COMPACT_STRINGS" "Z" (.int G1)) (nG1 : ¬ G1 = 0) (hcza : Chr za) (hczb : Chr zb) (hczc : Chr zc) (hlza : ¬ ((255 : Int32) < za)) (hgzb : (255 : Int32) < zb) :
    Ctr l Z (⟨"com/example/visad/visad/identity/CharactersWithinPinLaw", "make", "(ICCC)Ljava/lang/String;"⟩ : MethodName) method_5_code 4 (some (.object "java/lang/String")) ws ({ frames := 6, cells := 4, slots := 16, locals := 88 } : Room) #[(.int (3 : Int32)), (.int za), (.int zb), (.int zc)] h0 (Q_rm_mk31 Z za zb zc G1 h0) := by
  refine Ctr.intro (Ls := fun _ => #[.val (.int (3 : Int32)), .val (.int za), .val (.int zb), .val (.int zc)]) (plainFor_of_name pn10) (fun m => by first | rfl | (simp [entryFrame, mkF, argsToLocals, Value.category]; done)) ?_
  intro p e s m below meth c s₁ hx hby hml hr hlk hZ hown hnm hs0 X0 e0
  have w : ∀ (k : Nat) (d : Jvm.Cond), tables_1[k]? = some d → d.before a0 Z = true := fun k d q => hw d (List.mem_of_getElem? q)
  have N0 := Fk.nil h0.size []
  refine Wk.iloadN X0 hx (hb hby d2_0) rfl rfl ?_
  refine Wk.ifYes X0 hx (hb hby d2_1) (by decide) (q := 15) rfl ((if0 _ _).trans (feq (by decide : ¬ ((3 : Int32) = (0 : Int32)))).2) ?_
  refine Wk.iloadN X0 hx (hb hby d2_15) rfl rfl ?_
  refine Wk.iconst X0 hx (v := (1 : Int32)) (hb hby d2_16) rfl rfl ?_
  refine Wk.icmpYes X0 hx (hb hby d2_17) (by decide) (q := 35) rfl (feq (by decide : ¬ ((3 : Int32) = (1 : Int32)))).2 ?_
  refine Wk.iloadN X0 hx (hb hby d2_35) rfl rfl ?_
  refine Wk.iconst X0 hx (v := (2 : Int32)) (hb hby d2_36) rfl rfl ?_
  refine Wk.icmpYes X0 hx (hb hby d2_37) (by decide) (q := 59) rfl (feq (by decide : ¬ ((3 : Int32) = (2 : Int32)))).2 ?_
  refine Wk.new X0 hx hZ hown (w 8 _ rfl) (w 9 _ rfl) (w 10 _ rfl) e0 (hb hby d2_59) rfl (by decide) (by decide) ?_
  intro T1 h1 a1 g1 X1 e1 E1 A1 D1
  have O2 : Old Z Z.heap.size h1 := O0.ext E1
  have f3 : Fld Z h1 a1 "java/lang/String" "value" "[B" .null := D1 (Or.inr (w 24 _ rfl)) (ty := (.array .byte)) (by decide)
  have f4 : Fld Z h1 a1 "java/lang/String" "coder" "B" (.int (0 : Int32)) := D1 (Or.inr (w 25 _ rfl)) (ty := .byte) (by decide)
  refine Wk.dup X1 hx (hb hby d2_62) rfl rfl ?_
  refine Wk.iconst X1 hx (v := (3 : Int32)) (hb hby d2_63) rfl rfl ?_
  refine Wk.newarray X1 hx hZ (w 11 _ rfl) e1 (hb hby d2_64) rfl (by decide) 3 (by decide) (by decide) (by decide) (by decide) ?_
  intro T5 h5 a5 kA5 g5 X5 e5 E5 A5
  have O6 : Old Z Z.heap.size h5 := O2.ext E5
  have V5 : Arv Z h5 a5 kA5 .char (3 : Int32) [(.int (0 : Int32)), (.int (0 : Int32)), (.int (0 : Int32))] (.int (0 : Int32)) := A5.pad (pad_rep [] (.int (0 : Int32)) 3)
  refine Wk.dup X5 hx (hb hby d2_66) rfl rfl ?_
  refine Wk.iconst X5 hx (v := (0 : Int32)) (hb hby d2_67) rfl rfl ?_
  refine Wk.iloadN X5 hx (hb hby d2_68) rfl rfl ?_
  refine Wk.castore X5 hx hZ e5 V5 (by decide) (by decide) 0 rfl (Nat.le_of_ble_eq_true rfl) (w := za) (narC hcza) (hb hby d2_69) rfl ?_
  intro T7 h7 L7 M7 X7 e7 W7 A7
  have KK8 : Keep h0 h1 [] := ((Keep.refl h0 []).ext E1)
  have N7 := M7 _ _ N0 (Or.inr (Nat.le_trans KK8.1 (Nat.le_of_eq g5)))
  have O9 : Old Z Z.heap.size h7 := O6.wr W7 (Nat.le_trans (Nat.le_trans (Nat.le_trans (Nat.le_of_eq O0.1.symm) O0.2.1) KK8.1) (Nat.le_of_eq g5))
  have V7 : Arv Z h7 a5 kA5 .char (3 : Int32) [(.int za), (.int (0 : Int32)), (.int (0 : Int32))] (.int (0 : Int32)) := A7
  refine Wk.dup X7 hx (hb hby d2_70) rfl rfl ?_
  refine Wk.iconst X7 hx (v := (1 : Int32)) (hb hby d2_71) rfl rfl ?_
  refine Wk.iloadN X7 hx (hb hby d2_72) rfl rfl ?_
  refine Wk.castore X7 hx hZ e7 V7 (by decide) (by decide) 1 rfl (Nat.le_of_ble_eq_true rfl) (w := zb) (narC hczb) (hb hby d2_73) rfl ?_
  intro T10 h10 L10 M10 X10 e10 W10 A10
  have N10 := M10 _ _ N7 (Or.inr (Nat.le_trans KK8.1 (Nat.le_of_eq g5)))
  have O11 : Old Z Z.heap.size h10 := O9.wr W10 (Nat.le_trans (Nat.le_trans (Nat.le_trans (Nat.le_of_eq O0.1.symm) O0.2.1) KK8.1) (Nat.le_of_eq g5))
  have V10 : Arv Z h10 a5 kA5 .char (3 : Int32) [(.int za), (.int zb), (.int (0 : Int32))] (.int (0 : Int32)) := A10
  refine Wk.dup X10 hx (hb hby d2_74) rfl rfl ?_
  refine Wk.iconst X10 hx (v := (2 : Int32)) (hb hby d2_75) rfl rfl ?_
  refine Wk.iloadN X10 hx (hb hby d2_76) rfl rfl ?_
  refine Wk.castore X10 hx hZ e10 V10 (by decide) (by decide) 2 rfl (Nat.le_of_ble_eq_true rfl) (w := zc) (narC hczc) (hb hby d2_77) rfl ?_
  intro T12 h12 L12 M12 X12 e12 W12 A12
  have N12 := M12 _ _ N10 (Or.inr (Nat.le_trans KK8.1 (Nat.le_of_eq g5)))
  have O13 : Old Z Z.heap.size h12 := O11.wr W12 (Nat.le_trans (Nat.le_trans (Nat.le_trans (Nat.le_of_eq O0.1.symm) O0.2.1) KK8.1) (Nat.le_of_eq g5))
  have V12 : Arv Z h12 a5 kA5 .char (3 : Int32) [(.int za), (.int zb), (.int zc)] (.int (0 : Int32)) := A12
  have KK14 : Keep h1 h12 [] := (((((Keep.refl h1 []).ext E5).wr W7 (Or.inr (Nat.le_of_eq g5))).wr W10 (Or.inr (Nat.le_of_eq g5))).wr W12 (Or.inr (Nat.le_of_eq g5)))
  have f15 : Exa Z h12 a1 "java/lang/String" := (A1.keep KK14)
  have f16 : Fld Z h12 a1 "java/lang/String" "value" "[B" .null := (f3.keep KK14 nin0)
  have f17 : Fld Z h12 a1 "java/lang/String" "coder" "B" (.int (0 : Int32)) := (f4.keep KK14 nin0)
  refine Wk.callI X12 hx hZ rfl hown (w 12 _ rfl) (w 13 _ rfl) (w 14 _ rfl) (by decide) (as' := [(.ref a5)]) (backOf (W := 1) (rm_ic_31 l Z a0 hw [] a1 a5 kA5 G1 za zb zc h12 O13 sH sL sA SG1 nG1 f15 f16 f17 (Nat.le_trans (Nat.le_trans (Nat.le_trans (Nat.le_of_eq O0.1.symm) O0.2.1) (Keep.refl h0 []).1) (Nat.le_of_eq g1)) V12 hcza hczb hczc hlza hgzb) hZ (w 14 _ rfl) (w 10 _ rfl) (by decide) (by decide)) e12 (by rw [hml]; rfl) (rest := [(.ref a1)]) (lenOf pd11 rfl) rfl (Nat.le_of_eq rfl) (hb hby d2_78) rfl (by decide) (by decide) ?_
  intro T18 h18 v18 L18 X18 e18 hQ18
  obtain ⟨t18, kb18, rfl, Nq18, K18, q18_0, q18_1, q18_2, q18_3, q18_4⟩ := hQ18
  have KK19 : Keep h0 h12 [] := ((((KK8.ext E5).wr W7 (Or.inr (Nat.le_trans KK8.1 (Nat.le_of_eq g5)))).wr W10 (Or.inr (Nat.le_trans KK8.1 (Nat.le_of_eq g5)))).wr W12 (Or.inr (Nat.le_trans KK8.1 (Nat.le_of_eq g5))))
  have N18 := Fk.app N12 Nq18 KK19.1 (allS (Or.inr (Nat.le_of_eq g1)) all0)
  have O20 : Old Z Z.heap.size h18 := O13.keep K18 (allS (Nat.le_trans (Nat.le_trans (Nat.le_trans (Nat.le_of_eq O0.1.symm) O0.2.1) (Keep.refl h0 []).1) (Nat.le_of_eq g1)) all0)
  show Wp p e below _ _ T18 (mkF m 81 #[.val (.int (3 : Int32)), .val (.int za), .val (.int zb), .val (.int zc)] [(.ref a1)])
  have KK21 : Keep h0 h18 [] := (KK19.trans K18 (allS (Or.inr (Nat.le_of_eq g1)) all0))
  exact Wk.retA' X18 hx hlk hr rfl rfl (hb hby d2_81) (by decide) (by decide) (Qc := Q_rm_mk31 Z za zb zc G1 h0) e18 ⟨a1, t18, kb18, rfl, N18, KK21, q18_1, q18_2, q18_3, q18_4⟩
def Q_rm_mk32 (Z : State) (za : Int32) (zb : Int32) (zc : Int32) (G1 : Int32) (h0 : Heap) (v : Option Value) (h : Heap) (L : List Loc) : Prop := ∃ x : Addr, ∃ t : Addr, ∃ kb : ClassId, v = some (.ref x) ∧ Fk h0.size [] L ∧ Keep h0 h [] ∧ Exa Z h x "java/lang/String" ∧ Fld Z h x "java/lang/String" "coder" "B" (.int (1 : Int32)) ∧ Fld Z h x "java/lang/String" "value" "[B" (.ref t) ∧ Arv Z h t kb .byte (6 : Int32) [(.int (own_b0 za)), (.int (own_b1 za)), (.int (own_b0 zb)), (.int (own_b1 zb)), (.int (own_b0 zc)), (.int (own_b1 zc))] (.int (0 : Int32))
set_option maxRecDepth 65536 in
set_option maxHeartbeats 40000000 in
theorem rm_mk32 (l : Launch) (Z : State) (a0 : Array Value) (hw : ∀ d ∈ tables_1, d.before a0 Z = true) (ws : List Jvm.Cond) (za : Int32) (zb : Int32) (zc : Int32) (G1 : Int32) (h0 : Heap) (O0 : Old Z Z.heap.size h0) (sH : Sta Z Z.heap "java/lang/StringUTF16" "HI_BYTE_SHIFT" "I" (.int (0 : Int32))) (sL : Sta Z Z.heap "java/lang/StringUTF16" "LO_BYTE_SHIFT" "I" (.int (8 : Int32))) (sA : Sta Z Z.heap "java/lang/StringUTF16" "$assertionsDisabled" "Z" (.int (1 : Int32))) (SG1 : Sta Z Z.heap "java/lang/String" "COMPACT_STRINGS" "Z" (.int G1)) (nG1 : ¬ G1 = 0) (hcza : Chr za) (hczb : Chr zb) (hczc : Chr zc) (hlza : ¬ ((255 : Int32) < za)) (hlzb : ¬ ((255 : Int32) < zb)) (hgzc : (255 : Int32) < zc) :
    Ctr l Z (⟨"com/example/visad/visad/identity/CharactersWithinPinLaw", "make", "(ICCC)Ljava/lang/String;"⟩ : MethodName) method_5_code 4 (some (.object "java/lang/String")) ws ({ frames := 6, cells := 4, slots := 16, locals := 88 } : Room) #[(.int (3 : Int32)), (.int za), (.int zb), (.int zc)] h0 (Q_rm_mk32 Z za zb zc G1 h0) := by
  refine Ctr.intro (Ls := fun _ => #[.val (.int (3 : Int32)), .val (.int za), .val (.int zb), .val (.int zc)]) (plainFor_of_name pn10) (fun m => by first | rfl | (simp [entryFrame, mkF, argsToLocals, Value.category]; done)) ?_
  intro p e s m below meth c s₁ hx hby hml hr hlk hZ hown hnm hs0 X0 e0
  have w : ∀ (k : Nat) (d : Jvm.Cond), tables_1[k]? = some d → d.before a0 Z = true := fun k d q => hw d (List.mem_of_getElem? q)
  have N0 := Fk.nil h0.size []
  refine Wk.iloadN X0 hx (hb hby d2_0) rfl rfl ?_
  refine Wk.ifYes X0 hx (hb hby d2_1) (by decide) (q := 15) rfl ((if0 _ _).trans (feq (by decide : ¬ ((3 : Int32) = (0 : Int32)))).2) ?_
  refine Wk.iloadN X0 hx (hb hby d2_15) rfl rfl ?_
  refine Wk.iconst X0 hx (v := (1 : Int32)) (hb hby d2_16) rfl rfl ?_
  refine Wk.icmpYes X0 hx (hb hby d2_17) (by decide) (q := 35) rfl (feq (by decide : ¬ ((3 : Int32) = (1 : Int32)))).2 ?_
  refine Wk.iloadN X0 hx (hb hby d2_35) rfl rfl ?_
  refine Wk.iconst X0 hx (v := (2 : Int32)) (hb hby d2_36) rfl rfl ?_
  refine Wk.icmpYes X0 hx (hb hby d2_37) (by decide) (q := 59) rfl (feq (by decide : ¬ ((3 : Int32) = (2 : Int32)))).2 ?_
  refine Wk.new X0 hx hZ hown (w 8 _ rfl) (w 9 _ rfl) (w 10 _ rfl) e0 (hb hby d2_59) rfl (by decide) (by decide) ?_
  intro T1 h1 a1 g1 X1 e1 E1 A1 D1
  have O2 : Old Z Z.heap.size h1 := O0.ext E1
  have f3 : Fld Z h1 a1 "java/lang/String" "value" "[B" .null := D1 (Or.inr (w 24 _ rfl)) (ty := (.array .byte)) (by decide)
  have f4 : Fld Z h1 a1 "java/lang/String" "coder" "B" (.int (0 : Int32)) := D1 (Or.inr (w 25 _ rfl)) (ty := .byte) (by decide)
  refine Wk.dup X1 hx (hb hby d2_62) rfl rfl ?_
  refine Wk.iconst X1 hx (v := (3 : Int32)) (hb hby d2_63) rfl rfl ?_
  refine Wk.newarray X1 hx hZ (w 11 _ rfl) e1 (hb hby d2_64) rfl (by decide) 3 (by decide) (by decide) (by decide) (by decide) ?_
  intro T5 h5 a5 kA5 g5 X5 e5 E5 A5
  have O6 : Old Z Z.heap.size h5 := O2.ext E5
  have V5 : Arv Z h5 a5 kA5 .char (3 : Int32) [(.int (0 : Int32)), (.int (0 : Int32)), (.int (0 : Int32))] (.int (0 : Int32)) := A5.pad (pad_rep [] (.int (0 : Int32)) 3)
  refine Wk.dup X5 hx (hb hby d2_66) rfl rfl ?_
  refine Wk.iconst X5 hx (v := (0 : Int32)) (hb hby d2_67) rfl rfl ?_
  refine Wk.iloadN X5 hx (hb hby d2_68) rfl rfl ?_
  refine Wk.castore X5 hx hZ e5 V5 (by decide) (by decide) 0 rfl (Nat.le_of_ble_eq_true rfl) (w := za) (narC hcza) (hb hby d2_69) rfl ?_
  intro T7 h7 L7 M7 X7 e7 W7 A7
  have KK8 : Keep h0 h1 [] := ((Keep.refl h0 []).ext E1)
  have N7 := M7 _ _ N0 (Or.inr (Nat.le_trans KK8.1 (Nat.le_of_eq g5)))
  have O9 : Old Z Z.heap.size h7 := O6.wr W7 (Nat.le_trans (Nat.le_trans (Nat.le_trans (Nat.le_of_eq O0.1.symm) O0.2.1) KK8.1) (Nat.le_of_eq g5))
  have V7 : Arv Z h7 a5 kA5 .char (3 : Int32) [(.int za), (.int (0 : Int32)), (.int (0 : Int32))] (.int (0 : Int32)) := A7
  refine Wk.dup X7 hx (hb hby d2_70) rfl rfl ?_
  refine Wk.iconst X7 hx (v := (1 : Int32)) (hb hby d2_71) rfl rfl ?_
  refine Wk.iloadN X7 hx (hb hby d2_72) rfl rfl ?_
  refine Wk.castore X7 hx hZ e7 V7 (by decide) (by decide) 1 rfl (Nat.le_of_ble_eq_true rfl) (w := zb) (narC hczb) (hb hby d2_73) rfl ?_
  intro T10 h10 L10 M10 X10 e10 W10 A10
  have N10 := M10 _ _ N7 (Or.inr (Nat.le_trans KK8.1 (Nat.le_of_eq g5)))
  have O11 : Old Z Z.heap.size h10 := O9.wr W10 (Nat.le_trans (Nat.le_trans (Nat.le_trans (Nat.le_of_eq O0.1.symm) O0.2.1) KK8.1) (Nat.le_of_eq g5))
  have V10 : Arv Z h10 a5 kA5 .char (3 : Int32) [(.int za), (.int zb), (.int (0 : Int32))] (.int (0 : Int32)) := A10
  refine Wk.dup X10 hx (hb hby d2_74) rfl rfl ?_
  refine Wk.iconst X10 hx (v := (2 : Int32)) (hb hby d2_75) rfl rfl ?_
  refine Wk.iloadN X10 hx (hb hby d2_76) rfl rfl ?_
  refine Wk.castore X10 hx hZ e10 V10 (by decide) (by decide) 2 rfl (Nat.le_of_ble_eq_true rfl) (w := zc) (narC hczc) (hb hby d2_77) rfl ?_
  intro T12 h12 L12 M12 X12 e12 W12 A12
  have N12 := M12 _ _ N10 (Or.inr (Nat.le_trans KK8.1 (Nat.le_of_eq g5)))
  have O13 : Old Z Z.heap.size h12 := O11.wr W12 (Nat.le_trans (Nat.le_trans (Nat.le_trans (Nat.le_of_eq O0.1.symm) O0.2.1) KK8.1) (Nat.le_of_eq g5))
  have V12 : Arv Z h12 a5 kA5 .char (3 : Int32) [(.int za), (.int zb), (.int zc)] (.int (0 : Int32)) := A12
  have KK14 : Keep h1 h12 [] := (((((Keep.refl h1 []).ext E5).wr W7 (Or.inr (Nat.le_of_eq g5))).wr W10 (Or.inr (Nat.le_of_eq g5))).wr W12 (Or.inr (Nat.le_of_eq g5)))
  have f15 : Exa Z h12 a1 "java/lang/String" := (A1.keep KK14)
  have f16 : Fld Z h12 a1 "java/lang/String" "value" "[B" .null := (f3.keep KK14 nin0)
  have f17 : Fld Z h12 a1 "java/lang/String" "coder" "B" (.int (0 : Int32)) := (f4.keep KK14 nin0)
  refine Wk.callI X12 hx hZ rfl hown (w 12 _ rfl) (w 13 _ rfl) (w 14 _ rfl) (by decide) (as' := [(.ref a5)]) (backOf (W := 1) (rm_ic_32 l Z a0 hw [] a1 a5 kA5 G1 za zb zc h12 O13 sH sL sA SG1 nG1 f15 f16 f17 (Nat.le_trans (Nat.le_trans (Nat.le_trans (Nat.le_of_eq O0.1.symm) O0.2.1) (Keep.refl h0 []).1) (Nat.le_of_eq g1)) V12 hcza hczb hczc hlza hlzb hgzc) hZ (w 14 _ rfl) (w 10 _ rfl) (by decide) (by decide)) e12 (by rw [hml]; rfl) (rest := [(.ref a1)]) (lenOf pd11 rfl) rfl (Nat.le_of_eq rfl) (hb hby d2_78) rfl (by decide) (by decide) ?_
  intro T18 h18 v18 L18 X18 e18 hQ18
  obtain ⟨t18, kb18, rfl, Nq18, K18, q18_0, q18_1, q18_2, q18_3, q18_4⟩ := hQ18
  have KK19 : Keep h0 h12 [] := ((((KK8.ext E5).wr W7 (Or.inr (Nat.le_trans KK8.1 (Nat.le_of_eq g5)))).wr W10 (Or.inr (Nat.le_trans KK8.1 (Nat.le_of_eq g5)))).wr W12 (Or.inr (Nat.le_trans KK8.1 (Nat.le_of_eq g5))))
  have N18 := Fk.app N12 Nq18 KK19.1 (allS (Or.inr (Nat.le_of_eq g1)) all0)
  have O20 : Old Z Z.heap.size h18 := O13.keep K18 (allS (Nat.le_trans (Nat.le_trans (Nat.le_trans (Nat.le_of_eq O0.1.symm) O0.2.1) (Keep.refl h0 []).1) (Nat.le_of_eq g1)) all0)
  show Wp p e below _ _ T18 (mkF m 81 #[.val (.int (3 : Int32)), .val (.int za), .val (.int zb), .val (.int zc)] [(.ref a1)])
  have KK21 : Keep h0 h18 [] := (KK19.trans K18 (allS (Or.inr (Nat.le_of_eq g1)) all0))
  exact Wk.retA' X18 hx hlk hr rfl rfl (hb hby d2_81) (by decide) (by decide) (Qc := Q_rm_mk32 Z za zb zc G1 h0) e18 ⟨a1, t18, kb18, rfl, N18, KK21, q18_1, q18_2, q18_3, q18_4⟩
def Q_rm_mk3L (Z : State) (za : Int32) (zb : Int32) (zc : Int32) (G1 : Int32) (h0 : Heap) (v : Option Value) (h : Heap) (L : List Loc) : Prop := ∃ x : Addr, ∃ t : Addr, ∃ kb : ClassId, ∃ lb : List Value, v = some (.ref x) ∧ Fk h0.size [] L ∧ Keep h0 h [] ∧ Exa Z h x "java/lang/String" ∧ Fld Z h x "java/lang/String" "coder" "B" (.int (0 : Int32)) ∧ Fld Z h x "java/lang/String" "value" "[B" (.ref t) ∧ Arv Z h t kb .byte (3 : Int32) lb (.int (0 : Int32))
set_option maxRecDepth 65536 in
set_option maxHeartbeats 40000000 in
theorem rm_mk3L (l : Launch) (Z : State) (a0 : Array Value) (hw : ∀ d ∈ tables_1, d.before a0 Z = true) (ws : List Jvm.Cond) (za : Int32) (zb : Int32) (zc : Int32) (G1 : Int32) (h0 : Heap) (O0 : Old Z Z.heap.size h0) (SG1 : Sta Z Z.heap "java/lang/String" "COMPACT_STRINGS" "Z" (.int G1)) (nG1 : ¬ G1 = 0) (hLza : Lat za) (hLzb : Lat zb) (hLzc : Lat zc) :
    Ctr l Z (⟨"com/example/visad/visad/identity/CharactersWithinPinLaw", "make", "(ICCC)Ljava/lang/String;"⟩ : MethodName) method_5_code 4 (some (.object "java/lang/String")) ws ({ frames := 4, cells := 3, slots := 10, locals := 66 } : Room) #[(.int (3 : Int32)), (.int za), (.int zb), (.int zc)] h0 (Q_rm_mk3L Z za zb zc G1 h0) := by
  refine Ctr.intro (Ls := fun _ => #[.val (.int (3 : Int32)), .val (.int za), .val (.int zb), .val (.int zc)]) (plainFor_of_name pn10) (fun m => by first | rfl | (simp [entryFrame, mkF, argsToLocals, Value.category]; done)) ?_
  intro p e s m below meth c s₁ hx hby hml hr hlk hZ hown hnm hs0 X0 e0
  have w : ∀ (k : Nat) (d : Jvm.Cond), tables_1[k]? = some d → d.before a0 Z = true := fun k d q => hw d (List.mem_of_getElem? q)
  have N0 := Fk.nil h0.size []
  refine Wk.iloadN X0 hx (hb hby d2_0) rfl rfl ?_
  refine Wk.ifYes X0 hx (hb hby d2_1) (by decide) (q := 15) rfl ((if0 _ _).trans (feq (by decide : ¬ ((3 : Int32) = (0 : Int32)))).2) ?_
  refine Wk.iloadN X0 hx (hb hby d2_15) rfl rfl ?_
  refine Wk.iconst X0 hx (v := (1 : Int32)) (hb hby d2_16) rfl rfl ?_
  refine Wk.icmpYes X0 hx (hb hby d2_17) (by decide) (q := 35) rfl (feq (by decide : ¬ ((3 : Int32) = (1 : Int32)))).2 ?_
  refine Wk.iloadN X0 hx (hb hby d2_35) rfl rfl ?_
  refine Wk.iconst X0 hx (v := (2 : Int32)) (hb hby d2_36) rfl rfl ?_
  refine Wk.icmpYes X0 hx (hb hby d2_37) (by decide) (q := 59) rfl (feq (by decide : ¬ ((3 : Int32) = (2 : Int32)))).2 ?_
  refine Wk.new X0 hx hZ hown (w 8 _ rfl) (w 9 _ rfl) (w 10 _ rfl) e0 (hb hby d2_59) rfl (by decide) (by decide) ?_
  intro T1 h1 a1 g1 X1 e1 E1 A1 D1
  have O2 : Old Z Z.heap.size h1 := O0.ext E1
  have f3 : Fld Z h1 a1 "java/lang/String" "value" "[B" .null := D1 (Or.inr (w 24 _ rfl)) (ty := (.array .byte)) (by decide)
  have f4 : Fld Z h1 a1 "java/lang/String" "coder" "B" (.int (0 : Int32)) := D1 (Or.inr (w 25 _ rfl)) (ty := .byte) (by decide)
  refine Wk.dup X1 hx (hb hby d2_62) rfl rfl ?_
  refine Wk.iconst X1 hx (v := (3 : Int32)) (hb hby d2_63) rfl rfl ?_
  refine Wk.newarray X1 hx hZ (w 11 _ rfl) e1 (hb hby d2_64) rfl (by decide) 3 (by decide) (by decide) (by decide) (by decide) ?_
  intro T5 h5 a5 kA5 g5 X5 e5 E5 A5
  have O6 : Old Z Z.heap.size h5 := O2.ext E5
  have V5 : Arv Z h5 a5 kA5 .char (3 : Int32) [(.int (0 : Int32)), (.int (0 : Int32)), (.int (0 : Int32))] (.int (0 : Int32)) := A5.pad (pad_rep [] (.int (0 : Int32)) 3)
  refine Wk.dup X5 hx (hb hby d2_66) rfl rfl ?_
  refine Wk.iconst X5 hx (v := (0 : Int32)) (hb hby d2_67) rfl rfl ?_
  refine Wk.iloadN X5 hx (hb hby d2_68) rfl rfl ?_
  refine Wk.castore X5 hx hZ e5 V5 (by decide) (by decide) 0 rfl (Nat.le_of_ble_eq_true rfl) (w := za) (narC hLza.chr) (hb hby d2_69) rfl ?_
  intro T7 h7 L7 M7 X7 e7 W7 A7
  have KK8 : Keep h0 h1 [] := ((Keep.refl h0 []).ext E1)
  have N7 := M7 _ _ N0 (Or.inr (Nat.le_trans KK8.1 (Nat.le_of_eq g5)))
  have O9 : Old Z Z.heap.size h7 := O6.wr W7 (Nat.le_trans (Nat.le_trans (Nat.le_trans (Nat.le_of_eq O0.1.symm) O0.2.1) KK8.1) (Nat.le_of_eq g5))
  have V7 : Arv Z h7 a5 kA5 .char (3 : Int32) [(.int za), (.int (0 : Int32)), (.int (0 : Int32))] (.int (0 : Int32)) := A7
  refine Wk.dup X7 hx (hb hby d2_70) rfl rfl ?_
  refine Wk.iconst X7 hx (v := (1 : Int32)) (hb hby d2_71) rfl rfl ?_
  refine Wk.iloadN X7 hx (hb hby d2_72) rfl rfl ?_
  refine Wk.castore X7 hx hZ e7 V7 (by decide) (by decide) 1 rfl (Nat.le_of_ble_eq_true rfl) (w := zb) (narC hLzb.chr) (hb hby d2_73) rfl ?_
  intro T10 h10 L10 M10 X10 e10 W10 A10
  have N10 := M10 _ _ N7 (Or.inr (Nat.le_trans KK8.1 (Nat.le_of_eq g5)))
  have O11 : Old Z Z.heap.size h10 := O9.wr W10 (Nat.le_trans (Nat.le_trans (Nat.le_trans (Nat.le_of_eq O0.1.symm) O0.2.1) KK8.1) (Nat.le_of_eq g5))
  have V10 : Arv Z h10 a5 kA5 .char (3 : Int32) [(.int za), (.int zb), (.int (0 : Int32))] (.int (0 : Int32)) := A10
  refine Wk.dup X10 hx (hb hby d2_74) rfl rfl ?_
  refine Wk.iconst X10 hx (v := (2 : Int32)) (hb hby d2_75) rfl rfl ?_
  refine Wk.iloadN X10 hx (hb hby d2_76) rfl rfl ?_
  refine Wk.castore X10 hx hZ e10 V10 (by decide) (by decide) 2 rfl (Nat.le_of_ble_eq_true rfl) (w := zc) (narC hLzc.chr) (hb hby d2_77) rfl ?_
  intro T12 h12 L12 M12 X12 e12 W12 A12
  have N12 := M12 _ _ N10 (Or.inr (Nat.le_trans KK8.1 (Nat.le_of_eq g5)))
  have O13 : Old Z Z.heap.size h12 := O11.wr W12 (Nat.le_trans (Nat.le_trans (Nat.le_trans (Nat.le_of_eq O0.1.symm) O0.2.1) KK8.1) (Nat.le_of_eq g5))
  have V12 : Arv Z h12 a5 kA5 .char (3 : Int32) [(.int za), (.int zb), (.int zc)] (.int (0 : Int32)) := A12
  have hws_words : ∀ d ∈ StrChars.Road.words, d.before a0 Z = true := fun d hd => hw d ((by decide +kernel : ∀ d ∈ StrChars.Road.words, d ∈ tables_1) d hd)
  have KK14 : Keep h1 h12 [] := (((((Keep.refl h1 []).ext E5).wr W7 (Or.inr (Nat.le_of_eq g5))).wr W10 (Or.inr (Nat.le_of_eq g5))).wr W12 (Or.inr (Nat.le_of_eq g5)))
  have f15 : Exa Z h12 a1 "java/lang/String" := (A1.keep KK14)
  have f16 : Fld Z h12 a1 "java/lang/String" "value" "[B" .null := (f3.keep KK14 nin0)
  have f17 : Fld Z h12 a1 "java/lang/String" "coder" "B" (.int (0 : Int32)) := (f4.keep KK14 nin0)
  have KK18 : Keep h0 h12 [] := ((((KK8.ext E5).wr W7 (Or.inr (Nat.le_trans KK8.1 (Nat.le_of_eq g5)))).wr W10 (Or.inr (Nat.le_trans KK8.1 (Nat.le_of_eq g5)))).wr W12 (Or.inr (Nat.le_trans KK8.1 (Nat.le_of_eq g5))))
  refine Wk.callI X12 hx hZ rfl hown (w 12 _ rfl) (w 13 _ rfl) (w 14 _ rfl) (by decide) (as' := [(.ref a5)]) (StrChars.Road.backV (W := 1) hZ hws_words (kI := 4) (w 9 _ rfl) (cs := ([za, zb, zc] : List Int32)) (bs := (([za, zb, zc] : List Int32).map (fun c => c.toInt8.toInt32))) (n := 3) (Nat.le_of_eq g1) KK18.1 f15 f16 f17 V12 (SG1.ext O13.2) nG1 rfl rfl (by decide) (by decide) (latCons hLza (latCons hLzb (latCons hLzc latNil))) rfl (by decide) (by decide)) e12 (by rw [hml]; rfl) (rest := [(.ref a1)]) (lenOf pd11 rfl) rfl (Nat.le_of_eq rfl) (hb hby d2_78) rfl (by decide) (by decide) ?_
  intro T19 h19 v19 L19 X19 e19 hQ19
  obtain ⟨rfl, Nq19, K19, E19s, C19s, t19, kb19, z19a, z19b, z19c, V19s, B19s⟩ := hQ19
  have N19 := Fk.app N12 (Fk.of_fr (ws := []) Nq19) (Nat.le_refl _) all0
  have O20 : Old Z Z.heap.size h19 := O13.keep K19 (allS (Nat.le_trans (Nat.le_trans (Nat.le_trans (Nat.le_of_eq O0.1.symm) O0.2.1) (Keep.refl h0 []).1) (Nat.le_of_eq g1)) all0)
  show Wp p e below _ _ T19 (mkF m 81 #[.val (.int (3 : Int32)), .val (.int za), .val (.int zb), .val (.int zc)] [(.ref a1)])
  have KK21 : Keep h0 h19 [] := (KK18.trans K19 (allS (Or.inr (Nat.le_of_eq g1)) all0))
  exact Wk.retA' X19 hx hlk hr rfl rfl (hb hby d2_81) (by decide) (by decide) (Qc := Q_rm_mk3L Z za zb zc G1 h0) e19 ⟨a1, t19, kb19, ((([za, zb, zc] : List Int32).map (fun c => c.toInt8.toInt32)).map Value.int), rfl, N19, KK21, E19s, C19s, V19s, B19s⟩
theorem d1_0 : decode method_2_code 0 = .ok (.iload_n 0, 1) := by decide +kernel
theorem d1_1 : decode method_2_code 1 = .ok (.bipush 16, 2) := by decide +kernel
theorem d1_3 : decode method_2_code 3 = .ok (.iushr, 1) := by decide +kernel
theorem d1_4 : decode method_2_code 4 = .ok (.iconst 3, 1) := by decide +kernel
theorem d1_5 : decode method_2_code 5 = .ok (.iand, 1) := by decide +kernel
theorem d1_6 : decode method_2_code 6 = .ok (.istore_n 1, 1) := by decide +kernel
theorem d1_7 : decode method_2_code 7 = .ok (.iload_n 1, 1) := by decide +kernel
theorem d1_8 : decode method_2_code 8 = .ok (.ifCond .ne 9, 3) := by decide +kernel
theorem d1_11 : decode method_2_code 11 = .ok (.iload_n 0, 1) := by decide +kernel
theorem d1_12 : decode method_2_code 12 = .ok (.ldc 7, 2) := by decide +kernel
theorem d1_14 : decode method_2_code 14 = .ok (.iand, 1) := by decide +kernel
theorem d1_15 : decode method_2_code 15 = .ok (.i2c, 1) := by decide +kernel
theorem d1_16 : decode method_2_code 16 = .ok (.ireturn, 1) := by decide +kernel
theorem d1_17 : decode method_2_code 17 = .ok (.iload_n 1, 1) := by decide +kernel
theorem d1_18 : decode method_2_code 18 = .ok (.iconst 1, 1) := by decide +kernel
theorem d1_19 : decode method_2_code 19 = .ok (.if_icmp .ne 13, 3) := by decide +kernel
theorem d1_22 : decode method_2_code 22 = .ok (.ldc 8, 2) := by decide +kernel
theorem d1_24 : decode method_2_code 24 = .ok (.iload_n 0, 1) := by decide +kernel
theorem d1_25 : decode method_2_code 25 = .ok (.sipush 1023, 3) := by decide +kernel
theorem d1_28 : decode method_2_code 28 = .ok (.iand, 1) := by decide +kernel
theorem d1_29 : decode method_2_code 29 = .ok (.ior, 1) := by decide +kernel
theorem d1_30 : decode method_2_code 30 = .ok (.i2c, 1) := by decide +kernel
theorem d1_31 : decode method_2_code 31 = .ok (.ireturn, 1) := by decide +kernel
theorem d1_32 : decode method_2_code 32 = .ok (.iload_n 1, 1) := by decide +kernel
theorem d1_33 : decode method_2_code 33 = .ok (.iconst 2, 1) := by decide +kernel
theorem d1_34 : decode method_2_code 34 = .ok (.if_icmp .ne 13, 3) := by decide +kernel
theorem d1_37 : decode method_2_code 37 = .ok (.ldc 9, 2) := by decide +kernel
theorem d1_39 : decode method_2_code 39 = .ok (.iload_n 0, 1) := by decide +kernel
theorem d1_40 : decode method_2_code 40 = .ok (.sipush 1023, 3) := by decide +kernel
theorem d1_43 : decode method_2_code 43 = .ok (.iand, 1) := by decide +kernel
theorem d1_44 : decode method_2_code 44 = .ok (.ior, 1) := by decide +kernel
theorem d1_45 : decode method_2_code 45 = .ok (.i2c, 1) := by decide +kernel
theorem d1_46 : decode method_2_code 46 = .ok (.ireturn, 1) := by decide +kernel
theorem d1_47 : decode method_2_code 47 = .ok (.iload_n 0, 1) := by decide +kernel
theorem d1_48 : decode method_2_code 48 = .ok (.sipush 255, 3) := by decide +kernel
theorem d1_51 : decode method_2_code 51 = .ok (.iand, 1) := by decide +kernel
theorem d1_52 : decode method_2_code 52 = .ok (.i2c, 1) := by decide +kernel
theorem d1_53 : decode method_2_code 53 = .ok (.ireturn, 1) := by decide +kernel
def Q_rm_draw (Z : State) (ix : Int32) (h0 : Heap) (v : Option Value) (h : Heap) (L : List Loc) : Prop := ∃ zz : Int32, v = some (.int zz) ∧ Fk h0.size [] L ∧ h = h0 ∧ Chr zz
set_option maxRecDepth 65536 in
set_option maxHeartbeats 40000000 in
theorem rm_draw (l : Launch) (Z : State) (a0 : Array Value) (hw : ∀ d ∈ tables_1, d.before a0 Z = true) (ws : List Jvm.Cond) (ix : Int32) (h0 : Heap) (O0 : Old Z Z.heap.size h0) :
    Ctr l Z (⟨"com/example/visad/visad/identity/CharactersWithinPinLaw", "draw", "(I)C"⟩ : MethodName) method_2_code 2 (some .char) ws ({ frames := 0, cells := 0, slots := 0, locals := 0 } : Room) #[(.int ix)] h0 (Q_rm_draw Z ix h0) := by
  refine Ctr.intro (Ls := fun _ => #[.val (.int ix), .unset]) (plainFor_of_name pn10) (fun m => by first | rfl | (simp [entryFrame, mkF, argsToLocals, Value.category]; done)) ?_
  intro p e s m below meth c s₁ hx hby hml hr hlk hZ hown hnm hs0 X0 e0
  have w : ∀ (k : Nat) (d : Jvm.Cond), tables_1[k]? = some d → d.before a0 Z = true := fun k d q => hw d (List.mem_of_getElem? q)
  have N0 := Fk.nil h0.size []
  refine Wk.iloadN X0 hx (hb hby d1_0) rfl rfl ?_
  refine Wk.bipush X0 hx (v := (16 : Int32)) (hb hby d1_1) rfl rfl ?_
  refine Wk.iushr X0 hx (hb hby d1_3) rfl ?_
  refine Wk.iconst X0 hx (v := (3 : Int32)) (hb hby d1_4) rfl rfl ?_
  refine Wk.iand X0 hx (hb hby d1_5) rfl ?_
  refine Wk.istoreNA X0 hx (Ls' := fun z => #[.val (.int ix), .val (.int z)]) (hb hby d1_6) rfl (fun _ => rfl) ?_
  intro i1 hi1
  show Wp p e below _ _ s₁ (mkF m 7 #[.val (.int ix), .val (.int i1)] [])
  refine Wk.iloadN X0 hx (hb hby d1_7) rfl rfl ?_
  by_cases hc2 : i1 = (0 : Int32)
  · skip
    refine Wk.ifNo X0 hx (hb hby d1_8) rfl ((if0 _ _).trans (teq hc2).2) ?_
    refine Wk.iloadN X0 hx (hb hby d1_11) rfl rfl ?_
    refine Wk.ldcInt X0 hx hZ hown (w 4 _ rfl) (hb hby d1_12) rfl ?_
    refine Wk.iand X0 hx (hb hby d1_14) rfl ?_
    refine Wk.i2c X0 hx (hb hby d1_15) rfl ?_
    intro c3 hc3
    have Lc3 : Chr c3 := chr_i2c hc3
    exact Wk.retZ' X0 hx hlk hr (by simp) (hb hby d1_16) (by decide) (by decide) (Qc := Q_rm_draw Z ix h0) e0 ⟨c3, (congrArg (fun q => some (Value.int q)) (narC Lc3)), N0, rfl, Lc3⟩
  · skip
    refine Wk.ifYes X0 hx (hb hby d1_8) (by decide) (q := 17) rfl ((if0 _ _).trans (feq hc2).2) ?_
    refine Wk.iloadN X0 hx (hb hby d1_17) rfl rfl ?_
    refine Wk.iconst X0 hx (v := (1 : Int32)) (hb hby d1_18) rfl rfl ?_
    by_cases hc4 : i1 = (1 : Int32)
    · skip
      refine Wk.icmpNo X0 hx (hb hby d1_19) rfl (teq hc4).2 ?_
      refine Wk.ldcInt X0 hx hZ hown (w 75 _ rfl) (hb hby d1_22) rfl ?_
      refine Wk.iloadN X0 hx (hb hby d1_24) rfl rfl ?_
      refine Wk.sipush X0 hx (v := (1023 : Int32)) (hb hby d1_25) rfl rfl ?_
      refine Wk.iand X0 hx (hb hby d1_28) rfl ?_
      refine Wk.ior X0 hx (hb hby d1_29) rfl ?_
      refine Wk.i2c X0 hx (hb hby d1_30) rfl ?_
      intro c5 hc5
      have Lc5 : Chr c5 := chr_i2c hc5
      exact Wk.retZ' X0 hx hlk hr (by simp) (hb hby d1_31) (by decide) (by decide) (Qc := Q_rm_draw Z ix h0) e0 ⟨c5, (congrArg (fun q => some (Value.int q)) (narC Lc5)), N0, rfl, Lc5⟩
    · skip
      refine Wk.icmpYes X0 hx (hb hby d1_19) (by decide) (q := 32) rfl (feq hc4).2 ?_
      refine Wk.iloadN X0 hx (hb hby d1_32) rfl rfl ?_
      refine Wk.iconst X0 hx (v := (2 : Int32)) (hb hby d1_33) rfl rfl ?_
      by_cases hc6 : i1 = (2 : Int32)
      · skip
        refine Wk.icmpNo X0 hx (hb hby d1_34) rfl (teq hc6).2 ?_
        refine Wk.ldcInt X0 hx hZ hown (w 74 _ rfl) (hb hby d1_37) rfl ?_
        refine Wk.iloadN X0 hx (hb hby d1_39) rfl rfl ?_
        refine Wk.sipush X0 hx (v := (1023 : Int32)) (hb hby d1_40) rfl rfl ?_
        refine Wk.iand X0 hx (hb hby d1_43) rfl ?_
        refine Wk.ior X0 hx (hb hby d1_44) rfl ?_
        refine Wk.i2c X0 hx (hb hby d1_45) rfl ?_
        intro c7 hc7
        have Lc7 : Chr c7 := chr_i2c hc7
        exact Wk.retZ' X0 hx hlk hr (by simp) (hb hby d1_46) (by decide) (by decide) (Qc := Q_rm_draw Z ix h0) e0 ⟨c7, (congrArg (fun q => some (Value.int q)) (narC Lc7)), N0, rfl, Lc7⟩
      · skip
        refine Wk.icmpYes X0 hx (hb hby d1_34) (by decide) (q := 47) rfl (feq hc6).2 ?_
        refine Wk.iloadN X0 hx (hb hby d1_47) rfl rfl ?_
        refine Wk.sipush X0 hx (v := (255 : Int32)) (hb hby d1_48) rfl rfl ?_
        refine Wk.iand X0 hx (hb hby d1_51) rfl ?_
        refine Wk.i2c X0 hx (hb hby d1_52) rfl ?_
        intro c8 hc8
        have Lc8 : Lat c8 := lat255 hc8
        exact Wk.retZ' X0 hx hlk hr (by simp) (hb hby d1_53) (by decide) (by decide) (Qc := Q_rm_draw Z ix h0) e0 ⟨c8, (congrArg (fun q => some (Value.int q)) (narC Lc8.chr)), N0, rfl, Lc8.chr⟩
theorem pn12 : plainName "java/lang/Character" = true := by first | (simp [plainName, overriddenIn]; done) | decide +kernel
theorem d24_0 : decode jdk_89_method_14_code 0 = .ok (.iload_n 0, 1) := by decide +kernel
theorem d24_1 : decode jdk_89_method_14_code 1 = .ok (.ldc 75, 2) := by decide +kernel
theorem d24_3 : decode jdk_89_method_14_code 3 = .ok (.if_icmp .lt 13, 3) := by decide +kernel
theorem d24_16 : decode jdk_89_method_14_code 16 = .ok (.iconst 0, 1) := by decide +kernel
theorem d24_17 : decode jdk_89_method_14_code 17 = .ok (.ireturn, 1) := by decide +kernel
theorem d24_6 : decode jdk_89_method_14_code 6 = .ok (.iload_n 0, 1) := by decide +kernel
theorem d24_7 : decode jdk_89_method_14_code 7 = .ok (.ldc 76, 2) := by decide +kernel
theorem d24_9 : decode jdk_89_method_14_code 9 = .ok (.if_icmp .ge 7, 3) := by decide +kernel
theorem d24_12 : decode jdk_89_method_14_code 12 = .ok (.iconst 1, 1) := by decide +kernel
theorem d24_13 : decode jdk_89_method_14_code 13 = .ok (.goto 4, 3) := by decide +kernel
def Q_rm_jhi (Z : State) (zz : Int32) (h0 : Heap) (v : Option Value) (h : Heap) (L : List Loc) : Prop := ∃ r : Int32, v = some (.int r) ∧ Fk h0.size [] L ∧ h = h0 ∧ ((r = 1 ∧ Hi zz) ∨ (r = 0 ∧ ¬ Hi zz))
set_option maxRecDepth 65536 in
set_option maxHeartbeats 40000000 in
theorem rm_jhi (l : Launch) (Z : State) (a0 : Array Value) (hw : ∀ d ∈ tables_1, d.before a0 Z = true) (ws : List Jvm.Cond) (zz : Int32) (h0 : Heap) (O0 : Old Z Z.heap.size h0) :
    Ctr l Z (⟨"java/lang/Character", "isHighSurrogate", "(C)Z"⟩ : MethodName) jdk_89_method_14_code 1 (some .boolean) ws ({ frames := 0, cells := 0, slots := 0, locals := 0 } : Room) #[(.int zz)] h0 (Q_rm_jhi Z zz h0) := by
  refine Ctr.intro (Ls := fun _ => #[.val (.int zz)]) (plainFor_of_name pn12) (fun m => by first | rfl | (simp [entryFrame, mkF, argsToLocals, Value.category]; done)) ?_
  intro p e s m below meth c s₁ hx hby hml hr hlk hZ hown hnm hs0 X0 e0
  have w : ∀ (k : Nat) (d : Jvm.Cond), tables_1[k]? = some d → d.before a0 Z = true := fun k d q => hw d (List.mem_of_getElem? q)
  have N0 := Fk.nil h0.size []
  refine Wk.iloadN X0 hx (hb hby d24_0) rfl rfl ?_
  refine Wk.ldcInt X0 hx hZ hown (w 108 _ rfl) (hb hby d24_1) rfl ?_
  by_cases hc1 : zz < (55296 : Int32)
  · skip
    refine Wk.icmpYes X0 hx (hb hby d24_3) (by decide) (q := 16) rfl (tlt hc1).1 ?_
    refine Wk.iconst X0 hx (v := (0 : Int32)) (hb hby d24_16) rfl rfl ?_
    exact Wk.retZ' X0 hx hlk hr (by simp) (hb hby d24_17) (by decide) (by decide) (Qc := Q_rm_jhi Z zz h0) e0 ⟨(0 : Int32), rfl, N0, rfl, (Or.inr ⟨rfl, own_hi.1 hc1⟩)⟩
  · skip
    refine Wk.icmpNo X0 hx (hb hby d24_3) rfl (flt hc1).1 ?_
    refine Wk.iloadN X0 hx (hb hby d24_6) rfl rfl ?_
    refine Wk.ldcInt X0 hx hZ hown (w 113 _ rfl) (hb hby d24_7) rfl ?_
    by_cases hc2 : zz < (56320 : Int32)
    · skip
      refine Wk.icmpNo X0 hx (hb hby d24_9) rfl (tlt hc2).2.1 ?_
      refine Wk.iconst X0 hx (v := (1 : Int32)) (hb hby d24_12) rfl rfl ?_
      refine Wk.goto X0 hx (hb hby d24_13) (by decide) (q := 17) rfl ?_
      exact Wk.retZ' X0 hx hlk hr (by simp) (hb hby d24_17) (by decide) (by decide) (Qc := Q_rm_jhi Z zz h0) e0 ⟨(1 : Int32), rfl, N0, rfl, (Or.inl ⟨rfl, own_hi.2.1 hc1 hc2⟩)⟩
    · skip
      refine Wk.icmpYes X0 hx (hb hby d24_9) (by decide) (q := 16) rfl (flt hc2).2.1 ?_
      refine Wk.iconst X0 hx (v := (0 : Int32)) (hb hby d24_16) rfl rfl ?_
      exact Wk.retZ' X0 hx hlk hr (by simp) (hb hby d24_17) (by decide) (by decide) (Qc := Q_rm_jhi Z zz h0) e0 ⟨(0 : Int32), rfl, N0, rfl, (Or.inr ⟨rfl, own_hi.2.2.1 hc2⟩)⟩
theorem d26_0 : decode jdk_89_method_15_code 0 = .ok (.iload_n 0, 1) := by decide +kernel
theorem d26_1 : decode jdk_89_method_15_code 1 = .ok (.ldc 76, 2) := by decide +kernel
theorem d26_3 : decode jdk_89_method_15_code 3 = .ok (.if_icmp .lt 13, 3) := by decide +kernel
theorem d26_16 : decode jdk_89_method_15_code 16 = .ok (.iconst 0, 1) := by decide +kernel
theorem d26_17 : decode jdk_89_method_15_code 17 = .ok (.ireturn, 1) := by decide +kernel
theorem d26_6 : decode jdk_89_method_15_code 6 = .ok (.iload_n 0, 1) := by decide +kernel
theorem d26_7 : decode jdk_89_method_15_code 7 = .ok (.ldc 77, 2) := by decide +kernel
theorem d26_9 : decode jdk_89_method_15_code 9 = .ok (.if_icmp .ge 7, 3) := by decide +kernel
theorem d26_12 : decode jdk_89_method_15_code 12 = .ok (.iconst 1, 1) := by decide +kernel
theorem d26_13 : decode jdk_89_method_15_code 13 = .ok (.goto 4, 3) := by decide +kernel
def Q_rm_jlo (Z : State) (zz : Int32) (h0 : Heap) (v : Option Value) (h : Heap) (L : List Loc) : Prop := ∃ r : Int32, v = some (.int r) ∧ Fk h0.size [] L ∧ h = h0 ∧ ((r = 1 ∧ Lo zz) ∨ (r = 0 ∧ ¬ Lo zz))
set_option maxRecDepth 65536 in
set_option maxHeartbeats 40000000 in
theorem rm_jlo (l : Launch) (Z : State) (a0 : Array Value) (hw : ∀ d ∈ tables_1, d.before a0 Z = true) (ws : List Jvm.Cond) (zz : Int32) (h0 : Heap) (O0 : Old Z Z.heap.size h0) :
    Ctr l Z (⟨"java/lang/Character", "isLowSurrogate", "(C)Z"⟩ : MethodName) jdk_89_method_15_code 1 (some .boolean) ws ({ frames := 0, cells := 0, slots := 0, locals := 0 } : Room) #[(.int zz)] h0 (Q_rm_jlo Z zz h0) := by
  refine Ctr.intro (Ls := fun _ => #[.val (.int zz)]) (plainFor_of_name pn12) (fun m => by first | rfl | (simp [entryFrame, mkF, argsToLocals, Value.category]; done)) ?_
  intro p e s m below meth c s₁ hx hby hml hr hlk hZ hown hnm hs0 X0 e0
  have w : ∀ (k : Nat) (d : Jvm.Cond), tables_1[k]? = some d → d.before a0 Z = true := fun k d q => hw d (List.mem_of_getElem? q)
  have N0 := Fk.nil h0.size []
  refine Wk.iloadN X0 hx (hb hby d26_0) rfl rfl ?_
  refine Wk.ldcInt X0 hx hZ hown (w 113 _ rfl) (hb hby d26_1) rfl ?_
  by_cases hc1 : zz < (56320 : Int32)
  · skip
    refine Wk.icmpYes X0 hx (hb hby d26_3) (by decide) (q := 16) rfl (tlt hc1).1 ?_
    refine Wk.iconst X0 hx (v := (0 : Int32)) (hb hby d26_16) rfl rfl ?_
    exact Wk.retZ' X0 hx hlk hr (by simp) (hb hby d26_17) (by decide) (by decide) (Qc := Q_rm_jlo Z zz h0) e0 ⟨(0 : Int32), rfl, N0, rfl, (Or.inr ⟨rfl, own_lo.1 hc1⟩)⟩
  · skip
    refine Wk.icmpNo X0 hx (hb hby d26_3) rfl (flt hc1).1 ?_
    refine Wk.iloadN X0 hx (hb hby d26_6) rfl rfl ?_
    refine Wk.ldcInt X0 hx hZ hown (w 118 _ rfl) (hb hby d26_7) rfl ?_
    by_cases hc2 : zz < (57344 : Int32)
    · skip
      refine Wk.icmpNo X0 hx (hb hby d26_9) rfl (tlt hc2).2.1 ?_
      refine Wk.iconst X0 hx (v := (1 : Int32)) (hb hby d26_12) rfl rfl ?_
      refine Wk.goto X0 hx (hb hby d26_13) (by decide) (q := 17) rfl ?_
      exact Wk.retZ' X0 hx hlk hr (by simp) (hb hby d26_17) (by decide) (by decide) (Qc := Q_rm_jlo Z zz h0) e0 ⟨(1 : Int32), rfl, N0, rfl, (Or.inl ⟨rfl, own_lo.2.1 hc1 hc2⟩)⟩
    · skip
      refine Wk.icmpYes X0 hx (hb hby d26_9) (by decide) (q := 16) rfl (flt hc2).2.1 ?_
      refine Wk.iconst X0 hx (v := (0 : Int32)) (hb hby d26_16) rfl rfl ?_
      exact Wk.retZ' X0 hx hlk hr (by simp) (hb hby d26_17) (by decide) (by decide) (Qc := Q_rm_jlo Z zz h0) e0 ⟨(0 : Int32), rfl, N0, rfl, (Or.inr ⟨rfl, own_lo.2.2.1 hc2⟩)⟩
theorem d21_0 : decode method_3_code 0 = .ok (.iload_n 0, 1) := by decide +kernel
theorem d21_1 : decode method_3_code 1 = .ok (.ldc 8, 2) := by decide +kernel
theorem d21_3 : decode method_3_code 3 = .ok (.if_icmp .lt 13, 3) := by decide +kernel
theorem d21_16 : decode method_3_code 16 = .ok (.iconst 0, 1) := by decide +kernel
theorem d21_17 : decode method_3_code 17 = .ok (.ireturn, 1) := by decide +kernel
theorem d21_6 : decode method_3_code 6 = .ok (.iload_n 0, 1) := by decide +kernel
theorem d21_7 : decode method_3_code 7 = .ok (.ldc 10, 2) := by decide +kernel
theorem d21_9 : decode method_3_code 9 = .ok (.if_icmp .gt 7, 3) := by decide +kernel
theorem d21_12 : decode method_3_code 12 = .ok (.iconst 1, 1) := by decide +kernel
theorem d21_13 : decode method_3_code 13 = .ok (.goto 4, 3) := by decide +kernel
def Q_rm_lhi (Z : State) (zz : Int32) (h0 : Heap) (v : Option Value) (h : Heap) (L : List Loc) : Prop := ∃ r : Int32, v = some (.int r) ∧ Fk h0.size [] L ∧ h = h0 ∧ ((r = 1 ∧ Hi zz) ∨ (r = 0 ∧ ¬ Hi zz))
set_option maxRecDepth 65536 in
set_option maxHeartbeats 40000000 in
theorem rm_lhi (l : Launch) (Z : State) (a0 : Array Value) (hw : ∀ d ∈ tables_1, d.before a0 Z = true) (ws : List Jvm.Cond) (zz : Int32) (h0 : Heap) (O0 : Old Z Z.heap.size h0) :
    Ctr l Z (⟨"com/example/visad/visad/identity/CharactersWithinPinLaw", "isHigh", "(C)Z"⟩ : MethodName) method_3_code 1 (some .boolean) ws ({ frames := 0, cells := 0, slots := 0, locals := 0 } : Room) #[(.int zz)] h0 (Q_rm_lhi Z zz h0) := by
  refine Ctr.intro (Ls := fun _ => #[.val (.int zz)]) (plainFor_of_name pn10) (fun m => by first | rfl | (simp [entryFrame, mkF, argsToLocals, Value.category]; done)) ?_
  intro p e s m below meth c s₁ hx hby hml hr hlk hZ hown hnm hs0 X0 e0
  have w : ∀ (k : Nat) (d : Jvm.Cond), tables_1[k]? = some d → d.before a0 Z = true := fun k d q => hw d (List.mem_of_getElem? q)
  have N0 := Fk.nil h0.size []
  refine Wk.iloadN X0 hx (hb hby d21_0) rfl rfl ?_
  refine Wk.ldcInt X0 hx hZ hown (w 75 _ rfl) (hb hby d21_1) rfl ?_
  by_cases hc1 : zz < (55296 : Int32)
  · skip
    refine Wk.icmpYes X0 hx (hb hby d21_3) (by decide) (q := 16) rfl (tlt hc1).1 ?_
    refine Wk.iconst X0 hx (v := (0 : Int32)) (hb hby d21_16) rfl rfl ?_
    exact Wk.retZ' X0 hx hlk hr (by simp) (hb hby d21_17) (by decide) (by decide) (Qc := Q_rm_lhi Z zz h0) e0 ⟨(0 : Int32), rfl, N0, rfl, (Or.inr ⟨rfl, own_hi.1 hc1⟩)⟩
  · skip
    refine Wk.icmpNo X0 hx (hb hby d21_3) rfl (flt hc1).1 ?_
    refine Wk.iloadN X0 hx (hb hby d21_6) rfl rfl ?_
    refine Wk.ldcInt X0 hx hZ hown (w 109 _ rfl) (hb hby d21_7) rfl ?_
    by_cases hc2 : (56319 : Int32) < zz
    · skip
      refine Wk.icmpYes X0 hx (hb hby d21_9) (by decide) (q := 16) rfl (tlt hc2).2.2.1 ?_
      refine Wk.iconst X0 hx (v := (0 : Int32)) (hb hby d21_16) rfl rfl ?_
      exact Wk.retZ' X0 hx hlk hr (by simp) (hb hby d21_17) (by decide) (by decide) (Qc := Q_rm_lhi Z zz h0) e0 ⟨(0 : Int32), rfl, N0, rfl, (Or.inr ⟨rfl, own_hi.2.2.2.2 hc2⟩)⟩
    · skip
      refine Wk.icmpNo X0 hx (hb hby d21_9) rfl (flt hc2).2.2.1 ?_
      refine Wk.iconst X0 hx (v := (1 : Int32)) (hb hby d21_12) rfl rfl ?_
      refine Wk.goto X0 hx (hb hby d21_13) (by decide) (q := 17) rfl ?_
      exact Wk.retZ' X0 hx hlk hr (by simp) (hb hby d21_17) (by decide) (by decide) (Qc := Q_rm_lhi Z zz h0) e0 ⟨(1 : Int32), rfl, N0, rfl, (Or.inl ⟨rfl, own_hi.2.2.2.1 hc1 hc2⟩)⟩
theorem d25_0 : decode method_4_code 0 = .ok (.iload_n 0, 1) := by decide +kernel
theorem d25_1 : decode method_4_code 1 = .ok (.ldc 9, 2) := by decide +kernel
theorem d25_3 : decode method_4_code 3 = .ok (.if_icmp .lt 13, 3) := by decide +kernel
theorem d25_16 : decode method_4_code 16 = .ok (.iconst 0, 1) := by decide +kernel
theorem d25_17 : decode method_4_code 17 = .ok (.ireturn, 1) := by decide +kernel
theorem d25_6 : decode method_4_code 6 = .ok (.iload_n 0, 1) := by decide +kernel
theorem d25_7 : decode method_4_code 7 = .ok (.ldc 11, 2) := by decide +kernel
theorem d25_9 : decode method_4_code 9 = .ok (.if_icmp .gt 7, 3) := by decide +kernel
theorem d25_12 : decode method_4_code 12 = .ok (.iconst 1, 1) := by decide +kernel
theorem d25_13 : decode method_4_code 13 = .ok (.goto 4, 3) := by decide +kernel
def Q_rm_llo (Z : State) (zz : Int32) (h0 : Heap) (v : Option Value) (h : Heap) (L : List Loc) : Prop := ∃ r : Int32, v = some (.int r) ∧ Fk h0.size [] L ∧ h = h0 ∧ ((r = 1 ∧ Lo zz) ∨ (r = 0 ∧ ¬ Lo zz))
set_option maxRecDepth 65536 in
set_option maxHeartbeats 40000000 in
theorem rm_llo (l : Launch) (Z : State) (a0 : Array Value) (hw : ∀ d ∈ tables_1, d.before a0 Z = true) (ws : List Jvm.Cond) (zz : Int32) (h0 : Heap) (O0 : Old Z Z.heap.size h0) :
    Ctr l Z (⟨"com/example/visad/visad/identity/CharactersWithinPinLaw", "isLow", "(C)Z"⟩ : MethodName) method_4_code 1 (some .boolean) ws ({ frames := 0, cells := 0, slots := 0, locals := 0 } : Room) #[(.int zz)] h0 (Q_rm_llo Z zz h0) := by
  refine Ctr.intro (Ls := fun _ => #[.val (.int zz)]) (plainFor_of_name pn10) (fun m => by first | rfl | (simp [entryFrame, mkF, argsToLocals, Value.category]; done)) ?_
  intro p e s m below meth c s₁ hx hby hml hr hlk hZ hown hnm hs0 X0 e0
  have w : ∀ (k : Nat) (d : Jvm.Cond), tables_1[k]? = some d → d.before a0 Z = true := fun k d q => hw d (List.mem_of_getElem? q)
  have N0 := Fk.nil h0.size []
  refine Wk.iloadN X0 hx (hb hby d25_0) rfl rfl ?_
  refine Wk.ldcInt X0 hx hZ hown (w 74 _ rfl) (hb hby d25_1) rfl ?_
  by_cases hc1 : zz < (56320 : Int32)
  · skip
    refine Wk.icmpYes X0 hx (hb hby d25_3) (by decide) (q := 16) rfl (tlt hc1).1 ?_
    refine Wk.iconst X0 hx (v := (0 : Int32)) (hb hby d25_16) rfl rfl ?_
    exact Wk.retZ' X0 hx hlk hr (by simp) (hb hby d25_17) (by decide) (by decide) (Qc := Q_rm_llo Z zz h0) e0 ⟨(0 : Int32), rfl, N0, rfl, (Or.inr ⟨rfl, own_lo.1 hc1⟩)⟩
  · skip
    refine Wk.icmpNo X0 hx (hb hby d25_3) rfl (flt hc1).1 ?_
    refine Wk.iloadN X0 hx (hb hby d25_6) rfl rfl ?_
    refine Wk.ldcInt X0 hx hZ hown (w 117 _ rfl) (hb hby d25_7) rfl ?_
    by_cases hc2 : (57343 : Int32) < zz
    · skip
      refine Wk.icmpYes X0 hx (hb hby d25_9) (by decide) (q := 16) rfl (tlt hc2).2.2.1 ?_
      refine Wk.iconst X0 hx (v := (0 : Int32)) (hb hby d25_16) rfl rfl ?_
      exact Wk.retZ' X0 hx hlk hr (by simp) (hb hby d25_17) (by decide) (by decide) (Qc := Q_rm_llo Z zz h0) e0 ⟨(0 : Int32), rfl, N0, rfl, (Or.inr ⟨rfl, own_lo.2.2.2.2 hc2⟩)⟩
    · skip
      refine Wk.icmpNo X0 hx (hb hby d25_9) rfl (flt hc2).2.2.1 ?_
      refine Wk.iconst X0 hx (v := (1 : Int32)) (hb hby d25_12) rfl rfl ?_
      refine Wk.goto X0 hx (hb hby d25_13) (by decide) (q := 17) rfl ?_
      exact Wk.retZ' X0 hx hlk hr (by simp) (hb hby d25_17) (by decide) (by decide) (Qc := Q_rm_llo Z zz h0) e0 ⟨(1 : Int32), rfl, N0, rfl, (Or.inl ⟨rfl, own_lo.2.2.2.1 hc1 hc2⟩)⟩
theorem d23_0 : decode jdk_52_method_11_code 0 = .ok (.getstatic 44, 3) := by decide +kernel
theorem d23_3 : decode jdk_52_method_11_code 3 = .ok (.ifCond .ne 16, 3) := by decide +kernel
theorem d23_19 : decode jdk_52_method_11_code 19 = .ok (.iload_n 2, 1) := by decide +kernel
theorem d23_20 : decode jdk_52_method_11_code 20 = .ok (.iload_n 1, 1) := by decide +kernel
theorem d23_21 : decode jdk_52_method_11_code 21 = .ok (.isub, 1) := by decide +kernel
theorem d23_22 : decode jdk_52_method_11_code 22 = .ok (.istore 4, 2) := by decide +kernel
theorem d23_24 : decode jdk_52_method_11_code 24 = .ok (.iload_n 1, 1) := by decide +kernel
theorem d23_25 : decode jdk_52_method_11_code 25 = .ok (.istore 5, 2) := by decide +kernel
theorem d23_27 : decode jdk_52_method_11_code 27 = .ok (.iload_n 3, 1) := by decide +kernel
theorem d23_28 : decode jdk_52_method_11_code 28 = .ok (.ifCond .eq 16, 3) := by decide +kernel
theorem d23_44 : decode jdk_52_method_11_code 44 = .ok (.iload 5, 2) := by decide +kernel
theorem d23_46 : decode jdk_52_method_11_code 46 = .ok (.iload_n 2, 1) := by decide +kernel
theorem d23_47 : decode jdk_52_method_11_code 47 = .ok (.iconst 1, 1) := by decide +kernel
theorem d23_48 : decode jdk_52_method_11_code 48 = .ok (.isub, 1) := by decide +kernel
theorem d23_49 : decode jdk_52_method_11_code 49 = .ok (.if_icmp .ge 39, 3) := by decide +kernel
theorem d23_88 : decode jdk_52_method_11_code 88 = .ok (.iload 4, 2) := by decide +kernel
theorem d23_90 : decode jdk_52_method_11_code 90 = .ok (.ireturn, 1) := by decide +kernel
def Q_rm_cc4_1 (Z : State) (t : Addr) (kb : ClassId) (za : Int32) (h0 : Heap) (v : Option Value) (h : Heap) (L : List Loc) : Prop := ∃ r : Int32, v = some (.int r) ∧ Fk h0.size [] L ∧ h = h0 ∧ Cnt1 za r
set_option maxRecDepth 65536 in
set_option maxHeartbeats 40000000 in
theorem rm_cc4_1 (l : Launch) (Z : State) (a0 : Array Value) (hw : ∀ d ∈ tables_1, d.before a0 Z = true) (ws : List Jvm.Cond) (t : Addr) (kb : ClassId) (za : Int32) (h0 : Heap) (O0 : Old Z Z.heap.size h0) (sH : Sta Z Z.heap "java/lang/StringUTF16" "HI_BYTE_SHIFT" "I" (.int (0 : Int32))) (sL : Sta Z Z.heap "java/lang/StringUTF16" "LO_BYTE_SHIFT" "I" (.int (8 : Int32))) (sA : Sta Z Z.heap "java/lang/StringUTF16" "$assertionsDisabled" "Z" (.int (1 : Int32))) (hA : Arv Z h0 t kb .byte (2 : Int32) [(.int (own_b0 za)), (.int (own_b1 za))] (.int (0 : Int32))) (hcza : Chr za) :
    Ctr l Z (⟨"java/lang/StringUTF16", "codePointCount", "([BIIZ)I"⟩ : MethodName) jdk_52_method_11_code 6 (some .int) ws ({ frames := 0, cells := 0, slots := 0, locals := 0 } : Room) #[(.ref t), (.int (0 : Int32)), (.int (1 : Int32)), (.int (0 : Int32))] h0 (Q_rm_cc4_1 Z t kb za h0) := by
  refine Ctr.intro (Ls := fun _ => #[.val (.ref t), .val (.int (0 : Int32)), .val (.int (1 : Int32)), .val (.int (0 : Int32)), .unset, .unset]) (plainFor_of_name pn0) (fun m => by first | rfl | (simp [entryFrame, mkF, argsToLocals, Value.category]; done)) ?_
  intro p e s m below meth c s₁ hx hby hml hr hlk hZ hown hnm hs0 X0 e0
  have w : ∀ (k : Nat) (d : Jvm.Cond), tables_1[k]? = some d → d.before a0 Z = true := fun k d q => hw d (List.mem_of_getElem? q)
  have N0 := Fk.nil h0.size []
  refine Wk.getstatic X0 hx hZ hown (host := "") (Or.inl (w 89 _ rfl)) Via.refl e0 (sA.ext O0.2) (hb hby d23_0) rfl ?_
  intro T1 X1 e1
  refine Wk.ifYes X1 hx (hb hby d23_3) (by decide) (q := 19) rfl ((if0 _ _).trans (feq (by decide : ¬ ((1 : Int32) = (0 : Int32)))).2) ?_
  refine Wk.iloadN X1 hx (hb hby d23_19) rfl rfl ?_
  refine Wk.iloadN X1 hx (hb hby d23_20) rfl rfl ?_
  refine Wk.isub X1 hx (hb hby d23_21) rfl ?_
  rw [(by decide : (((1 : Int32) - (0 : Int32)) : Int32) = (1 : Int32))]
  refine Wk.istore X1 hx (Ls' := #[.val (.ref t), .val (.int (0 : Int32)), .val (.int (1 : Int32)), .val (.int (0 : Int32)), .val (.int (1 : Int32)), .unset]) (hb hby d23_22) rfl rfl ?_
  refine Wk.iloadN X1 hx (hb hby d23_24) rfl rfl ?_
  refine Wk.istore X1 hx (Ls' := #[.val (.ref t), .val (.int (0 : Int32)), .val (.int (1 : Int32)), .val (.int (0 : Int32)), .val (.int (1 : Int32)), .val (.int (0 : Int32))]) (hb hby d23_25) rfl rfl ?_
  refine Wk.iloadN X1 hx (hb hby d23_27) rfl rfl ?_
  refine Wk.ifYes X1 hx (hb hby d23_28) (by decide) (q := 44) rfl ((if0 _ _).trans (teq (by decide : (0 : Int32) = (0 : Int32))).1) ?_
  refine Wk.iload X1 hx (hb hby d23_44) rfl rfl ?_
  refine Wk.iloadN X1 hx (hb hby d23_46) rfl rfl ?_
  refine Wk.iconst X1 hx (v := (1 : Int32)) (hb hby d23_47) rfl rfl ?_
  refine Wk.isub X1 hx (hb hby d23_48) rfl ?_
  rw [(by decide : (((1 : Int32) - (1 : Int32)) : Int32) = (0 : Int32))]
  refine Wk.icmpYes X1 hx (hb hby d23_49) (by decide) (q := 88) rfl (flt (by decide : ¬ ((0 : Int32) < (0 : Int32)))).2.1 ?_
  refine Wk.iload X1 hx (hb hby d23_88) rfl rfl ?_
  exact Wk.retI' X1 hx hlk hr (hb hby d23_90) (by decide) (by decide) (Qc := Q_rm_cc4_1 Z t kb za h0) e1 ⟨(1 : Int32), rfl, N0, rfl, (by simp [Cnt1])⟩
theorem d22_0 : decode jdk_52_method_12_code 0 = .ok (.aload_n 0, 1) := by decide +kernel
theorem d22_1 : decode jdk_52_method_12_code 1 = .ok (.iload_n 1, 1) := by decide +kernel
theorem d22_2 : decode jdk_52_method_12_code 2 = .ok (.iload_n 2, 1) := by decide +kernel
theorem d22_3 : decode jdk_52_method_12_code 3 = .ok (.iconst 0, 1) := by decide +kernel
theorem d22_4 : decode jdk_52_method_12_code 4 = .ok (.invokestatic 100, 3) := by decide +kernel
theorem pd13 : parseMethodDescriptor "([BIIZ)I" = some ⟨[(.array .byte), .int, .int, .boolean], some .int⟩ := by decide +kernel
theorem d22_7 : decode jdk_52_method_12_code 7 = .ok (.ireturn, 1) := by decide +kernel
def Q_rm_cc3_1 (Z : State) (t : Addr) (kb : ClassId) (za : Int32) (h0 : Heap) (v : Option Value) (h : Heap) (L : List Loc) : Prop := ∃ r : Int32, v = some (.int r) ∧ Fk h0.size [] L ∧ h = h0 ∧ Cnt1 za r
set_option maxRecDepth 65536 in
set_option maxHeartbeats 40000000 in
theorem rm_cc3_1 (l : Launch) (Z : State) (a0 : Array Value) (hw : ∀ d ∈ tables_1, d.before a0 Z = true) (ws : List Jvm.Cond) (t : Addr) (kb : ClassId) (za : Int32) (h0 : Heap) (O0 : Old Z Z.heap.size h0) (sH : Sta Z Z.heap "java/lang/StringUTF16" "HI_BYTE_SHIFT" "I" (.int (0 : Int32))) (sL : Sta Z Z.heap "java/lang/StringUTF16" "LO_BYTE_SHIFT" "I" (.int (8 : Int32))) (sA : Sta Z Z.heap "java/lang/StringUTF16" "$assertionsDisabled" "Z" (.int (1 : Int32))) (hA : Arv Z h0 t kb .byte (2 : Int32) [(.int (own_b0 za)), (.int (own_b1 za))] (.int (0 : Int32))) (hcza : Chr za) :
    Ctr l Z (⟨"java/lang/StringUTF16", "codePointCount", "([BII)I"⟩ : MethodName) jdk_52_method_12_code 3 (some .int) ws ({ frames := 1, cells := 0, slots := 0, locals := 17 } : Room) #[(.ref t), (.int (0 : Int32)), (.int (1 : Int32))] h0 (Q_rm_cc3_1 Z t kb za h0) := by
  refine Ctr.intro (Ls := fun _ => #[.val (.ref t), .val (.int (0 : Int32)), .val (.int (1 : Int32))]) (plainFor_of_name pn0) (fun m => by first | rfl | (simp [entryFrame, mkF, argsToLocals, Value.category]; done)) ?_
  intro p e s m below meth c s₁ hx hby hml hr hlk hZ hown hnm hs0 X0 e0
  have w : ∀ (k : Nat) (d : Jvm.Cond), tables_1[k]? = some d → d.before a0 Z = true := fun k d q => hw d (List.mem_of_getElem? q)
  have N0 := Fk.nil h0.size []
  refine Wk.aloadN X0 hx (hb hby d22_0) rfl rfl rfl ?_
  refine Wk.iloadN X0 hx (hb hby d22_1) rfl rfl ?_
  refine Wk.iloadN X0 hx (hb hby d22_2) rfl rfl ?_
  refine Wk.iconst X0 hx (v := (0 : Int32)) (hb hby d22_3) rfl rfl ?_
  refine Wk.callS X0 hx hZ hown (w 101 _ rfl) (w 102 _ rfl) (w 66 _ rfl) (w 103 _ rfl) (by decide) (as' := [(.ref t), (.int (0 : Int32)), (.int (1 : Int32)), (.int (0 : Int32))]) (backOf (W := 0) (rm_cc4_1 l Z a0 hw [] t kb za h0 O0 sH sL sA hA hcza) hZ (w 103 _ rfl) (w 66 _ rfl) (by decide) (by decide)) e0 (by rw [hml]; rfl) (rest := []) (lenOf pd13 rfl) rfl (Nat.le_of_eq rfl) (hb hby d22_4) rfl (by decide) (by decide) ?_
  intro T1 h1 v1 L1 X1 e1 hQ1
  obtain ⟨r1, rfl, Nq1, K1, q1_0⟩ := hQ1
  have N1 := Fk.app N0 Nq1 (Nat.le_refl _) all0
  rw [K1] at e1
  show Wp p e below _ _ T1 (mkF m 7 #[.val (.ref t), .val (.int (0 : Int32)), .val (.int (1 : Int32))] [(.int r1)])
  exact Wk.retI' X1 hx hlk hr (hb hby d22_7) (by decide) (by decide) (Qc := Q_rm_cc3_1 Z t kb za h0) e1 ⟨r1, rfl, N1, rfl, q1_0⟩
theorem d23_52 : decode jdk_52_method_11_code 52 = .ok (.aload_n 0, 1) := by decide +kernel
theorem d23_53 : decode jdk_52_method_11_code 53 = .ok (.iload 5, 2) := by decide +kernel
theorem d23_55 : decode jdk_52_method_11_code 55 = .ok (.iinc 5 1, 3) := by decide +kernel
theorem d23_58 : decode jdk_52_method_11_code 58 = .ok (.invokestatic 71, 3) := by decide +kernel
theorem d23_61 : decode jdk_52_method_11_code 61 = .ok (.invokestatic 75, 3) := by decide +kernel
theorem pd14 : parseMethodDescriptor "(C)Z" = some ⟨[.char], some .boolean⟩ := by decide +kernel
theorem d23_64 : decode jdk_52_method_11_code 64 = .ok (.ifCond .eq (-20), 3) := by decide +kernel
theorem d23_67 : decode jdk_52_method_11_code 67 = .ok (.aload_n 0, 1) := by decide +kernel
theorem d23_68 : decode jdk_52_method_11_code 68 = .ok (.iload 5, 2) := by decide +kernel
theorem d23_70 : decode jdk_52_method_11_code 70 = .ok (.invokestatic 71, 3) := by decide +kernel
theorem d23_73 : decode jdk_52_method_11_code 73 = .ok (.invokestatic 81, 3) := by decide +kernel
theorem d23_76 : decode jdk_52_method_11_code 76 = .ok (.ifCond .eq (-32), 3) := by decide +kernel
theorem d23_79 : decode jdk_52_method_11_code 79 = .ok (.iinc 4 (-1), 3) := by decide +kernel
theorem d23_82 : decode jdk_52_method_11_code 82 = .ok (.iinc 5 1, 3) := by decide +kernel
theorem d23_85 : decode jdk_52_method_11_code 85 = .ok (.goto (-41), 3) := by decide +kernel
def Q_rm_cc4_2 (Z : State) (t : Addr) (kb : ClassId) (za : Int32) (zb : Int32) (h0 : Heap) (v : Option Value) (h : Heap) (L : List Loc) : Prop := ∃ r : Int32, v = some (.int r) ∧ Fk h0.size [] L ∧ h = h0 ∧ Cnt2 za zb r
set_option maxRecDepth 65536 in
set_option maxHeartbeats 40000000 in
theorem rm_cc4_2 (l : Launch) (Z : State) (a0 : Array Value) (hw : ∀ d ∈ tables_1, d.before a0 Z = true) (ws : List Jvm.Cond) (t : Addr) (kb : ClassId) (za : Int32) (zb : Int32) (h0 : Heap) (O0 : Old Z Z.heap.size h0) (sH : Sta Z Z.heap "java/lang/StringUTF16" "HI_BYTE_SHIFT" "I" (.int (0 : Int32))) (sL : Sta Z Z.heap "java/lang/StringUTF16" "LO_BYTE_SHIFT" "I" (.int (8 : Int32))) (sA : Sta Z Z.heap "java/lang/StringUTF16" "$assertionsDisabled" "Z" (.int (1 : Int32))) (hA : Arv Z h0 t kb .byte (4 : Int32) [(.int (own_b0 za)), (.int (own_b1 za)), (.int (own_b0 zb)), (.int (own_b1 zb))] (.int (0 : Int32))) (hcza : Chr za) (hczb : Chr zb) :
    Ctr l Z (⟨"java/lang/StringUTF16", "codePointCount", "([BIIZ)I"⟩ : MethodName) jdk_52_method_11_code 6 (some .int) ws ({ frames := 1, cells := 0, slots := 0, locals := 13 } : Room) #[(.ref t), (.int (0 : Int32)), (.int (2 : Int32)), (.int (0 : Int32))] h0 (Q_rm_cc4_2 Z t kb za zb h0) := by
  refine Ctr.intro (Ls := fun _ => #[.val (.ref t), .val (.int (0 : Int32)), .val (.int (2 : Int32)), .val (.int (0 : Int32)), .unset, .unset]) (plainFor_of_name pn0) (fun m => by first | rfl | (simp [entryFrame, mkF, argsToLocals, Value.category]; done)) ?_
  intro p e s m below meth c s₁ hx hby hml hr hlk hZ hown hnm hs0 X0 e0
  have w : ∀ (k : Nat) (d : Jvm.Cond), tables_1[k]? = some d → d.before a0 Z = true := fun k d q => hw d (List.mem_of_getElem? q)
  have N0 := Fk.nil h0.size []
  refine Wk.getstatic X0 hx hZ hown (host := "") (Or.inl (w 89 _ rfl)) Via.refl e0 (sA.ext O0.2) (hb hby d23_0) rfl ?_
  intro T1 X1 e1
  refine Wk.ifYes X1 hx (hb hby d23_3) (by decide) (q := 19) rfl ((if0 _ _).trans (feq (by decide : ¬ ((1 : Int32) = (0 : Int32)))).2) ?_
  refine Wk.iloadN X1 hx (hb hby d23_19) rfl rfl ?_
  refine Wk.iloadN X1 hx (hb hby d23_20) rfl rfl ?_
  refine Wk.isub X1 hx (hb hby d23_21) rfl ?_
  rw [(by decide : (((2 : Int32) - (0 : Int32)) : Int32) = (2 : Int32))]
  refine Wk.istore X1 hx (Ls' := #[.val (.ref t), .val (.int (0 : Int32)), .val (.int (2 : Int32)), .val (.int (0 : Int32)), .val (.int (2 : Int32)), .unset]) (hb hby d23_22) rfl rfl ?_
  refine Wk.iloadN X1 hx (hb hby d23_24) rfl rfl ?_
  refine Wk.istore X1 hx (Ls' := #[.val (.ref t), .val (.int (0 : Int32)), .val (.int (2 : Int32)), .val (.int (0 : Int32)), .val (.int (2 : Int32)), .val (.int (0 : Int32))]) (hb hby d23_25) rfl rfl ?_
  refine Wk.iloadN X1 hx (hb hby d23_27) rfl rfl ?_
  refine Wk.ifYes X1 hx (hb hby d23_28) (by decide) (q := 44) rfl ((if0 _ _).trans (teq (by decide : (0 : Int32) = (0 : Int32))).1) ?_
  refine Wk.iload X1 hx (hb hby d23_44) rfl rfl ?_
  refine Wk.iloadN X1 hx (hb hby d23_46) rfl rfl ?_
  refine Wk.iconst X1 hx (v := (1 : Int32)) (hb hby d23_47) rfl rfl ?_
  refine Wk.isub X1 hx (hb hby d23_48) rfl ?_
  rw [(by decide : (((2 : Int32) - (1 : Int32)) : Int32) = (1 : Int32))]
  refine Wk.icmpNo X1 hx (hb hby d23_49) rfl (tlt (by decide : (0 : Int32) < (1 : Int32))).2.1 ?_
  refine Wk.aloadN X1 hx (hb hby d23_52) rfl rfl rfl ?_
  refine Wk.iload X1 hx (hb hby d23_53) rfl rfl ?_
  refine Wk.iinc X1 hx (Ls' := #[.val (.ref t), .val (.int (0 : Int32)), .val (.int (2 : Int32)), .val (.int (0 : Int32)), .val (.int (2 : Int32)), .val (.int (1 : Int32))]) (hb hby d23_55) rfl rfl rfl ?_
  refine Wk.callS X1 hx hZ hown (w 92 _ rfl) (w 93 _ rfl) (w 66 _ rfl) (w 94 _ rfl) (by decide) (as' := [(.ref t), (.int (0 : Int32))]) (backOf (W := 0) (rm_get0 l Z a0 hw [] t za kb (4 : Int32) [(.int (own_b0 za)), (.int (own_b1 za)), (.int (own_b0 zb)), (.int (own_b1 zb))] h0 O0 sH sL sA hA (by first | assumption | rfl | decide | exact Nat.le_of_ble_eq_true rfl) (by first | assumption | rfl | decide | exact Nat.le_of_ble_eq_true rfl) (by first | assumption | rfl | decide | exact Nat.le_of_ble_eq_true rfl) (by first | assumption | rfl | decide | exact Nat.le_of_ble_eq_true rfl) hcza) hZ (w 94 _ rfl) (w 66 _ rfl) (by decide) (by decide)) e1 (by rw [hml]; rfl) (rest := []) (lenOf pd6 rfl) rfl (Nat.le_of_eq rfl) (hb hby d23_58) rfl (by decide) (by decide) ?_
  intro T2 h2 v2 L2 X2 e2 hQ2
  obtain ⟨rfl, Nq2, K2⟩ := hQ2
  have N2 := Fk.app N0 Nq2 (Nat.le_refl _) all0
  rw [K2] at e2
  show Wp p e below _ _ T2 (mkF m 61 #[.val (.ref t), .val (.int (0 : Int32)), .val (.int (2 : Int32)), .val (.int (0 : Int32)), .val (.int (2 : Int32)), .val (.int (1 : Int32))] [(.int za)])
  refine Wk.callS X2 hx hZ hown (w 104 _ rfl) (w 105 _ rfl) (w 106 _ rfl) (w 107 _ rfl) (by decide) (as' := [(.int za)]) (backOf (W := 0) (rm_jhi l Z a0 hw [] za h0 O0) hZ (w 107 _ rfl) (w 106 _ rfl) (by decide) (by decide)) e2 (by rw [hml]; rfl) (rest := []) (lenOf pd14 rfl) rfl (Nat.le_of_eq rfl) (hb hby d23_61) rfl (by decide) (by decide) ?_
  intro T3 h3 v3 L3 X3 e3 hQ3
  obtain ⟨r3, rfl, Nq3, K3, q3_0⟩ := hQ3
  have N3 := Fk.app N2 Nq3 (Nat.le_refl _) all0
  rw [K3] at e3
  show Wp p e below _ _ T3 (mkF m 64 #[.val (.ref t), .val (.int (0 : Int32)), .val (.int (2 : Int32)), .val (.int (0 : Int32)), .val (.int (2 : Int32)), .val (.int (1 : Int32))] [(.int r3)])
  rcases q3_0 with ⟨rfl, hh4⟩ | ⟨rfl, hh4⟩
  · skip
    refine Wk.ifNo X3 hx (hb hby d23_64) rfl ((if0 _ _).trans (feq (by decide : ¬ ((1 : Int32) = (0 : Int32)))).1) ?_
    refine Wk.aloadN X3 hx (hb hby d23_67) rfl rfl rfl ?_
    refine Wk.iload X3 hx (hb hby d23_68) rfl rfl ?_
    refine Wk.callS X3 hx hZ hown (w 92 _ rfl) (w 93 _ rfl) (w 66 _ rfl) (w 94 _ rfl) (by decide) (as' := [(.ref t), (.int (1 : Int32))]) (backOf (W := 0) (rm_get1 l Z a0 hw [] t zb kb (4 : Int32) [(.int (own_b0 za)), (.int (own_b1 za)), (.int (own_b0 zb)), (.int (own_b1 zb))] h0 O0 sH sL sA hA (by first | assumption | rfl | decide | exact Nat.le_of_ble_eq_true rfl) (by first | assumption | rfl | decide | exact Nat.le_of_ble_eq_true rfl) (by first | assumption | rfl | decide | exact Nat.le_of_ble_eq_true rfl) (by first | assumption | rfl | decide | exact Nat.le_of_ble_eq_true rfl) hczb) hZ (w 94 _ rfl) (w 66 _ rfl) (by decide) (by decide)) e3 (by rw [hml]; rfl) (rest := []) (lenOf pd6 rfl) rfl (Nat.le_of_eq rfl) (hb hby d23_70) rfl (by decide) (by decide) ?_
    intro T5 h5 v5 L5 X5 e5 hQ5
    obtain ⟨rfl, Nq5, K5⟩ := hQ5
    have N5 := Fk.app N3 Nq5 (Nat.le_refl _) all0
    rw [K5] at e5
    show Wp p e below _ _ T5 (mkF m 73 #[.val (.ref t), .val (.int (0 : Int32)), .val (.int (2 : Int32)), .val (.int (0 : Int32)), .val (.int (2 : Int32)), .val (.int (1 : Int32))] [(.int zb)])
    refine Wk.callS X5 hx hZ hown (w 114 _ rfl) (w 115 _ rfl) (w 106 _ rfl) (w 116 _ rfl) (by decide) (as' := [(.int zb)]) (backOf (W := 0) (rm_jlo l Z a0 hw [] zb h0 O0) hZ (w 116 _ rfl) (w 106 _ rfl) (by decide) (by decide)) e5 (by rw [hml]; rfl) (rest := []) (lenOf pd14 rfl) rfl (Nat.le_of_eq rfl) (hb hby d23_73) rfl (by decide) (by decide) ?_
    intro T6 h6 v6 L6 X6 e6 hQ6
    obtain ⟨r6, rfl, Nq6, K6, q6_0⟩ := hQ6
    have N6 := Fk.app N5 Nq6 (Nat.le_refl _) all0
    rw [K6] at e6
    show Wp p e below _ _ T6 (mkF m 76 #[.val (.ref t), .val (.int (0 : Int32)), .val (.int (2 : Int32)), .val (.int (0 : Int32)), .val (.int (2 : Int32)), .val (.int (1 : Int32))] [(.int r6)])
    rcases q6_0 with ⟨rfl, hh7⟩ | ⟨rfl, hh7⟩
    · skip
      refine Wk.ifNo X6 hx (hb hby d23_76) rfl ((if0 _ _).trans (feq (by decide : ¬ ((1 : Int32) = (0 : Int32)))).1) ?_
      refine Wk.iinc X6 hx (Ls' := #[.val (.ref t), .val (.int (0 : Int32)), .val (.int (2 : Int32)), .val (.int (0 : Int32)), .val (.int (1 : Int32)), .val (.int (1 : Int32))]) (hb hby d23_79) rfl rfl rfl ?_
      refine Wk.iinc X6 hx (Ls' := #[.val (.ref t), .val (.int (0 : Int32)), .val (.int (2 : Int32)), .val (.int (0 : Int32)), .val (.int (1 : Int32)), .val (.int (2 : Int32))]) (hb hby d23_82) rfl rfl rfl ?_
      refine Wk.goto X6 hx (hb hby d23_85) (by decide) (q := 44) rfl ?_
      refine Wk.iload X6 hx (hb hby d23_44) rfl rfl ?_
      refine Wk.iloadN X6 hx (hb hby d23_46) rfl rfl ?_
      refine Wk.iconst X6 hx (v := (1 : Int32)) (hb hby d23_47) rfl rfl ?_
      refine Wk.isub X6 hx (hb hby d23_48) rfl ?_
      rw [(by decide : (((2 : Int32) - (1 : Int32)) : Int32) = (1 : Int32))]
      refine Wk.icmpYes X6 hx (hb hby d23_49) (by decide) (q := 88) rfl (flt (by decide : ¬ ((2 : Int32) < (1 : Int32)))).2.1 ?_
      refine Wk.iload X6 hx (hb hby d23_88) rfl rfl ?_
      exact Wk.retI' X6 hx hlk hr (hb hby d23_90) (by decide) (by decide) (Qc := Q_rm_cc4_2 Z t kb za zb h0) e6 ⟨(1 : Int32), rfl, N6, rfl, (by simp [Cnt2, hh4, hh7])⟩
    · skip
      refine Wk.ifYes X6 hx (hb hby d23_76) (by decide) (q := 44) rfl ((if0 _ _).trans (teq (by decide : (0 : Int32) = (0 : Int32))).1) ?_
      refine Wk.iload X6 hx (hb hby d23_44) rfl rfl ?_
      refine Wk.iloadN X6 hx (hb hby d23_46) rfl rfl ?_
      refine Wk.iconst X6 hx (v := (1 : Int32)) (hb hby d23_47) rfl rfl ?_
      refine Wk.isub X6 hx (hb hby d23_48) rfl ?_
      rw [(by decide : (((2 : Int32) - (1 : Int32)) : Int32) = (1 : Int32))]
      refine Wk.icmpYes X6 hx (hb hby d23_49) (by decide) (q := 88) rfl (flt (by decide : ¬ ((1 : Int32) < (1 : Int32)))).2.1 ?_
      refine Wk.iload X6 hx (hb hby d23_88) rfl rfl ?_
      exact Wk.retI' X6 hx hlk hr (hb hby d23_90) (by decide) (by decide) (Qc := Q_rm_cc4_2 Z t kb za zb h0) e6 ⟨(2 : Int32), rfl, N6, rfl, (by simp [Cnt2, hh4, hh7])⟩
  · skip
    refine Wk.ifYes X3 hx (hb hby d23_64) (by decide) (q := 44) rfl ((if0 _ _).trans (teq (by decide : (0 : Int32) = (0 : Int32))).1) ?_
    refine Wk.iload X3 hx (hb hby d23_44) rfl rfl ?_
    refine Wk.iloadN X3 hx (hb hby d23_46) rfl rfl ?_
    refine Wk.iconst X3 hx (v := (1 : Int32)) (hb hby d23_47) rfl rfl ?_
    refine Wk.isub X3 hx (hb hby d23_48) rfl ?_
    rw [(by decide : (((2 : Int32) - (1 : Int32)) : Int32) = (1 : Int32))]
    refine Wk.icmpYes X3 hx (hb hby d23_49) (by decide) (q := 88) rfl (flt (by decide : ¬ ((1 : Int32) < (1 : Int32)))).2.1 ?_
    refine Wk.iload X3 hx (hb hby d23_88) rfl rfl ?_
    exact Wk.retI' X3 hx hlk hr (hb hby d23_90) (by decide) (by decide) (Qc := Q_rm_cc4_2 Z t kb za zb h0) e3 ⟨(2 : Int32), rfl, N3, rfl, (by simp [Cnt2, hh4])⟩
def Q_rm_cc3_2 (Z : State) (t : Addr) (kb : ClassId) (za : Int32) (zb : Int32) (h0 : Heap) (v : Option Value) (h : Heap) (L : List Loc) : Prop := ∃ r : Int32, v = some (.int r) ∧ Fk h0.size [] L ∧ h = h0 ∧ Cnt2 za zb r
set_option maxRecDepth 65536 in
set_option maxHeartbeats 40000000 in
theorem rm_cc3_2 (l : Launch) (Z : State) (a0 : Array Value) (hw : ∀ d ∈ tables_1, d.before a0 Z = true) (ws : List Jvm.Cond) (t : Addr) (kb : ClassId) (za : Int32) (zb : Int32) (h0 : Heap) (O0 : Old Z Z.heap.size h0) (sH : Sta Z Z.heap "java/lang/StringUTF16" "HI_BYTE_SHIFT" "I" (.int (0 : Int32))) (sL : Sta Z Z.heap "java/lang/StringUTF16" "LO_BYTE_SHIFT" "I" (.int (8 : Int32))) (sA : Sta Z Z.heap "java/lang/StringUTF16" "$assertionsDisabled" "Z" (.int (1 : Int32))) (hA : Arv Z h0 t kb .byte (4 : Int32) [(.int (own_b0 za)), (.int (own_b1 za)), (.int (own_b0 zb)), (.int (own_b1 zb))] (.int (0 : Int32))) (hcza : Chr za) (hczb : Chr zb) :
    Ctr l Z (⟨"java/lang/StringUTF16", "codePointCount", "([BII)I"⟩ : MethodName) jdk_52_method_12_code 3 (some .int) ws ({ frames := 2, cells := 0, slots := 0, locals := 30 } : Room) #[(.ref t), (.int (0 : Int32)), (.int (2 : Int32))] h0 (Q_rm_cc3_2 Z t kb za zb h0) := by
  refine Ctr.intro (Ls := fun _ => #[.val (.ref t), .val (.int (0 : Int32)), .val (.int (2 : Int32))]) (plainFor_of_name pn0) (fun m => by first | rfl | (simp [entryFrame, mkF, argsToLocals, Value.category]; done)) ?_
  intro p e s m below meth c s₁ hx hby hml hr hlk hZ hown hnm hs0 X0 e0
  have w : ∀ (k : Nat) (d : Jvm.Cond), tables_1[k]? = some d → d.before a0 Z = true := fun k d q => hw d (List.mem_of_getElem? q)
  have N0 := Fk.nil h0.size []
  refine Wk.aloadN X0 hx (hb hby d22_0) rfl rfl rfl ?_
  refine Wk.iloadN X0 hx (hb hby d22_1) rfl rfl ?_
  refine Wk.iloadN X0 hx (hb hby d22_2) rfl rfl ?_
  refine Wk.iconst X0 hx (v := (0 : Int32)) (hb hby d22_3) rfl rfl ?_
  refine Wk.callS X0 hx hZ hown (w 101 _ rfl) (w 102 _ rfl) (w 66 _ rfl) (w 103 _ rfl) (by decide) (as' := [(.ref t), (.int (0 : Int32)), (.int (2 : Int32)), (.int (0 : Int32))]) (backOf (W := 0) (rm_cc4_2 l Z a0 hw [] t kb za zb h0 O0 sH sL sA hA hcza hczb) hZ (w 103 _ rfl) (w 66 _ rfl) (by decide) (by decide)) e0 (by rw [hml]; rfl) (rest := []) (lenOf pd13 rfl) rfl (Nat.le_of_eq rfl) (hb hby d22_4) rfl (by decide) (by decide) ?_
  intro T1 h1 v1 L1 X1 e1 hQ1
  obtain ⟨r1, rfl, Nq1, K1, q1_0⟩ := hQ1
  have N1 := Fk.app N0 Nq1 (Nat.le_refl _) all0
  rw [K1] at e1
  show Wp p e below _ _ T1 (mkF m 7 #[.val (.ref t), .val (.int (0 : Int32)), .val (.int (2 : Int32))] [(.int r1)])
  exact Wk.retI' X1 hx hlk hr (hb hby d22_7) (by decide) (by decide) (Qc := Q_rm_cc3_2 Z t kb za zb h0) e1 ⟨r1, rfl, N1, rfl, q1_0⟩
def Q_rm_cc4_3 (Z : State) (t : Addr) (kb : ClassId) (za : Int32) (zb : Int32) (zc : Int32) (h0 : Heap) (v : Option Value) (h : Heap) (L : List Loc) : Prop := ∃ r : Int32, v = some (.int r) ∧ Fk h0.size [] L ∧ h = h0 ∧ Cnt3 za zb zc r
set_option maxRecDepth 65536 in
set_option maxHeartbeats 40000000 in
theorem rm_cc4_3 (l : Launch) (Z : State) (a0 : Array Value) (hw : ∀ d ∈ tables_1, d.before a0 Z = true) (ws : List Jvm.Cond) (t : Addr) (kb : ClassId) (za : Int32) (zb : Int32) (zc : Int32) (h0 : Heap) (O0 : Old Z Z.heap.size h0) (sH : Sta Z Z.heap "java/lang/StringUTF16" "HI_BYTE_SHIFT" "I" (.int (0 : Int32))) (sL : Sta Z Z.heap "java/lang/StringUTF16" "LO_BYTE_SHIFT" "I" (.int (8 : Int32))) (sA : Sta Z Z.heap "java/lang/StringUTF16" "$assertionsDisabled" "Z" (.int (1 : Int32))) (hA : Arv Z h0 t kb .byte (6 : Int32) [(.int (own_b0 za)), (.int (own_b1 za)), (.int (own_b0 zb)), (.int (own_b1 zb)), (.int (own_b0 zc)), (.int (own_b1 zc))] (.int (0 : Int32))) (hcza : Chr za) (hczb : Chr zb) (hczc : Chr zc) :
    Ctr l Z (⟨"java/lang/StringUTF16", "codePointCount", "([BIIZ)I"⟩ : MethodName) jdk_52_method_11_code 6 (some .int) ws ({ frames := 1, cells := 0, slots := 0, locals := 13 } : Room) #[(.ref t), (.int (0 : Int32)), (.int (3 : Int32)), (.int (0 : Int32))] h0 (Q_rm_cc4_3 Z t kb za zb zc h0) := by
  refine Ctr.intro (Ls := fun _ => #[.val (.ref t), .val (.int (0 : Int32)), .val (.int (3 : Int32)), .val (.int (0 : Int32)), .unset, .unset]) (plainFor_of_name pn0) (fun m => by first | rfl | (simp [entryFrame, mkF, argsToLocals, Value.category]; done)) ?_
  intro p e s m below meth c s₁ hx hby hml hr hlk hZ hown hnm hs0 X0 e0
  have w : ∀ (k : Nat) (d : Jvm.Cond), tables_1[k]? = some d → d.before a0 Z = true := fun k d q => hw d (List.mem_of_getElem? q)
  have N0 := Fk.nil h0.size []
  refine Wk.getstatic X0 hx hZ hown (host := "") (Or.inl (w 89 _ rfl)) Via.refl e0 (sA.ext O0.2) (hb hby d23_0) rfl ?_
  intro T1 X1 e1
  refine Wk.ifYes X1 hx (hb hby d23_3) (by decide) (q := 19) rfl ((if0 _ _).trans (feq (by decide : ¬ ((1 : Int32) = (0 : Int32)))).2) ?_
  refine Wk.iloadN X1 hx (hb hby d23_19) rfl rfl ?_
  refine Wk.iloadN X1 hx (hb hby d23_20) rfl rfl ?_
  refine Wk.isub X1 hx (hb hby d23_21) rfl ?_
  rw [(by decide : (((3 : Int32) - (0 : Int32)) : Int32) = (3 : Int32))]
  refine Wk.istore X1 hx (Ls' := #[.val (.ref t), .val (.int (0 : Int32)), .val (.int (3 : Int32)), .val (.int (0 : Int32)), .val (.int (3 : Int32)), .unset]) (hb hby d23_22) rfl rfl ?_
  refine Wk.iloadN X1 hx (hb hby d23_24) rfl rfl ?_
  refine Wk.istore X1 hx (Ls' := #[.val (.ref t), .val (.int (0 : Int32)), .val (.int (3 : Int32)), .val (.int (0 : Int32)), .val (.int (3 : Int32)), .val (.int (0 : Int32))]) (hb hby d23_25) rfl rfl ?_
  refine Wk.iloadN X1 hx (hb hby d23_27) rfl rfl ?_
  refine Wk.ifYes X1 hx (hb hby d23_28) (by decide) (q := 44) rfl ((if0 _ _).trans (teq (by decide : (0 : Int32) = (0 : Int32))).1) ?_
  refine Wk.iload X1 hx (hb hby d23_44) rfl rfl ?_
  refine Wk.iloadN X1 hx (hb hby d23_46) rfl rfl ?_
  refine Wk.iconst X1 hx (v := (1 : Int32)) (hb hby d23_47) rfl rfl ?_
  refine Wk.isub X1 hx (hb hby d23_48) rfl ?_
  rw [(by decide : (((3 : Int32) - (1 : Int32)) : Int32) = (2 : Int32))]
  refine Wk.icmpNo X1 hx (hb hby d23_49) rfl (tlt (by decide : (0 : Int32) < (2 : Int32))).2.1 ?_
  refine Wk.aloadN X1 hx (hb hby d23_52) rfl rfl rfl ?_
  refine Wk.iload X1 hx (hb hby d23_53) rfl rfl ?_
  refine Wk.iinc X1 hx (Ls' := #[.val (.ref t), .val (.int (0 : Int32)), .val (.int (3 : Int32)), .val (.int (0 : Int32)), .val (.int (3 : Int32)), .val (.int (1 : Int32))]) (hb hby d23_55) rfl rfl rfl ?_
  refine Wk.callS X1 hx hZ hown (w 92 _ rfl) (w 93 _ rfl) (w 66 _ rfl) (w 94 _ rfl) (by decide) (as' := [(.ref t), (.int (0 : Int32))]) (backOf (W := 0) (rm_get0 l Z a0 hw [] t za kb (6 : Int32) [(.int (own_b0 za)), (.int (own_b1 za)), (.int (own_b0 zb)), (.int (own_b1 zb)), (.int (own_b0 zc)), (.int (own_b1 zc))] h0 O0 sH sL sA hA (by first | assumption | rfl | decide | exact Nat.le_of_ble_eq_true rfl) (by first | assumption | rfl | decide | exact Nat.le_of_ble_eq_true rfl) (by first | assumption | rfl | decide | exact Nat.le_of_ble_eq_true rfl) (by first | assumption | rfl | decide | exact Nat.le_of_ble_eq_true rfl) hcza) hZ (w 94 _ rfl) (w 66 _ rfl) (by decide) (by decide)) e1 (by rw [hml]; rfl) (rest := []) (lenOf pd6 rfl) rfl (Nat.le_of_eq rfl) (hb hby d23_58) rfl (by decide) (by decide) ?_
  intro T2 h2 v2 L2 X2 e2 hQ2
  obtain ⟨rfl, Nq2, K2⟩ := hQ2
  have N2 := Fk.app N0 Nq2 (Nat.le_refl _) all0
  rw [K2] at e2
  show Wp p e below _ _ T2 (mkF m 61 #[.val (.ref t), .val (.int (0 : Int32)), .val (.int (3 : Int32)), .val (.int (0 : Int32)), .val (.int (3 : Int32)), .val (.int (1 : Int32))] [(.int za)])
  refine Wk.callS X2 hx hZ hown (w 104 _ rfl) (w 105 _ rfl) (w 106 _ rfl) (w 107 _ rfl) (by decide) (as' := [(.int za)]) (backOf (W := 0) (rm_jhi l Z a0 hw [] za h0 O0) hZ (w 107 _ rfl) (w 106 _ rfl) (by decide) (by decide)) e2 (by rw [hml]; rfl) (rest := []) (lenOf pd14 rfl) rfl (Nat.le_of_eq rfl) (hb hby d23_61) rfl (by decide) (by decide) ?_
  intro T3 h3 v3 L3 X3 e3 hQ3
  obtain ⟨r3, rfl, Nq3, K3, q3_0⟩ := hQ3
  have N3 := Fk.app N2 Nq3 (Nat.le_refl _) all0
  rw [K3] at e3
  show Wp p e below _ _ T3 (mkF m 64 #[.val (.ref t), .val (.int (0 : Int32)), .val (.int (3 : Int32)), .val (.int (0 : Int32)), .val (.int (3 : Int32)), .val (.int (1 : Int32))] [(.int r3)])
  rcases q3_0 with ⟨rfl, hh4⟩ | ⟨rfl, hh4⟩
  · skip
    refine Wk.ifNo X3 hx (hb hby d23_64) rfl ((if0 _ _).trans (feq (by decide : ¬ ((1 : Int32) = (0 : Int32)))).1) ?_
    refine Wk.aloadN X3 hx (hb hby d23_67) rfl rfl rfl ?_
    refine Wk.iload X3 hx (hb hby d23_68) rfl rfl ?_
    refine Wk.callS X3 hx hZ hown (w 92 _ rfl) (w 93 _ rfl) (w 66 _ rfl) (w 94 _ rfl) (by decide) (as' := [(.ref t), (.int (1 : Int32))]) (backOf (W := 0) (rm_get1 l Z a0 hw [] t zb kb (6 : Int32) [(.int (own_b0 za)), (.int (own_b1 za)), (.int (own_b0 zb)), (.int (own_b1 zb)), (.int (own_b0 zc)), (.int (own_b1 zc))] h0 O0 sH sL sA hA (by first | assumption | rfl | decide | exact Nat.le_of_ble_eq_true rfl) (by first | assumption | rfl | decide | exact Nat.le_of_ble_eq_true rfl) (by first | assumption | rfl | decide | exact Nat.le_of_ble_eq_true rfl) (by first | assumption | rfl | decide | exact Nat.le_of_ble_eq_true rfl) hczb) hZ (w 94 _ rfl) (w 66 _ rfl) (by decide) (by decide)) e3 (by rw [hml]; rfl) (rest := []) (lenOf pd6 rfl) rfl (Nat.le_of_eq rfl) (hb hby d23_70) rfl (by decide) (by decide) ?_
    intro T5 h5 v5 L5 X5 e5 hQ5
    obtain ⟨rfl, Nq5, K5⟩ := hQ5
    have N5 := Fk.app N3 Nq5 (Nat.le_refl _) all0
    rw [K5] at e5
    show Wp p e below _ _ T5 (mkF m 73 #[.val (.ref t), .val (.int (0 : Int32)), .val (.int (3 : Int32)), .val (.int (0 : Int32)), .val (.int (3 : Int32)), .val (.int (1 : Int32))] [(.int zb)])
    refine Wk.callS X5 hx hZ hown (w 114 _ rfl) (w 115 _ rfl) (w 106 _ rfl) (w 116 _ rfl) (by decide) (as' := [(.int zb)]) (backOf (W := 0) (rm_jlo l Z a0 hw [] zb h0 O0) hZ (w 116 _ rfl) (w 106 _ rfl) (by decide) (by decide)) e5 (by rw [hml]; rfl) (rest := []) (lenOf pd14 rfl) rfl (Nat.le_of_eq rfl) (hb hby d23_73) rfl (by decide) (by decide) ?_
    intro T6 h6 v6 L6 X6 e6 hQ6
    obtain ⟨r6, rfl, Nq6, K6, q6_0⟩ := hQ6
    have N6 := Fk.app N5 Nq6 (Nat.le_refl _) all0
    rw [K6] at e6
    show Wp p e below _ _ T6 (mkF m 76 #[.val (.ref t), .val (.int (0 : Int32)), .val (.int (3 : Int32)), .val (.int (0 : Int32)), .val (.int (3 : Int32)), .val (.int (1 : Int32))] [(.int r6)])
    rcases q6_0 with ⟨rfl, hh7⟩ | ⟨rfl, hh7⟩
    · skip
      refine Wk.ifNo X6 hx (hb hby d23_76) rfl ((if0 _ _).trans (feq (by decide : ¬ ((1 : Int32) = (0 : Int32)))).1) ?_
      refine Wk.iinc X6 hx (Ls' := #[.val (.ref t), .val (.int (0 : Int32)), .val (.int (3 : Int32)), .val (.int (0 : Int32)), .val (.int (2 : Int32)), .val (.int (1 : Int32))]) (hb hby d23_79) rfl rfl rfl ?_
      refine Wk.iinc X6 hx (Ls' := #[.val (.ref t), .val (.int (0 : Int32)), .val (.int (3 : Int32)), .val (.int (0 : Int32)), .val (.int (2 : Int32)), .val (.int (2 : Int32))]) (hb hby d23_82) rfl rfl rfl ?_
      refine Wk.goto X6 hx (hb hby d23_85) (by decide) (q := 44) rfl ?_
      refine Wk.iload X6 hx (hb hby d23_44) rfl rfl ?_
      refine Wk.iloadN X6 hx (hb hby d23_46) rfl rfl ?_
      refine Wk.iconst X6 hx (v := (1 : Int32)) (hb hby d23_47) rfl rfl ?_
      refine Wk.isub X6 hx (hb hby d23_48) rfl ?_
      rw [(by decide : (((3 : Int32) - (1 : Int32)) : Int32) = (2 : Int32))]
      refine Wk.icmpYes X6 hx (hb hby d23_49) (by decide) (q := 88) rfl (flt (by decide : ¬ ((2 : Int32) < (2 : Int32)))).2.1 ?_
      refine Wk.iload X6 hx (hb hby d23_88) rfl rfl ?_
      exact Wk.retI' X6 hx hlk hr (hb hby d23_90) (by decide) (by decide) (Qc := Q_rm_cc4_3 Z t kb za zb zc h0) e6 ⟨(2 : Int32), rfl, N6, rfl, (by simp [Cnt3, hh4, hh7])⟩
    · skip
      refine Wk.ifYes X6 hx (hb hby d23_76) (by decide) (q := 44) rfl ((if0 _ _).trans (teq (by decide : (0 : Int32) = (0 : Int32))).1) ?_
      refine Wk.iload X6 hx (hb hby d23_44) rfl rfl ?_
      refine Wk.iloadN X6 hx (hb hby d23_46) rfl rfl ?_
      refine Wk.iconst X6 hx (v := (1 : Int32)) (hb hby d23_47) rfl rfl ?_
      refine Wk.isub X6 hx (hb hby d23_48) rfl ?_
      rw [(by decide : (((3 : Int32) - (1 : Int32)) : Int32) = (2 : Int32))]
      refine Wk.icmpNo X6 hx (hb hby d23_49) rfl (tlt (by decide : (1 : Int32) < (2 : Int32))).2.1 ?_
      refine Wk.aloadN X6 hx (hb hby d23_52) rfl rfl rfl ?_
      refine Wk.iload X6 hx (hb hby d23_53) rfl rfl ?_
      refine Wk.iinc X6 hx (Ls' := #[.val (.ref t), .val (.int (0 : Int32)), .val (.int (3 : Int32)), .val (.int (0 : Int32)), .val (.int (3 : Int32)), .val (.int (2 : Int32))]) (hb hby d23_55) rfl rfl rfl ?_
      refine Wk.callS X6 hx hZ hown (w 92 _ rfl) (w 93 _ rfl) (w 66 _ rfl) (w 94 _ rfl) (by decide) (as' := [(.ref t), (.int (1 : Int32))]) (backOf (W := 0) (rm_get1 l Z a0 hw [] t zb kb (6 : Int32) [(.int (own_b0 za)), (.int (own_b1 za)), (.int (own_b0 zb)), (.int (own_b1 zb)), (.int (own_b0 zc)), (.int (own_b1 zc))] h0 O0 sH sL sA hA (by first | assumption | rfl | decide | exact Nat.le_of_ble_eq_true rfl) (by first | assumption | rfl | decide | exact Nat.le_of_ble_eq_true rfl) (by first | assumption | rfl | decide | exact Nat.le_of_ble_eq_true rfl) (by first | assumption | rfl | decide | exact Nat.le_of_ble_eq_true rfl) hczb) hZ (w 94 _ rfl) (w 66 _ rfl) (by decide) (by decide)) e6 (by rw [hml]; rfl) (rest := []) (lenOf pd6 rfl) rfl (Nat.le_of_eq rfl) (hb hby d23_58) rfl (by decide) (by decide) ?_
      intro T8 h8 v8 L8 X8 e8 hQ8
      obtain ⟨rfl, Nq8, K8⟩ := hQ8
      have N8 := Fk.app N6 Nq8 (Nat.le_refl _) all0
      rw [K8] at e8
      show Wp p e below _ _ T8 (mkF m 61 #[.val (.ref t), .val (.int (0 : Int32)), .val (.int (3 : Int32)), .val (.int (0 : Int32)), .val (.int (3 : Int32)), .val (.int (2 : Int32))] [(.int zb)])
      refine Wk.callS X8 hx hZ hown (w 104 _ rfl) (w 105 _ rfl) (w 106 _ rfl) (w 107 _ rfl) (by decide) (as' := [(.int zb)]) (backOf (W := 0) (rm_jhi l Z a0 hw [] zb h0 O0) hZ (w 107 _ rfl) (w 106 _ rfl) (by decide) (by decide)) e8 (by rw [hml]; rfl) (rest := []) (lenOf pd14 rfl) rfl (Nat.le_of_eq rfl) (hb hby d23_61) rfl (by decide) (by decide) ?_
      intro T9 h9 v9 L9 X9 e9 hQ9
      obtain ⟨r9, rfl, Nq9, K9, q9_0⟩ := hQ9
      have N9 := Fk.app N8 Nq9 (Nat.le_refl _) all0
      rw [K9] at e9
      show Wp p e below _ _ T9 (mkF m 64 #[.val (.ref t), .val (.int (0 : Int32)), .val (.int (3 : Int32)), .val (.int (0 : Int32)), .val (.int (3 : Int32)), .val (.int (2 : Int32))] [(.int r9)])
      rcases q9_0 with ⟨rfl, hh10⟩ | ⟨rfl, hh10⟩
      · skip
        refine Wk.ifNo X9 hx (hb hby d23_64) rfl ((if0 _ _).trans (feq (by decide : ¬ ((1 : Int32) = (0 : Int32)))).1) ?_
        refine Wk.aloadN X9 hx (hb hby d23_67) rfl rfl rfl ?_
        refine Wk.iload X9 hx (hb hby d23_68) rfl rfl ?_
        refine Wk.callS X9 hx hZ hown (w 92 _ rfl) (w 93 _ rfl) (w 66 _ rfl) (w 94 _ rfl) (by decide) (as' := [(.ref t), (.int (2 : Int32))]) (backOf (W := 0) (rm_get2 l Z a0 hw [] t zc kb (6 : Int32) [(.int (own_b0 za)), (.int (own_b1 za)), (.int (own_b0 zb)), (.int (own_b1 zb)), (.int (own_b0 zc)), (.int (own_b1 zc))] h0 O0 sH sL sA hA (by first | assumption | rfl | decide | exact Nat.le_of_ble_eq_true rfl) (by first | assumption | rfl | decide | exact Nat.le_of_ble_eq_true rfl) (by first | assumption | rfl | decide | exact Nat.le_of_ble_eq_true rfl) (by first | assumption | rfl | decide | exact Nat.le_of_ble_eq_true rfl) hczc) hZ (w 94 _ rfl) (w 66 _ rfl) (by decide) (by decide)) e9 (by rw [hml]; rfl) (rest := []) (lenOf pd6 rfl) rfl (Nat.le_of_eq rfl) (hb hby d23_70) rfl (by decide) (by decide) ?_
        intro T11 h11 v11 L11 X11 e11 hQ11
        obtain ⟨rfl, Nq11, K11⟩ := hQ11
        have N11 := Fk.app N9 Nq11 (Nat.le_refl _) all0
        rw [K11] at e11
        show Wp p e below _ _ T11 (mkF m 73 #[.val (.ref t), .val (.int (0 : Int32)), .val (.int (3 : Int32)), .val (.int (0 : Int32)), .val (.int (3 : Int32)), .val (.int (2 : Int32))] [(.int zc)])
        refine Wk.callS X11 hx hZ hown (w 114 _ rfl) (w 115 _ rfl) (w 106 _ rfl) (w 116 _ rfl) (by decide) (as' := [(.int zc)]) (backOf (W := 0) (rm_jlo l Z a0 hw [] zc h0 O0) hZ (w 116 _ rfl) (w 106 _ rfl) (by decide) (by decide)) e11 (by rw [hml]; rfl) (rest := []) (lenOf pd14 rfl) rfl (Nat.le_of_eq rfl) (hb hby d23_73) rfl (by decide) (by decide) ?_
        intro T12 h12 v12 L12 X12 e12 hQ12
        obtain ⟨r12, rfl, Nq12, K12, q12_0⟩ := hQ12
        have N12 := Fk.app N11 Nq12 (Nat.le_refl _) all0
        rw [K12] at e12
        show Wp p e below _ _ T12 (mkF m 76 #[.val (.ref t), .val (.int (0 : Int32)), .val (.int (3 : Int32)), .val (.int (0 : Int32)), .val (.int (3 : Int32)), .val (.int (2 : Int32))] [(.int r12)])
        rcases q12_0 with ⟨rfl, hh13⟩ | ⟨rfl, hh13⟩
        · skip
          refine Wk.ifNo X12 hx (hb hby d23_76) rfl ((if0 _ _).trans (feq (by decide : ¬ ((1 : Int32) = (0 : Int32)))).1) ?_
          refine Wk.iinc X12 hx (Ls' := #[.val (.ref t), .val (.int (0 : Int32)), .val (.int (3 : Int32)), .val (.int (0 : Int32)), .val (.int (2 : Int32)), .val (.int (2 : Int32))]) (hb hby d23_79) rfl rfl rfl ?_
          refine Wk.iinc X12 hx (Ls' := #[.val (.ref t), .val (.int (0 : Int32)), .val (.int (3 : Int32)), .val (.int (0 : Int32)), .val (.int (2 : Int32)), .val (.int (3 : Int32))]) (hb hby d23_82) rfl rfl rfl ?_
          refine Wk.goto X12 hx (hb hby d23_85) (by decide) (q := 44) rfl ?_
          refine Wk.iload X12 hx (hb hby d23_44) rfl rfl ?_
          refine Wk.iloadN X12 hx (hb hby d23_46) rfl rfl ?_
          refine Wk.iconst X12 hx (v := (1 : Int32)) (hb hby d23_47) rfl rfl ?_
          refine Wk.isub X12 hx (hb hby d23_48) rfl ?_
          rw [(by decide : (((3 : Int32) - (1 : Int32)) : Int32) = (2 : Int32))]
          refine Wk.icmpYes X12 hx (hb hby d23_49) (by decide) (q := 88) rfl (flt (by decide : ¬ ((3 : Int32) < (2 : Int32)))).2.1 ?_
          refine Wk.iload X12 hx (hb hby d23_88) rfl rfl ?_
          exact Wk.retI' X12 hx hlk hr (hb hby d23_90) (by decide) (by decide) (Qc := Q_rm_cc4_3 Z t kb za zb zc h0) e12 ⟨(2 : Int32), rfl, N12, rfl, (by simp [Cnt3, hh4, hh7, hh10, hh13])⟩
        · skip
          refine Wk.ifYes X12 hx (hb hby d23_76) (by decide) (q := 44) rfl ((if0 _ _).trans (teq (by decide : (0 : Int32) = (0 : Int32))).1) ?_
          refine Wk.iload X12 hx (hb hby d23_44) rfl rfl ?_
          refine Wk.iloadN X12 hx (hb hby d23_46) rfl rfl ?_
          refine Wk.iconst X12 hx (v := (1 : Int32)) (hb hby d23_47) rfl rfl ?_
          refine Wk.isub X12 hx (hb hby d23_48) rfl ?_
          rw [(by decide : (((3 : Int32) - (1 : Int32)) : Int32) = (2 : Int32))]
          refine Wk.icmpYes X12 hx (hb hby d23_49) (by decide) (q := 88) rfl (flt (by decide : ¬ ((2 : Int32) < (2 : Int32)))).2.1 ?_
          refine Wk.iload X12 hx (hb hby d23_88) rfl rfl ?_
          exact Wk.retI' X12 hx hlk hr (hb hby d23_90) (by decide) (by decide) (Qc := Q_rm_cc4_3 Z t kb za zb zc h0) e12 ⟨(3 : Int32), rfl, N12, rfl, (by simp [Cnt3, hh4, hh7, hh10, hh13])⟩
      · skip
        refine Wk.ifYes X9 hx (hb hby d23_64) (by decide) (q := 44) rfl ((if0 _ _).trans (teq (by decide : (0 : Int32) = (0 : Int32))).1) ?_
        refine Wk.iload X9 hx (hb hby d23_44) rfl rfl ?_
        refine Wk.iloadN X9 hx (hb hby d23_46) rfl rfl ?_
        refine Wk.iconst X9 hx (v := (1 : Int32)) (hb hby d23_47) rfl rfl ?_
        refine Wk.isub X9 hx (hb hby d23_48) rfl ?_
        rw [(by decide : (((3 : Int32) - (1 : Int32)) : Int32) = (2 : Int32))]
        refine Wk.icmpYes X9 hx (hb hby d23_49) (by decide) (q := 88) rfl (flt (by decide : ¬ ((2 : Int32) < (2 : Int32)))).2.1 ?_
        refine Wk.iload X9 hx (hb hby d23_88) rfl rfl ?_
        exact Wk.retI' X9 hx hlk hr (hb hby d23_90) (by decide) (by decide) (Qc := Q_rm_cc4_3 Z t kb za zb zc h0) e9 ⟨(3 : Int32), rfl, N9, rfl, (by simp [Cnt3, hh4, hh7, hh10])⟩
  · skip
    refine Wk.ifYes X3 hx (hb hby d23_64) (by decide) (q := 44) rfl ((if0 _ _).trans (teq (by decide : (0 : Int32) = (0 : Int32))).1) ?_
    refine Wk.iload X3 hx (hb hby d23_44) rfl rfl ?_
    refine Wk.iloadN X3 hx (hb hby d23_46) rfl rfl ?_
    refine Wk.iconst X3 hx (v := (1 : Int32)) (hb hby d23_47) rfl rfl ?_
    refine Wk.isub X3 hx (hb hby d23_48) rfl ?_
    rw [(by decide : (((3 : Int32) - (1 : Int32)) : Int32) = (2 : Int32))]
    refine Wk.icmpNo X3 hx (hb hby d23_49) rfl (tlt (by decide : (1 : Int32) < (2 : Int32))).2.1 ?_
    refine Wk.aloadN X3 hx (hb hby d23_52) rfl rfl rfl ?_
    refine Wk.iload X3 hx (hb hby d23_53) rfl rfl ?_
    refine Wk.iinc X3 hx (Ls' := #[.val (.ref t), .val (.int (0 : Int32)), .val (.int (3 : Int32)), .val (.int (0 : Int32)), .val (.int (3 : Int32)), .val (.int (2 : Int32))]) (hb hby d23_55) rfl rfl rfl ?_
    refine Wk.callS X3 hx hZ hown (w 92 _ rfl) (w 93 _ rfl) (w 66 _ rfl) (w 94 _ rfl) (by decide) (as' := [(.ref t), (.int (1 : Int32))]) (backOf (W := 0) (rm_get1 l Z a0 hw [] t zb kb (6 : Int32) [(.int (own_b0 za)), (.int (own_b1 za)), (.int (own_b0 zb)), (.int (own_b1 zb)), (.int (own_b0 zc)), (.int (own_b1 zc))] h0 O0 sH sL sA hA (by first | assumption | rfl | decide | exact Nat.le_of_ble_eq_true rfl) (by first | assumption | rfl | decide | exact Nat.le_of_ble_eq_true rfl) (by first | assumption | rfl | decide | exact Nat.le_of_ble_eq_true rfl) (by first | assumption | rfl | decide | exact Nat.le_of_ble_eq_true rfl) hczb) hZ (w 94 _ rfl) (w 66 _ rfl) (by decide) (by decide)) e3 (by rw [hml]; rfl) (rest := []) (lenOf pd6 rfl) rfl (Nat.le_of_eq rfl) (hb hby d23_58) rfl (by decide) (by decide) ?_
    intro T14 h14 v14 L14 X14 e14 hQ14
    obtain ⟨rfl, Nq14, K14⟩ := hQ14
    have N14 := Fk.app N3 Nq14 (Nat.le_refl _) all0
    rw [K14] at e14
    show Wp p e below _ _ T14 (mkF m 61 #[.val (.ref t), .val (.int (0 : Int32)), .val (.int (3 : Int32)), .val (.int (0 : Int32)), .val (.int (3 : Int32)), .val (.int (2 : Int32))] [(.int zb)])
    refine Wk.callS X14 hx hZ hown (w 104 _ rfl) (w 105 _ rfl) (w 106 _ rfl) (w 107 _ rfl) (by decide) (as' := [(.int zb)]) (backOf (W := 0) (rm_jhi l Z a0 hw [] zb h0 O0) hZ (w 107 _ rfl) (w 106 _ rfl) (by decide) (by decide)) e14 (by rw [hml]; rfl) (rest := []) (lenOf pd14 rfl) rfl (Nat.le_of_eq rfl) (hb hby d23_61) rfl (by decide) (by decide) ?_
    intro T15 h15 v15 L15 X15 e15 hQ15
    obtain ⟨r15, rfl, Nq15, K15, q15_0⟩ := hQ15
    have N15 := Fk.app N14 Nq15 (Nat.le_refl _) all0
    rw [K15] at e15
    show Wp p e below _ _ T15 (mkF m 64 #[.val (.ref t), .val (.int (0 : Int32)), .val (.int (3 : Int32)), .val (.int (0 : Int32)), .val (.int (3 : Int32)), .val (.int (2 : Int32))] [(.int r15)])
    rcases q15_0 with ⟨rfl, hh16⟩ | ⟨rfl, hh16⟩
    · skip
      refine Wk.ifNo X15 hx (hb hby d23_64) rfl ((if0 _ _).trans (feq (by decide : ¬ ((1 : Int32) = (0 : Int32)))).1) ?_
      refine Wk.aloadN X15 hx (hb hby d23_67) rfl rfl rfl ?_
      refine Wk.iload X15 hx (hb hby d23_68) rfl rfl ?_
      refine Wk.callS X15 hx hZ hown (w 92 _ rfl) (w 93 _ rfl) (w 66 _ rfl) (w 94 _ rfl) (by decide) (as' := [(.ref t), (.int (2 : Int32))]) (backOf (W := 0) (rm_get2 l Z a0 hw [] t zc kb (6 : Int32) [(.int (own_b0 za)), (.int (own_b1 za)), (.int (own_b0 zb)), (.int (own_b1 zb)), (.int (own_b0 zc)), (.int (own_b1 zc))] h0 O0 sH sL sA hA (by first | assumption | rfl | decide | exact Nat.le_of_ble_eq_true rfl) (by first | assumption | rfl | decide | exact Nat.le_of_ble_eq_true rfl) (by first | assumption | rfl | decide | exact Nat.le_of_ble_eq_true rfl) (by first | assumption | rfl | decide | exact Nat.le_of_ble_eq_true rfl) hczc) hZ (w 94 _ rfl) (w 66 _ rfl) (by decide) (by decide)) e15 (by rw [hml]; rfl) (rest := []) (lenOf pd6 rfl) rfl (Nat.le_of_eq rfl) (hb hby d23_70) rfl (by decide) (by decide) ?_
      intro T17 h17 v17 L17 X17 e17 hQ17
      obtain ⟨rfl, Nq17, K17⟩ := hQ17
      have N17 := Fk.app N15 Nq17 (Nat.le_refl _) all0
      rw [K17] at e17
      show Wp p e below _ _ T17 (mkF m 73 #[.val (.ref t), .val (.int (0 : Int32)), .val (.int (3 : Int32)), .val (.int (0 : Int32)), .val (.int (3 : Int32)), .val (.int (2 : Int32))] [(.int zc)])
      refine Wk.callS X17 hx hZ hown (w 114 _ rfl) (w 115 _ rfl) (w 106 _ rfl) (w 116 _ rfl) (by decide) (as' := [(.int zc)]) (backOf (W := 0) (rm_jlo l Z a0 hw [] zc h0 O0) hZ (w 116 _ rfl) (w 106 _ rfl) (by decide) (by decide)) e17 (by rw [hml]; rfl) (rest := []) (lenOf pd14 rfl) rfl (Nat.le_of_eq rfl) (hb hby d23_73) rfl (by decide) (by decide) ?_
      intro T18 h18 v18 L18 X18 e18 hQ18
      obtain ⟨r18, rfl, Nq18, K18, q18_0⟩ := hQ18
      have N18 := Fk.app N17 Nq18 (Nat.le_refl _) all0
      rw [K18] at e18
      show Wp p e below _ _ T18 (mkF m 76 #[.val (.ref t), .val (.int (0 : Int32)), .val (.int (3 : Int32)), .val (.int (0 : Int32)), .val (.int (3 : Int32)), .val (.int (2 : Int32))] [(.int r18)])
      rcases q18_0 with ⟨rfl, hh19⟩ | ⟨rfl, hh19⟩
      · skip
        refine Wk.ifNo X18 hx (hb hby d23_76) rfl ((if0 _ _).trans (feq (by decide : ¬ ((1 : Int32) = (0 : Int32)))).1) ?_
        refine Wk.iinc X18 hx (Ls' := #[.val (.ref t), .val (.int (0 : Int32)), .val (.int (3 : Int32)), .val (.int (0 : Int32)), .val (.int (2 : Int32)), .val (.int (2 : Int32))]) (hb hby d23_79) rfl rfl rfl ?_
        refine Wk.iinc X18 hx (Ls' := #[.val (.ref t), .val (.int (0 : Int32)), .val (.int (3 : Int32)), .val (.int (0 : Int32)), .val (.int (2 : Int32)), .val (.int (3 : Int32))]) (hb hby d23_82) rfl rfl rfl ?_
        refine Wk.goto X18 hx (hb hby d23_85) (by decide) (q := 44) rfl ?_
        refine Wk.iload X18 hx (hb hby d23_44) rfl rfl ?_
        refine Wk.iloadN X18 hx (hb hby d23_46) rfl rfl ?_
        refine Wk.iconst X18 hx (v := (1 : Int32)) (hb hby d23_47) rfl rfl ?_
        refine Wk.isub X18 hx (hb hby d23_48) rfl ?_
        rw [(by decide : (((3 : Int32) - (1 : Int32)) : Int32) = (2 : Int32))]
        refine Wk.icmpYes X18 hx (hb hby d23_49) (by decide) (q := 88) rfl (flt (by decide : ¬ ((3 : Int32) < (2 : Int32)))).2.1 ?_
        refine Wk.iload X18 hx (hb hby d23_88) rfl rfl ?_
        exact Wk.retI' X18 hx hlk hr (hb hby d23_90) (by decide) (by decide) (Qc := Q_rm_cc4_3 Z t kb za zb zc h0) e18 ⟨(2 : Int32), rfl, N18, rfl, (by simp [Cnt3, hh4, hh16, hh19])⟩
      · skip
        refine Wk.ifYes X18 hx (hb hby d23_76) (by decide) (q := 44) rfl ((if0 _ _).trans (teq (by decide : (0 : Int32) = (0 : Int32))).1) ?_
        refine Wk.iload X18 hx (hb hby d23_44) rfl rfl ?_
        refine Wk.iloadN X18 hx (hb hby d23_46) rfl rfl ?_
        refine Wk.iconst X18 hx (v := (1 : Int32)) (hb hby d23_47) rfl rfl ?_
        refine Wk.isub X18 hx (hb hby d23_48) rfl ?_
        rw [(by decide : (((3 : Int32) - (1 : Int32)) : Int32) = (2 : Int32))]
        refine Wk.icmpYes X18 hx (hb hby d23_49) (by decide) (q := 88) rfl (flt (by decide : ¬ ((2 : Int32) < (2 : Int32)))).2.1 ?_
        refine Wk.iload X18 hx (hb hby d23_88) rfl rfl ?_
        exact Wk.retI' X18 hx hlk hr (hb hby d23_90) (by decide) (by decide) (Qc := Q_rm_cc4_3 Z t kb za zb zc h0) e18 ⟨(3 : Int32), rfl, N18, rfl, (by simp [Cnt3, hh4, hh16, hh19])⟩
    · skip
      refine Wk.ifYes X15 hx (hb hby d23_64) (by decide) (q := 44) rfl ((if0 _ _).trans (teq (by decide : (0 : Int32) = (0 : Int32))).1) ?_
      refine Wk.iload X15 hx (hb hby d23_44) rfl rfl ?_
      refine Wk.iloadN X15 hx (hb hby d23_46) rfl rfl ?_
      refine Wk.iconst X15 hx (v := (1 : Int32)) (hb hby d23_47) rfl rfl ?_
      refine Wk.isub X15 hx (hb hby d23_48) rfl ?_
      rw [(by decide : (((3 : Int32) - (1 : Int32)) : Int32) = (2 : Int32))]
      refine Wk.icmpYes X15 hx (hb hby d23_49) (by decide) (q := 88) rfl (flt (by decide : ¬ ((2 : Int32) < (2 : Int32)))).2.1 ?_
      refine Wk.iload X15 hx (hb hby d23_88) rfl rfl ?_
      exact Wk.retI' X15 hx hlk hr (hb hby d23_90) (by decide) (by decide) (Qc := Q_rm_cc4_3 Z t kb za zb zc h0) e15 ⟨(3 : Int32), rfl, N15, rfl, (by simp [Cnt3, hh4, hh16])⟩
def Q_rm_cc3_3 (Z : State) (t : Addr) (kb : ClassId) (za : Int32) (zb : Int32) (zc : Int32) (h0 : Heap) (v : Option Value) (h : Heap) (L : List Loc) : Prop := ∃ r : Int32, v = some (.int r) ∧ Fk h0.size [] L ∧ h = h0 ∧ Cnt3 za zb zc r
set_option maxRecDepth 65536 in
set_option maxHeartbeats 40000000 in
theorem rm_cc3_3 (l : Launch) (Z : State) (a0 : Array Value) (hw : ∀ d ∈ tables_1, d.before a0 Z = true) (ws : List Jvm.Cond) (t : Addr) (kb : ClassId) (za : Int32) (zb : Int32) (zc : Int32) (h0 : Heap) (O0 : Old Z Z.heap.size h0) (sH : Sta Z Z.heap "java/lang/StringUTF16" "HI_BYTE_SHIFT" "I" (.int (0 : Int32))) (sL : Sta Z Z.heap "java/lang/StringUTF16" "LO_BYTE_SHIFT" "I" (.int (8 : Int32))) (sA : Sta Z Z.heap "java/lang/StringUTF16" "$assertionsDisabled" "Z" (.int (1 : Int32))) (hA : Arv Z h0 t kb .byte (6 : Int32) [(.int (own_b0 za)), (.int (own_b1 za)), (.int (own_b0 zb)), (.int (own_b1 zb)), (.int (own_b0 zc)), (.int (own_b1 zc))] (.int (0 : Int32))) (hcza : Chr za) (hczb : Chr zb) (hczc : Chr zc) :
    Ctr l Z (⟨"java/lang/StringUTF16", "codePointCount", "([BII)I"⟩ : MethodName) jdk_52_method_12_code 3 (some .int) ws ({ frames := 2, cells := 0, slots := 0, locals := 30 } : Room) #[(.ref t), (.int (0 : Int32)), (.int (3 : Int32))] h0 (Q_rm_cc3_3 Z t kb za zb zc h0) := by
  refine Ctr.intro (Ls := fun _ => #[.val (.ref t), .val (.int (0 : Int32)), .val (.int (3 : Int32))]) (plainFor_of_name pn0) (fun m => by first | rfl | (simp [entryFrame, mkF, argsToLocals, Value.category]; done)) ?_
  intro p e s m below meth c s₁ hx hby hml hr hlk hZ hown hnm hs0 X0 e0
  have w : ∀ (k : Nat) (d : Jvm.Cond), tables_1[k]? = some d → d.before a0 Z = true := fun k d q => hw d (List.mem_of_getElem? q)
  have N0 := Fk.nil h0.size []
  refine Wk.aloadN X0 hx (hb hby d22_0) rfl rfl rfl ?_
  refine Wk.iloadN X0 hx (hb hby d22_1) rfl rfl ?_
  refine Wk.iloadN X0 hx (hb hby d22_2) rfl rfl ?_
  refine Wk.iconst X0 hx (v := (0 : Int32)) (hb hby d22_3) rfl rfl ?_
  refine Wk.callS X0 hx hZ hown (w 101 _ rfl) (w 102 _ rfl) (w 66 _ rfl) (w 103 _ rfl) (by decide) (as' := [(.ref t), (.int (0 : Int32)), (.int (3 : Int32)), (.int (0 : Int32))]) (backOf (W := 0) (rm_cc4_3 l Z a0 hw [] t kb za zb zc h0 O0 sH sL sA hA hcza hczb hczc) hZ (w 103 _ rfl) (w 66 _ rfl) (by decide) (by decide)) e0 (by rw [hml]; rfl) (rest := []) (lenOf pd13 rfl) rfl (Nat.le_of_eq rfl) (hb hby d22_4) rfl (by decide) (by decide) ?_
  intro T1 h1 v1 L1 X1 e1 hQ1
  obtain ⟨r1, rfl, Nq1, K1, q1_0⟩ := hQ1
  have N1 := Fk.app N0 Nq1 (Nat.le_refl _) all0
  rw [K1] at e1
  show Wp p e below _ _ T1 (mkF m 7 #[.val (.ref t), .val (.int (0 : Int32)), .val (.int (3 : Int32))] [(.int r1)])
  exact Wk.retI' X1 hx hlk hr (hb hby d22_7) (by decide) (by decide) (Qc := Q_rm_cc3_3 Z t kb za zb zc h0) e1 ⟨r1, rfl, N1, rfl, q1_0⟩
theorem d8_0 : decode jdk_42_method_152_code 0 = .ok (.getstatic 38, 3) := by decide +kernel
theorem d8_3 : decode jdk_42_method_152_code 3 = .ok (.ifCond .eq 10, 3) := by decide +kernel
theorem d8_6 : decode jdk_42_method_152_code 6 = .ok (.aload_n 0, 1) := by decide +kernel
theorem d8_7 : decode jdk_42_method_152_code 7 = .ok (.getfield 15, 3) := by decide +kernel
theorem d8_10 : decode jdk_42_method_152_code 10 = .ok (.goto 4, 3) := by decide +kernel
theorem d8_14 : decode jdk_42_method_152_code 14 = .ok (.ireturn, 1) := by decide +kernel
def Q_rm_cod0 (Z : State) (x : Addr) (G1 : Int32) (h0 : Heap) (v : Option Value) (h : Heap) (L : List Loc) : Prop := v = some (.int (0 : Int32)) ∧ Fk h0.size [] L ∧ h = h0
set_option maxRecDepth 65536 in
set_option maxHeartbeats 40000000 in
theorem rm_cod0 (l : Launch) (Z : State) (a0 : Array Value) (hw : ∀ d ∈ tables_1, d.before a0 Z = true) (ws : List Jvm.Cond) (x : Addr) (G1 : Int32) (h0 : Heap) (O0 : Old Z Z.heap.size h0) (SG1 : Sta Z Z.heap "java/lang/String" "COMPACT_STRINGS" "Z" (.int G1)) (nG1 : ¬ G1 = 0) (hC : Fld Z h0 x "java/lang/String" "coder" "B" (.int (0 : Int32))) :
    Ctr l Z (⟨"java/lang/String", "coder", "()B"⟩ : MethodName) jdk_42_method_152_code 1 (some .byte) ws ({ frames := 0, cells := 0, slots := 0, locals := 0 } : Room) #[(.ref x)] h0 (Q_rm_cod0 Z x G1 h0) := by
  refine Ctr.intro (Ls := fun _ => #[.val (.ref x)]) (plainFor_of_name pn7) (fun m => by first | rfl | (simp [entryFrame, mkF, argsToLocals, Value.category]; done)) ?_
  intro p e s m below meth c s₁ hx hby hml hr hlk hZ hown hnm hs0 X0 e0
  have w : ∀ (k : Nat) (d : Jvm.Cond), tables_1[k]? = some d → d.before a0 Z = true := fun k d q => hw d (List.mem_of_getElem? q)
  have N0 := Fk.nil h0.size []
  refine Wk.getstatic X0 hx hZ hown (host := "") (Or.inl (w 44 _ rfl)) Via.refl e0 (SG1.ext O0.2) (hb hby d8_0) rfl ?_
  intro T1 X1 e1
  refine Wk.ifNo X1 hx (hb hby d8_3) rfl ((if0 _ _).trans (feq nG1).1) ?_
  refine Wk.aloadN X1 hx (hb hby d8_6) rfl rfl rfl ?_
  refine Wk.getfield X1 hx hZ hown (host := "") (Or.inl (w 29 _ rfl)) Via.refl e1 hC (hb hby d8_7) rfl ?_
  intro T2 X2 e2
  refine Wk.goto X2 hx (hb hby d8_10) (by decide) (q := 14) rfl ?_
  exact Wk.retZ' X2 hx hlk hr (by simp) (hb hby d8_14) (by decide) (by decide) (Qc := Q_rm_cod0 Z x G1 h0) e2 ⟨rfl, N0, rfl⟩
theorem d12_0 : decode jdk_42_method_154_code 0 = .ok (.getstatic 38, 3) := by decide +kernel
theorem d12_3 : decode jdk_42_method_154_code 3 = .ok (.ifCond .eq 14, 3) := by decide +kernel
theorem d12_6 : decode jdk_42_method_154_code 6 = .ok (.aload_n 0, 1) := by decide +kernel
theorem d12_7 : decode jdk_42_method_154_code 7 = .ok (.getfield 15, 3) := by decide +kernel
theorem d12_10 : decode jdk_42_method_154_code 10 = .ok (.ifCond .ne 7, 3) := by decide +kernel
theorem d12_13 : decode jdk_42_method_154_code 13 = .ok (.iconst 1, 1) := by decide +kernel
theorem d12_14 : decode jdk_42_method_154_code 14 = .ok (.goto 4, 3) := by decide +kernel
theorem d12_18 : decode jdk_42_method_154_code 18 = .ok (.ireturn, 1) := by decide +kernel
def Q_rm_isl0 (Z : State) (x : Addr) (G1 : Int32) (h0 : Heap) (v : Option Value) (h : Heap) (L : List Loc) : Prop := v = some (.int (1 : Int32)) ∧ Fk h0.size [] L ∧ h = h0
set_option maxRecDepth 65536 in
set_option maxHeartbeats 40000000 in
theorem rm_isl0 (l : Launch) (Z : State) (a0 : Array Value) (hw : ∀ d ∈ tables_1, d.before a0 Z = true) (ws : List Jvm.Cond) (x : Addr) (G1 : Int32) (h0 : Heap) (O0 : Old Z Z.heap.size h0) (SG1 : Sta Z Z.heap "java/lang/String" "COMPACT_STRINGS" "Z" (.int G1)) (nG1 : ¬ G1 = 0) (hC : Fld Z h0 x "java/lang/String" "coder" "B" (.int (0 : Int32))) :
    Ctr l Z (⟨"java/lang/String", "isLatin1", "()Z"⟩ : MethodName) jdk_42_method_154_code 1 (some .boolean) ws ({ frames := 0, cells := 0, slots := 0, locals := 0 } : Room) #[(.ref x)] h0 (Q_rm_isl0 Z x G1 h0) := by
  refine Ctr.intro (Ls := fun _ => #[.val (.ref x)]) (plainFor_of_name pn7) (fun m => by first | rfl | (simp [entryFrame, mkF, argsToLocals, Value.category]; done)) ?_
  intro p e s m below meth c s₁ hx hby hml hr hlk hZ hown hnm hs0 X0 e0
  have w : ∀ (k : Nat) (d : Jvm.Cond), tables_1[k]? = some d → d.before a0 Z = true := fun k d q => hw d (List.mem_of_getElem? q)
  have N0 := Fk.nil h0.size []
  refine Wk.getstatic X0 hx hZ hown (host := "") (Or.inl (w 44 _ rfl)) Via.refl e0 (SG1.ext O0.2) (hb hby d12_0) rfl ?_
  intro T1 X1 e1
  refine Wk.ifNo X1 hx (hb hby d12_3) rfl ((if0 _ _).trans (feq nG1).1) ?_
  refine Wk.aloadN X1 hx (hb hby d12_6) rfl rfl rfl ?_
  refine Wk.getfield X1 hx hZ hown (host := "") (Or.inl (w 29 _ rfl)) Via.refl e1 hC (hb hby d12_7) rfl ?_
  intro T2 X2 e2
  refine Wk.ifNo X2 hx (hb hby d12_10) rfl ((if0 _ _).trans (teq (by decide : (0 : Int32) = (0 : Int32))).2) ?_
  refine Wk.iconst X2 hx (v := (1 : Int32)) (hb hby d12_13) rfl rfl ?_
  refine Wk.goto X2 hx (hb hby d12_14) (by decide) (q := 18) rfl ?_
  exact Wk.retZ' X2 hx hlk hr (by simp) (hb hby d12_18) (by decide) (by decide) (Qc := Q_rm_isl0 Z x G1 h0) e2 ⟨rfl, N0, rfl⟩
theorem d7_0 : decode jdk_42_method_54_code 0 = .ok (.aload_n 0, 1) := by decide +kernel
theorem d7_1 : decode jdk_42_method_54_code 1 = .ok (.getfield 9, 3) := by decide +kernel
theorem d7_4 : decode jdk_42_method_54_code 4 = .ok (.arraylength, 1) := by decide +kernel
theorem d7_5 : decode jdk_42_method_54_code 5 = .ok (.aload_n 0, 1) := by decide +kernel
theorem d7_6 : decode jdk_42_method_54_code 6 = .ok (.invokevirtual 335, 3) := by decide +kernel
theorem pd15 : parseMethodDescriptor "()B" = some ⟨[], some .byte⟩ := by decide +kernel
theorem d7_9 : decode jdk_42_method_54_code 9 = .ok (.ishr, 1) := by decide +kernel
theorem d7_10 : decode jdk_42_method_54_code 10 = .ok (.ireturn, 1) := by decide +kernel
def Q_rm_len0 (Z : State) (x : Addr) (t : Addr) (kb : ClassId) (nn : Int32) (vs : List Value) (G1 : Int32) (h0 : Heap) (v : Option Value) (h : Heap) (L : List Loc) : Prop := v = some (.int (nn >>> ((0 : Int32) &&& 31))) ∧ Fk h0.size [] L ∧ h = h0
set_option maxRecDepth 65536 in
set_option maxHeartbeats 40000000 in
theorem rm_len0 (l : Launch) (Z : State) (a0 : Array Value) (hw : ∀ d ∈ tables_1, d.before a0 Z = true) (ws : List Jvm.Cond) (x : Addr) (t : Addr) (kb : ClassId) (nn : Int32) (vs : List Value) (G1 : Int32) (h0 : Heap) (O0 : Old Z Z.heap.size h0) (SG1 : Sta Z Z.heap "java/lang/String" "COMPACT_STRINGS" "Z" (.int G1)) (nG1 : ¬ G1 = 0) (hE : Exa Z h0 x "java/lang/String") (hC : Fld Z h0 x "java/lang/String" "coder" "B" (.int (0 : Int32))) (hV : Fld Z h0 x "java/lang/String" "value" "[B" (.ref t)) (hA : Arv Z h0 t kb .byte nn vs (.int (0 : Int32))) :
    Ctr l Z (⟨"java/lang/String", "length", "()I"⟩ : MethodName) jdk_42_method_54_code 1 (some .int) ws ({ frames := 1, cells := 0, slots := 0, locals := 13 } : Room) #[(.ref x)] h0 (Q_rm_len0 Z x t kb nn vs G1 h0) := by
  refine Ctr.intro (Ls := fun _ => #[.val (.ref x)]) (plainFor_of_name pn7) (fun m => by first | rfl | (simp [entryFrame, mkF, argsToLocals, Value.category]; done)) ?_
  intro p e s m below meth c s₁ hx hby hml hr hlk hZ hown hnm hs0 X0 e0
  have w : ∀ (k : Nat) (d : Jvm.Cond), tables_1[k]? = some d → d.before a0 Z = true := fun k d q => hw d (List.mem_of_getElem? q)
  have N0 := Fk.nil h0.size []
  refine Wk.aloadN X0 hx (hb hby d7_0) rfl rfl rfl ?_
  refine Wk.getfield X0 hx hZ hown (host := "") (Or.inl (w 28 _ rfl)) Via.refl e0 hV (hb hby d7_1) rfl ?_
  intro T1 X1 e1
  refine Wk.arraylength X1 hx hZ e1 hA (hb hby d7_4) rfl ?_
  refine Wk.aloadN X1 hx (hb hby d7_5) rfl rfl rfl ?_
  refine Wk.callV X1 hx hZ (y := (⟨"java/lang/String", "coder", "()B"⟩ : MethodName)) (z := (⟨"java/lang/String", "coder", "()B"⟩ : MethodName)) hown (w 39 _ rfl) (w 40 _ rfl) (notFace_of_selects (args := #[]) (mvT hZ (w 42 _ rfl))) (w 42 _ rfl) (w 41 _ rfl) (by decide) (as' := []) (backOf (W := 1) (rm_cod0 l Z a0 hw [] x G1 h0 O0 SG1 nG1 hC) hZ (w 43 _ rfl) (w 10 _ rfl) (by decide) (by decide)) e1 hE (by rw [hml]; rfl) (rest := [(.int nn)]) (lenOf pd15 rfl) rfl (Nat.le_of_eq rfl) (hb hby d7_6) rfl (by decide) (by decide) ?_
  intro T2 h2 v2 L2 X2 e2 hQ2
  obtain ⟨rfl, Nq2, K2⟩ := hQ2
  have N2 := Fk.app N0 Nq2 (Nat.le_refl _) all0
  rw [K2] at e2
  show Wp p e below _ _ T2 (mkF m 9 #[.val (.ref x)] [(.int (0 : Int32)), (.int nn)])
  refine Wk.ishr X2 hx (hb hby d7_9) rfl ?_
  exact Wk.retI' X2 hx hlk hr (hb hby d7_10) (by decide) (by decide) (Qc := Q_rm_len0 Z x t kb nn vs G1 h0) e2 ⟨rfl, N2, rfl⟩
def Q_rm_cod1 (Z : State) (x : Addr) (G1 : Int32) (h0 : Heap) (v : Option Value) (h : Heap) (L : List Loc) : Prop := v = some (.int (1 : Int32)) ∧ Fk h0.size [] L ∧ h = h0
set_option maxRecDepth 65536 in
set_option maxHeartbeats 40000000 in
theorem rm_cod1 (l : Launch) (Z : State) (a0 : Array Value) (hw : ∀ d ∈ tables_1, d.before a0 Z = true) (ws : List Jvm.Cond) (x : Addr) (G1 : Int32) (h0 : Heap) (O0 : Old Z Z.heap.size h0) (SG1 : Sta Z Z.heap "java/lang/String" "COMPACT_STRINGS" "Z" (.int G1)) (nG1 : ¬ G1 = 0) (hC : Fld Z h0 x "java/lang/String" "coder" "B" (.int (1 : Int32))) :
    Ctr l Z (⟨"java/lang/String", "coder", "()B"⟩ : MethodName) jdk_42_method_152_code 1 (some .byte) ws ({ frames := 0, cells := 0, slots := 0, locals := 0 } : Room) #[(.ref x)] h0 (Q_rm_cod1 Z x G1 h0) := by
  refine Ctr.intro (Ls := fun _ => #[.val (.ref x)]) (plainFor_of_name pn7) (fun m => by first | rfl | (simp [entryFrame, mkF, argsToLocals, Value.category]; done)) ?_
  intro p e s m below meth c s₁ hx hby hml hr hlk hZ hown hnm hs0 X0 e0
  have w : ∀ (k : Nat) (d : Jvm.Cond), tables_1[k]? = some d → d.before a0 Z = true := fun k d q => hw d (List.mem_of_getElem? q)
  have N0 := Fk.nil h0.size []
  refine Wk.getstatic X0 hx hZ hown (host := "") (Or.inl (w 44 _ rfl)) Via.refl e0 (SG1.ext O0.2) (hb hby d8_0) rfl ?_
  intro T1 X1 e1
  refine Wk.ifNo X1 hx (hb hby d8_3) rfl ((if0 _ _).trans (feq nG1).1) ?_
  refine Wk.aloadN X1 hx (hb hby d8_6) rfl rfl rfl ?_
  refine Wk.getfield X1 hx hZ hown (host := "") (Or.inl (w 29 _ rfl)) Via.refl e1 hC (hb hby d8_7) rfl ?_
  intro T2 X2 e2
  refine Wk.goto X2 hx (hb hby d8_10) (by decide) (q := 14) rfl ?_
  exact Wk.retZ' X2 hx hlk hr (by simp) (hb hby d8_14) (by decide) (by decide) (Qc := Q_rm_cod1 Z x G1 h0) e2 ⟨rfl, N0, rfl⟩
theorem d12_17 : decode jdk_42_method_154_code 17 = .ok (.iconst 0, 1) := by decide +kernel
def Q_rm_isl1 (Z : State) (x : Addr) (G1 : Int32) (h0 : Heap) (v : Option Value) (h : Heap) (L : List Loc) : Prop := v = some (.int (0 : Int32)) ∧ Fk h0.size [] L ∧ h = h0
set_option maxRecDepth 65536 in
set_option maxHeartbeats 40000000 in
theorem rm_isl1 (l : Launch) (Z : State) (a0 : Array Value) (hw : ∀ d ∈ tables_1, d.before a0 Z = true) (ws : List Jvm.Cond) (x : Addr) (G1 : Int32) (h0 : Heap) (O0 : Old Z Z.heap.size h0) (SG1 : Sta Z Z.heap "java/lang/String" "COMPACT_STRINGS" "Z" (.int G1)) (nG1 : ¬ G1 = 0) (hC : Fld Z h0 x "java/lang/String" "coder" "B" (.int (1 : Int32))) :
    Ctr l Z (⟨"java/lang/String", "isLatin1", "()Z"⟩ : MethodName) jdk_42_method_154_code 1 (some .boolean) ws ({ frames := 0, cells := 0, slots := 0, locals := 0 } : Room) #[(.ref x)] h0 (Q_rm_isl1 Z x G1 h0) := by
  refine Ctr.intro (Ls := fun _ => #[.val (.ref x)]) (plainFor_of_name pn7) (fun m => by first | rfl | (simp [entryFrame, mkF, argsToLocals, Value.category]; done)) ?_
  intro p e s m below meth c s₁ hx hby hml hr hlk hZ hown hnm hs0 X0 e0
  have w : ∀ (k : Nat) (d : Jvm.Cond), tables_1[k]? = some d → d.before a0 Z = true := fun k d q => hw d (List.mem_of_getElem? q)
  have N0 := Fk.nil h0.size []
  refine Wk.getstatic X0 hx hZ hown (host := "") (Or.inl (w 44 _ rfl)) Via.refl e0 (SG1.ext O0.2) (hb hby d12_0) rfl ?_
  intro T1 X1 e1
  refine Wk.ifNo X1 hx (hb hby d12_3) rfl ((if0 _ _).trans (feq nG1).1) ?_
  refine Wk.aloadN X1 hx (hb hby d12_6) rfl rfl rfl ?_
  refine Wk.getfield X1 hx hZ hown (host := "") (Or.inl (w 29 _ rfl)) Via.refl e1 hC (hb hby d12_7) rfl ?_
  intro T2 X2 e2
  refine Wk.ifYes X2 hx (hb hby d12_10) (by decide) (q := 17) rfl ((if0 _ _).trans (feq (by decide : ¬ ((1 : Int32) = (0 : Int32)))).2) ?_
  refine Wk.iconst X2 hx (v := (0 : Int32)) (hb hby d12_17) rfl rfl ?_
  exact Wk.retZ' X2 hx hlk hr (by simp) (hb hby d12_18) (by decide) (by decide) (Qc := Q_rm_isl1 Z x G1 h0) e2 ⟨rfl, N0, rfl⟩
def Q_rm_len1 (Z : State) (x : Addr) (t : Addr) (kb : ClassId) (nn : Int32) (vs : List Value) (G1 : Int32) (h0 : Heap) (v : Option Value) (h : Heap) (L : List Loc) : Prop := v = some (.int (nn >>> ((1 : Int32) &&& 31))) ∧ Fk h0.size [] L ∧ h = h0
set_option maxRecDepth 65536 in
set_option maxHeartbeats 40000000 in
theorem rm_len1 (l : Launch) (Z : State) (a0 : Array Value) (hw : ∀ d ∈ tables_1, d.before a0 Z = true) (ws : List Jvm.Cond) (x : Addr) (t : Addr) (kb : ClassId) (nn : Int32) (vs : List Value) (G1 : Int32) (h0 : Heap) (O0 : Old Z Z.heap.size h0) (SG1 : Sta Z Z.heap "java/lang/String" "COMPACT_STRINGS" "Z" (.int G1)) (nG1 : ¬ G1 = 0) (hE : Exa Z h0 x "java/lang/String") (hC : Fld Z h0 x "java/lang/String" "coder" "B" (.int (1 : Int32))) (hV : Fld Z h0 x "java/lang/String" "value" "[B" (.ref t)) (hA : Arv Z h0 t kb .byte nn vs (.int (0 : Int32))) :
    Ctr l Z (⟨"java/lang/String", "length", "()I"⟩ : MethodName) jdk_42_method_54_code 1 (some .int) ws ({ frames := 1, cells := 0, slots := 0, locals := 13 } : Room) #[(.ref x)] h0 (Q_rm_len1 Z x t kb nn vs G1 h0) := by
  refine Ctr.intro (Ls := fun _ => #[.val (.ref x)]) (plainFor_of_name pn7) (fun m => by first | rfl | (simp [entryFrame, mkF, argsToLocals, Value.category]; done)) ?_
  intro p e s m below meth c s₁ hx hby hml hr hlk hZ hown hnm hs0 X0 e0
  have w : ∀ (k : Nat) (d : Jvm.Cond), tables_1[k]? = some d → d.before a0 Z = true := fun k d q => hw d (List.mem_of_getElem? q)
  have N0 := Fk.nil h0.size []
  refine Wk.aloadN X0 hx (hb hby d7_0) rfl rfl rfl ?_
  refine Wk.getfield X0 hx hZ hown (host := "") (Or.inl (w 28 _ rfl)) Via.refl e0 hV (hb hby d7_1) rfl ?_
  intro T1 X1 e1
  refine Wk.arraylength X1 hx hZ e1 hA (hb hby d7_4) rfl ?_
  refine Wk.aloadN X1 hx (hb hby d7_5) rfl rfl rfl ?_
  refine Wk.callV X1 hx hZ (y := (⟨"java/lang/String", "coder", "()B"⟩ : MethodName)) (z := (⟨"java/lang/String", "coder", "()B"⟩ : MethodName)) hown (w 39 _ rfl) (w 40 _ rfl) (notFace_of_selects (args := #[]) (mvT hZ (w 42 _ rfl))) (w 42 _ rfl) (w 41 _ rfl) (by decide) (as' := []) (backOf (W := 1) (rm_cod1 l Z a0 hw [] x G1 h0 O0 SG1 nG1 hC) hZ (w 43 _ rfl) (w 10 _ rfl) (by decide) (by decide)) e1 hE (by rw [hml]; rfl) (rest := [(.int nn)]) (lenOf pd15 rfl) rfl (Nat.le_of_eq rfl) (hb hby d7_6) rfl (by decide) (by decide) ?_
  intro T2 h2 v2 L2 X2 e2 hQ2
  obtain ⟨rfl, Nq2, K2⟩ := hQ2
  have N2 := Fk.app N0 Nq2 (Nat.le_refl _) all0
  rw [K2] at e2
  show Wp p e below _ _ T2 (mkF m 9 #[.val (.ref x)] [(.int (1 : Int32)), (.int nn)])
  refine Wk.ishr X2 hx (hb hby d7_9) rfl ?_
  exact Wk.retI' X2 hx hlk hr (hb hby d7_10) (by decide) (by decide) (Qc := Q_rm_len1 Z x t kb nn vs G1 h0) e2 ⟨rfl, N2, rfl⟩
theorem pn16 : plainName "jdk/internal/util/Preconditions" = true := by first | (simp [plainName, overriddenIn]; done) | decide +kernel
theorem d11_0 : decode jdk_41_method_12_code 0 = .ok (.iload_n 0, 1) := by decide +kernel
theorem d11_1 : decode jdk_41_method_12_code 1 = .ok (.ifCond .lt 13, 3) := by decide +kernel
theorem d11_4 : decode jdk_41_method_12_code 4 = .ok (.iload_n 0, 1) := by decide +kernel
theorem d11_5 : decode jdk_41_method_12_code 5 = .ok (.iload_n 1, 1) := by decide +kernel
theorem d11_6 : decode jdk_41_method_12_code 6 = .ok (.if_icmp .gt 8, 3) := by decide +kernel
theorem d11_9 : decode jdk_41_method_12_code 9 = .ok (.iload_n 1, 1) := by decide +kernel
theorem d11_10 : decode jdk_41_method_12_code 10 = .ok (.iload_n 2, 1) := by decide +kernel
theorem d11_11 : decode jdk_41_method_12_code 11 = .ok (.if_icmp .le 11, 3) := by decide +kernel
theorem d11_22 : decode jdk_41_method_12_code 22 = .ok (.iload_n 0, 1) := by decide +kernel
theorem d11_23 : decode jdk_41_method_12_code 23 = .ok (.ireturn, 1) := by decide +kernel
def Q_rm_pck0 (Z : State) (h0 : Heap) (v : Option Value) (h : Heap) (L : List Loc) : Prop := v = some (.int (0 : Int32)) ∧ Fk h0.size [] L ∧ h = h0
set_option maxRecDepth 65536 in
set_option maxHeartbeats 40000000 in
theorem rm_pck0 (l : Launch) (Z : State) (a0 : Array Value) (hw : ∀ d ∈ tables_1, d.before a0 Z = true) (ws : List Jvm.Cond) (h0 : Heap) (O0 : Old Z Z.heap.size h0) :
    Ctr l Z (⟨"jdk/internal/util/Preconditions", "checkFromToIndex", "(IIILjava/util/function/BiFunction;)I"⟩ : MethodName) jdk_41_method_12_code 4 (some .int) ws ({ frames := 0, cells := 0, slots := 0, locals := 0 } : Room) #[(.int (0 : Int32)), (.int (0 : Int32)), (.int (0 : Int32)), .null] h0 (Q_rm_pck0 Z h0) := by
  refine Ctr.intro (Ls := fun _ => #[.val (.int (0 : Int32)), .val (.int (0 : Int32)), .val (.int (0 : Int32)), .val .null]) (plainFor_of_name pn16) (fun m => by first | rfl | (simp [entryFrame, mkF, argsToLocals, Value.category]; done)) ?_
  intro p e s m below meth c s₁ hx hby hml hr hlk hZ hown hnm hs0 X0 e0
  have w : ∀ (k : Nat) (d : Jvm.Cond), tables_1[k]? = some d → d.before a0 Z = true := fun k d q => hw d (List.mem_of_getElem? q)
  have N0 := Fk.nil h0.size []
  refine Wk.iloadN X0 hx (hb hby d11_0) rfl rfl ?_
  refine Wk.ifNo X0 hx (hb hby d11_1) rfl ((if0 _ _).trans (flt (by decide : ¬ ((0 : Int32) < (0 : Int32)))).1) ?_
  refine Wk.iloadN X0 hx (hb hby d11_4) rfl rfl ?_
  refine Wk.iloadN X0 hx (hb hby d11_5) rfl rfl ?_
  refine Wk.icmpNo X0 hx (hb hby d11_6) rfl (flt (by decide : ¬ ((0 : Int32) < (0 : Int32)))).2.2.1 ?_
  refine Wk.iloadN X0 hx (hb hby d11_9) rfl rfl ?_
  refine Wk.iloadN X0 hx (hb hby d11_10) rfl rfl ?_
  refine Wk.icmpYes X0 hx (hb hby d11_11) (by decide) (q := 22) rfl (flt (by decide : ¬ ((0 : Int32) < (0 : Int32)))).2.2.2 ?_
  refine Wk.iloadN X0 hx (hb hby d11_22) rfl rfl ?_
  exact Wk.retI' X0 hx hlk hr (hb hby d11_23) (by decide) (by decide) (Qc := Q_rm_pck0 Z h0) e0 ⟨rfl, N0, rfl⟩
theorem pn17 : plainName "java/util/Objects" = true := by first | (simp [plainName, overriddenIn]; done) | decide +kernel
theorem d10_0 : decode jdk_31_method_18_code 0 = .ok (.iload_n 0, 1) := by decide +kernel
theorem d10_1 : decode jdk_31_method_18_code 1 = .ok (.iload_n 1, 1) := by decide +kernel
theorem d10_2 : decode jdk_31_method_18_code 2 = .ok (.iload_n 2, 1) := by decide +kernel
theorem d10_3 : decode jdk_31_method_18_code 3 = .ok (.aconst_null, 1) := by decide +kernel
theorem d10_4 : decode jdk_31_method_18_code 4 = .ok (.invokestatic 111, 3) := by decide +kernel
theorem pd18 : parseMethodDescriptor "(IIILjava/util/function/BiFunction;)I" = some ⟨[.int, .int, .int, (.object "java/util/function/BiFunction")], some .int⟩ := by decide +kernel
theorem d10_7 : decode jdk_31_method_18_code 7 = .ok (.ireturn, 1) := by decide +kernel
def Q_rm_ock0 (Z : State) (h0 : Heap) (v : Option Value) (h : Heap) (L : List Loc) : Prop := v = some (.int (0 : Int32)) ∧ Fk h0.size [] L ∧ h = h0
set_option maxRecDepth 65536 in
set_option maxHeartbeats 40000000 in
theorem rm_ock0 (l : Launch) (Z : State) (a0 : Array Value) (hw : ∀ d ∈ tables_1, d.before a0 Z = true) (ws : List Jvm.Cond) (h0 : Heap) (O0 : Old Z Z.heap.size h0) :
    Ctr l Z (⟨"java/util/Objects", "checkFromToIndex", "(III)I"⟩ : MethodName) jdk_31_method_18_code 3 (some .int) ws ({ frames := 1, cells := 0, slots := 0, locals := 15 } : Room) #[(.int (0 : Int32)), (.int (0 : Int32)), (.int (0 : Int32))] h0 (Q_rm_ock0 Z h0) := by
  refine Ctr.intro (Ls := fun _ => #[.val (.int (0 : Int32)), .val (.int (0 : Int32)), .val (.int (0 : Int32))]) (plainFor_of_name pn17) (fun m => by first | rfl | (simp [entryFrame, mkF, argsToLocals, Value.category]; done)) ?_
  intro p e s m below meth c s₁ hx hby hml hr hlk hZ hown hnm hs0 X0 e0
  have w : ∀ (k : Nat) (d : Jvm.Cond), tables_1[k]? = some d → d.before a0 Z = true := fun k d q => hw d (List.mem_of_getElem? q)
  have N0 := Fk.nil h0.size []
  refine Wk.iloadN X0 hx (hb hby d10_0) rfl rfl ?_
  refine Wk.iloadN X0 hx (hb hby d10_1) rfl rfl ?_
  refine Wk.iloadN X0 hx (hb hby d10_2) rfl rfl ?_
  refine Wk.aconstNull X0 hx (hb hby d10_3) rfl ?_
  refine Wk.callS X0 hx hZ hown (w 55 _ rfl) (w 56 _ rfl) (w 57 _ rfl) (w 58 _ rfl) (by decide) (as' := [(.int (0 : Int32)), (.int (0 : Int32)), (.int (0 : Int32)), .null]) (backOf (W := 0) (rm_pck0 l Z a0 hw [] h0 O0) hZ (w 58 _ rfl) (w 57 _ rfl) (by decide) (by decide)) e0 (by rw [hml]; rfl) (rest := []) (lenOf pd18 rfl) rfl (Nat.le_of_eq rfl) (hb hby d10_4) rfl (by decide) (by decide) ?_
  intro T1 h1 v1 L1 X1 e1 hQ1
  obtain ⟨rfl, Nq1, K1⟩ := hQ1
  have N1 := Fk.app N0 Nq1 (Nat.le_refl _) all0
  rw [K1] at e1
  show Wp p e below _ _ T1 (mkF m 7 #[.val (.int (0 : Int32)), .val (.int (0 : Int32)), .val (.int (0 : Int32))] [(.int (0 : Int32))])
  exact Wk.retI' X1 hx hlk hr (hb hby d10_7) (by decide) (by decide) (Qc := Q_rm_ock0 Z h0) e1 ⟨rfl, N1, rfl⟩
def Q_rm_pck1 (Z : State) (h0 : Heap) (v : Option Value) (h : Heap) (L : List Loc) : Prop := v = some (.int (0 : Int32)) ∧ Fk h0.size [] L ∧ h = h0
set_option maxRecDepth 65536 in
set_option maxHeartbeats 40000000 in
theorem rm_pck1 (l : Launch) (Z : State) (a0 : Array Value) (hw : ∀ d ∈ tables_1, d.before a0 Z = true) (ws : List Jvm.Cond) (h0 : Heap) (O0 : Old Z Z.heap.size h0) :
    Ctr l Z (⟨"jdk/internal/util/Preconditions", "checkFromToIndex", "(IIILjava/util/function/BiFunction;)I"⟩ : MethodName) jdk_41_method_12_code 4 (some .int) ws ({ frames := 0, cells := 0, slots := 0, locals := 0 } : Room) #[(.int (0 : Int32)), (.int (1 : Int32)), (.int (1 : Int32)), .null] h0 (Q_rm_pck1 Z h0) := by
  refine Ctr.intro (Ls := fun _ => #[.val (.int (0 : Int32)), .val (.int (1 : Int32)), .val (.int (1 : Int32)), .val .null]) (plainFor_of_name pn16) (fun m => by first | rfl | (simp [entryFrame, mkF, argsToLocals, Value.category]; done)) ?_
  intro p e s m below meth c s₁ hx hby hml hr hlk hZ hown hnm hs0 X0 e0
  have w : ∀ (k : Nat) (d : Jvm.Cond), tables_1[k]? = some d → d.before a0 Z = true := fun k d q => hw d (List.mem_of_getElem? q)
  have N0 := Fk.nil h0.size []
  refine Wk.iloadN X0 hx (hb hby d11_0) rfl rfl ?_
  refine Wk.ifNo X0 hx (hb hby d11_1) rfl ((if0 _ _).trans (flt (by decide : ¬ ((0 : Int32) < (0 : Int32)))).1) ?_
  refine Wk.iloadN X0 hx (hb hby d11_4) rfl rfl ?_
  refine Wk.iloadN X0 hx (hb hby d11_5) rfl rfl ?_
  refine Wk.icmpNo X0 hx (hb hby d11_6) rfl (flt (by decide : ¬ ((1 : Int32) < (0 : Int32)))).2.2.1 ?_
  refine Wk.iloadN X0 hx (hb hby d11_9) rfl rfl ?_
  refine Wk.iloadN X0 hx (hb hby d11_10) rfl rfl ?_
  refine Wk.icmpYes X0 hx (hb hby d11_11) (by decide) (q := 22) rfl (flt (by decide : ¬ ((1 : Int32) < (1 : Int32)))).2.2.2 ?_
  refine Wk.iloadN X0 hx (hb hby d11_22) rfl rfl ?_
  exact Wk.retI' X0 hx hlk hr (hb hby d11_23) (by decide) (by decide) (Qc := Q_rm_pck1 Z h0) e0 ⟨rfl, N0, rfl⟩
def Q_rm_ock1 (Z : State) (h0 : Heap) (v : Option Value) (h : Heap) (L : List Loc) : Prop := v = some (.int (0 : Int32)) ∧ Fk h0.size [] L ∧ h = h0
set_option maxRecDepth 65536 in
set_option maxHeartbeats 40000000 in
theorem rm_ock1 (l : Launch) (Z : State) (a0 : Array Value) (hw : ∀ d ∈ tables_1, d.before a0 Z = true) (ws : List Jvm.Cond) (h0 : Heap) (O0 : Old Z Z.heap.size h0) :
    Ctr l Z (⟨"java/util/Objects", "checkFromToIndex", "(III)I"⟩ : MethodName) jdk_31_method_18_code 3 (some .int) ws ({ frames := 1, cells := 0, slots := 0, locals := 15 } : Room) #[(.int (0 : Int32)), (.int (1 : Int32)), (.int (1 : Int32))] h0 (Q_rm_ock1 Z h0) := by
  refine Ctr.intro (Ls := fun _ => #[.val (.int (0 : Int32)), .val (.int (1 : Int32)), .val (.int (1 : Int32))]) (plainFor_of_name pn17) (fun m => by first | rfl | (simp [entryFrame, mkF, argsToLocals, Value.category]; done)) ?_
  intro p e s m below meth c s₁ hx hby hml hr hlk hZ hown hnm hs0 X0 e0
  have w : ∀ (k : Nat) (d : Jvm.Cond), tables_1[k]? = some d → d.before a0 Z = true := fun k d q => hw d (List.mem_of_getElem? q)
  have N0 := Fk.nil h0.size []
  refine Wk.iloadN X0 hx (hb hby d10_0) rfl rfl ?_
  refine Wk.iloadN X0 hx (hb hby d10_1) rfl rfl ?_
  refine Wk.iloadN X0 hx (hb hby d10_2) rfl rfl ?_
  refine Wk.aconstNull X0 hx (hb hby d10_3) rfl ?_
  refine Wk.callS X0 hx hZ hown (w 55 _ rfl) (w 56 _ rfl) (w 57 _ rfl) (w 58 _ rfl) (by decide) (as' := [(.int (0 : Int32)), (.int (1 : Int32)), (.int (1 : Int32)), .null]) (backOf (W := 0) (rm_pck1 l Z a0 hw [] h0 O0) hZ (w 58 _ rfl) (w 57 _ rfl) (by decide) (by decide)) e0 (by rw [hml]; rfl) (rest := []) (lenOf pd18 rfl) rfl (Nat.le_of_eq rfl) (hb hby d10_4) rfl (by decide) (by decide) ?_
  intro T1 h1 v1 L1 X1 e1 hQ1
  obtain ⟨rfl, Nq1, K1⟩ := hQ1
  have N1 := Fk.app N0 Nq1 (Nat.le_refl _) all0
  rw [K1] at e1
  show Wp p e below _ _ T1 (mkF m 7 #[.val (.int (0 : Int32)), .val (.int (1 : Int32)), .val (.int (1 : Int32))] [(.int (0 : Int32))])
  exact Wk.retI' X1 hx hlk hr (hb hby d10_7) (by decide) (by decide) (Qc := Q_rm_ock1 Z h0) e1 ⟨rfl, N1, rfl⟩
def Q_rm_pck2 (Z : State) (h0 : Heap) (v : Option Value) (h : Heap) (L : List Loc) : Prop := v = some (.int (0 : Int32)) ∧ Fk h0.size [] L ∧ h = h0
set_option maxRecDepth 65536 in
set_option maxHeartbeats 40000000 in
theorem rm_pck2 (l : Launch) (Z : State) (a0 : Array Value) (hw : ∀ d ∈ tables_1, d.before a0 Z = true) (ws : List Jvm.Cond) (h0 : Heap) (O0 : Old Z Z.heap.size h0) :
    Ctr l Z (⟨"jdk/internal/util/Preconditions", "checkFromToIndex", "(IIILjava/util/function/BiFunction;)I"⟩ : MethodName) jdk_41_method_12_code 4 (some .int) ws ({ frames := 0, cells := 0, slots := 0, locals := 0 } : Room) #[(.int (0 : Int32)), (.int (2 : Int32)), (.int (2 : Int32)), .null] h0 (Q_rm_pck2 Z h0) := by
  refine Ctr.intro (Ls := fun _ => #[.val (.int (0 : Int32)), .val (.int (2 : Int32)), .val (.int (2 : Int32)), .val .null]) (plainFor_of_name pn16) (fun m => by first | rfl | (simp [entryFrame, mkF, argsToLocals, Value.category]; done)) ?_
  intro p e s m below meth c s₁ hx hby hml hr hlk hZ hown hnm hs0 X0 e0
  have w : ∀ (k : Nat) (d : Jvm.Cond), tables_1[k]? = some d → d.before a0 Z = true := fun k d q => hw d (List.mem_of_getElem? q)
  have N0 := Fk.nil h0.size []
  refine Wk.iloadN X0 hx (hb hby d11_0) rfl rfl ?_
  refine Wk.ifNo X0 hx (hb hby d11_1) rfl ((if0 _ _).trans (flt (by decide : ¬ ((0 : Int32) < (0 : Int32)))).1) ?_
  refine Wk.iloadN X0 hx (hb hby d11_4) rfl rfl ?_
  refine Wk.iloadN X0 hx (hb hby d11_5) rfl rfl ?_
  refine Wk.icmpNo X0 hx (hb hby d11_6) rfl (flt (by decide : ¬ ((2 : Int32) < (0 : Int32)))).2.2.1 ?_
  refine Wk.iloadN X0 hx (hb hby d11_9) rfl rfl ?_
  refine Wk.iloadN X0 hx (hb hby d11_10) rfl rfl ?_
  refine Wk.icmpYes X0 hx (hb hby d11_11) (by decide) (q := 22) rfl (flt (by decide : ¬ ((2 : Int32) < (2 : Int32)))).2.2.2 ?_
  refine Wk.iloadN X0 hx (hb hby d11_22) rfl rfl ?_
  exact Wk.retI' X0 hx hlk hr (hb hby d11_23) (by decide) (by decide) (Qc := Q_rm_pck2 Z h0) e0 ⟨rfl, N0, rfl⟩
def Q_rm_ock2 (Z : State) (h0 : Heap) (v : Option Value) (h : Heap) (L : List Loc) : Prop := v = some (.int (0 : Int32)) ∧ Fk h0.size [] L ∧ h = h0
set_option maxRecDepth 65536 in
set_option maxHeartbeats 40000000 in
theorem rm_ock2 (l : Launch) (Z : State) (a0 : Array Value) (hw : ∀ d ∈ tables_1, d.before a0 Z = true) (ws : List Jvm.Cond) (h0 : Heap) (O0 : Old Z Z.heap.size h0) :
    Ctr l Z (⟨"java/util/Objects", "checkFromToIndex", "(III)I"⟩ : MethodName) jdk_31_method_18_code 3 (some .int) ws ({ frames := 1, cells := 0, slots := 0, locals := 15 } : Room) #[(.int (0 : Int32)), (.int (2 : Int32)), (.int (2 : Int32))] h0 (Q_rm_ock2 Z h0) := by
  refine Ctr.intro (Ls := fun _ => #[.val (.int (0 : Int32)), .val (.int (2 : Int32)), .val (.int (2 : Int32))]) (plainFor_of_name pn17) (fun m => by first | rfl | (simp [entryFrame, mkF, argsToLocals, Value.category]; done)) ?_
  intro p e s m below meth c s₁ hx hby hml hr hlk hZ hown hnm hs0 X0 e0
  have w : ∀ (k : Nat) (d : Jvm.Cond), tables_1[k]? = some d → d.before a0 Z = true := fun k d q => hw d (List.mem_of_getElem? q)
  have N0 := Fk.nil h0.size []
  refine Wk.iloadN X0 hx (hb hby d10_0) rfl rfl ?_
  refine Wk.iloadN X0 hx (hb hby d10_1) rfl rfl ?_
  refine Wk.iloadN X0 hx (hb hby d10_2) rfl rfl ?_
  refine Wk.aconstNull X0 hx (hb hby d10_3) rfl ?_
  refine Wk.callS X0 hx hZ hown (w 55 _ rfl) (w 56 _ rfl) (w 57 _ rfl) (w 58 _ rfl) (by decide) (as' := [(.int (0 : Int32)), (.int (2 : Int32)), (.int (2 : Int32)), .null]) (backOf (W := 0) (rm_pck2 l Z a0 hw [] h0 O0) hZ (w 58 _ rfl) (w 57 _ rfl) (by decide) (by decide)) e0 (by rw [hml]; rfl) (rest := []) (lenOf pd18 rfl) rfl (Nat.le_of_eq rfl) (hb hby d10_4) rfl (by decide) (by decide) ?_
  intro T1 h1 v1 L1 X1 e1 hQ1
  obtain ⟨rfl, Nq1, K1⟩ := hQ1
  have N1 := Fk.app N0 Nq1 (Nat.le_refl _) all0
  rw [K1] at e1
  show Wp p e below _ _ T1 (mkF m 7 #[.val (.int (0 : Int32)), .val (.int (2 : Int32)), .val (.int (2 : Int32))] [(.int (0 : Int32))])
  exact Wk.retI' X1 hx hlk hr (hb hby d10_7) (by decide) (by decide) (Qc := Q_rm_ock2 Z h0) e1 ⟨rfl, N1, rfl⟩
def Q_rm_pck3 (Z : State) (h0 : Heap) (v : Option Value) (h : Heap) (L : List Loc) : Prop := v = some (.int (0 : Int32)) ∧ Fk h0.size [] L ∧ h = h0
set_option maxRecDepth 65536 in
set_option maxHeartbeats 40000000 in
theorem rm_pck3 (l : Launch) (Z : State) (a0 : Array Value) (hw : ∀ d ∈ tables_1, d.before a0 Z = true) (ws : List Jvm.Cond) (h0 : Heap) (O0 : Old Z Z.heap.size h0) :
    Ctr l Z (⟨"jdk/internal/util/Preconditions", "checkFromToIndex", "(IIILjava/util/function/BiFunction;)I"⟩ : MethodName) jdk_41_method_12_code 4 (some .int) ws ({ frames := 0, cells := 0, slots := 0, locals := 0 } : Room) #[(.int (0 : Int32)), (.int (3 : Int32)), (.int (3 : Int32)), .null] h0 (Q_rm_pck3 Z h0) := by
  refine Ctr.intro (Ls := fun _ => #[.val (.int (0 : Int32)), .val (.int (3 : Int32)), .val (.int (3 : Int32)), .val .null]) (plainFor_of_name pn16) (fun m => by first | rfl | (simp [entryFrame, mkF, argsToLocals, Value.category]; done)) ?_
  intro p e s m below meth c s₁ hx hby hml hr hlk hZ hown hnm hs0 X0 e0
  have w : ∀ (k : Nat) (d : Jvm.Cond), tables_1[k]? = some d → d.before a0 Z = true := fun k d q => hw d (List.mem_of_getElem? q)
  have N0 := Fk.nil h0.size []
  refine Wk.iloadN X0 hx (hb hby d11_0) rfl rfl ?_
  refine Wk.ifNo X0 hx (hb hby d11_1) rfl ((if0 _ _).trans (flt (by decide : ¬ ((0 : Int32) < (0 : Int32)))).1) ?_
  refine Wk.iloadN X0 hx (hb hby d11_4) rfl rfl ?_
  refine Wk.iloadN X0 hx (hb hby d11_5) rfl rfl ?_
  refine Wk.icmpNo X0 hx (hb hby d11_6) rfl (flt (by decide : ¬ ((3 : Int32) < (0 : Int32)))).2.2.1 ?_
  refine Wk.iloadN X0 hx (hb hby d11_9) rfl rfl ?_
  refine Wk.iloadN X0 hx (hb hby d11_10) rfl rfl ?_
  refine Wk.icmpYes X0 hx (hb hby d11_11) (by decide) (q := 22) rfl (flt (by decide : ¬ ((3 : Int32) < (3 : Int32)))).2.2.2 ?_
  refine Wk.iloadN X0 hx (hb hby d11_22) rfl rfl ?_
  exact Wk.retI' X0 hx hlk hr (hb hby d11_23) (by decide) (by decide) (Qc := Q_rm_pck3 Z h0) e0 ⟨rfl, N0, rfl⟩
def Q_rm_ock3 (Z : State) (h0 : Heap) (v : Option Value) (h : Heap) (L : List Loc) : Prop := v = some (.int (0 : Int32)) ∧ Fk h0.size [] L ∧ h = h0
set_option maxRecDepth 65536 in
set_option maxHeartbeats 40000000 in
theorem rm_ock3 (l : Launch) (Z : State) (a0 : Array Value) (hw : ∀ d ∈ tables_1, d.before a0 Z = true) (ws : List Jvm.Cond) (h0 : Heap) (O0 : Old Z Z.heap.size h0) :
    Ctr l Z (⟨"java/util/Objects", "checkFromToIndex", "(III)I"⟩ : MethodName) jdk_31_method_18_code 3 (some .int) ws ({ frames := 1, cells := 0, slots := 0, locals := 15 } : Room) #[(.int (0 : Int32)), (.int (3 : Int32)), (.int (3 : Int32))] h0 (Q_rm_ock3 Z h0) := by
  refine Ctr.intro (Ls := fun _ => #[.val (.int (0 : Int32)), .val (.int (3 : Int32)), .val (.int (3 : Int32))]) (plainFor_of_name pn17) (fun m => by first | rfl | (simp [entryFrame, mkF, argsToLocals, Value.category]; done)) ?_
  intro p e s m below meth c s₁ hx hby hml hr hlk hZ hown hnm hs0 X0 e0
  have w : ∀ (k : Nat) (d : Jvm.Cond), tables_1[k]? = some d → d.before a0 Z = true := fun k d q => hw d (List.mem_of_getElem? q)
  have N0 := Fk.nil h0.size []
  refine Wk.iloadN X0 hx (hb hby d10_0) rfl rfl ?_
  refine Wk.iloadN X0 hx (hb hby d10_1) rfl rfl ?_
  refine Wk.iloadN X0 hx (hb hby d10_2) rfl rfl ?_
  refine Wk.aconstNull X0 hx (hb hby d10_3) rfl ?_
  refine Wk.callS X0 hx hZ hown (w 55 _ rfl) (w 56 _ rfl) (w 57 _ rfl) (w 58 _ rfl) (by decide) (as' := [(.int (0 : Int32)), (.int (3 : Int32)), (.int (3 : Int32)), .null]) (backOf (W := 0) (rm_pck3 l Z a0 hw [] h0 O0) hZ (w 58 _ rfl) (w 57 _ rfl) (by decide) (by decide)) e0 (by rw [hml]; rfl) (rest := []) (lenOf pd18 rfl) rfl (Nat.le_of_eq rfl) (hb hby d10_4) rfl (by decide) (by decide) ?_
  intro T1 h1 v1 L1 X1 e1 hQ1
  obtain ⟨rfl, Nq1, K1⟩ := hQ1
  have N1 := Fk.app N0 Nq1 (Nat.le_refl _) all0
  rw [K1] at e1
  show Wp p e below _ _ T1 (mkF m 7 #[.val (.int (0 : Int32)), .val (.int (3 : Int32)), .val (.int (3 : Int32))] [(.int (0 : Int32))])
  exact Wk.retI' X1 hx hlk hr (hb hby d10_7) (by decide) (by decide) (Qc := Q_rm_ock3 Z h0) e1 ⟨rfl, N1, rfl⟩
theorem d9_0 : decode jdk_42_method_59_code 0 = .ok (.iload_n 1, 1) := by decide +kernel
theorem d9_1 : decode jdk_42_method_59_code 1 = .ok (.iload_n 2, 1) := by decide +kernel
theorem d9_2 : decode jdk_42_method_59_code 2 = .ok (.aload_n 0, 1) := by decide +kernel
theorem d9_3 : decode jdk_42_method_59_code 3 = .ok (.invokevirtual 505, 3) := by decide +kernel
theorem pd19 : parseMethodDescriptor "()I" = some ⟨[], some .int⟩ := by decide +kernel
theorem d9_6 : decode jdk_42_method_59_code 6 = .ok (.invokestatic 511, 3) := by decide +kernel
theorem pd20 : parseMethodDescriptor "(III)I" = some ⟨[.int, .int, .int], some .int⟩ := by decide +kernel
theorem d9_9 : decode jdk_42_method_59_code 9 = .ok (.pop, 1) := by decide +kernel
theorem d9_10 : decode jdk_42_method_59_code 10 = .ok (.aload_n 0, 1) := by decide +kernel
theorem d9_11 : decode jdk_42_method_59_code 11 = .ok (.invokevirtual 492, 3) := by decide +kernel
theorem pd21 : parseMethodDescriptor "()Z" = some ⟨[], some .boolean⟩ := by decide +kernel
theorem d9_14 : decode jdk_42_method_59_code 14 = .ok (.ifCond .eq 7, 3) := by decide +kernel
theorem d9_17 : decode jdk_42_method_59_code 17 = .ok (.iload_n 2, 1) := by decide +kernel
theorem d9_18 : decode jdk_42_method_59_code 18 = .ok (.iload_n 1, 1) := by decide +kernel
theorem d9_19 : decode jdk_42_method_59_code 19 = .ok (.isub, 1) := by decide +kernel
theorem d9_20 : decode jdk_42_method_59_code 20 = .ok (.ireturn, 1) := by decide +kernel
def Q_rm_cpc00 (Z : State) (x : Addr) (t : Addr) (kb : ClassId) (G1 : Int32) (lb : List Value) (h0 : Heap) (v : Option Value) (h : Heap) (L : List Loc) : Prop := v = some (.int (0 : Int32)) ∧ Fk h0.size [] L ∧ h = h0
set_option maxRecDepth 65536 in
set_option maxHeartbeats 40000000 in
theorem rm_cpc00 (l : Launch) (Z : State) (a0 : Array Value) (hw : ∀ d ∈ tables_1, d.before a0 Z = true) (ws : List Jvm.Cond) (x : Addr) (t : Addr) (kb : ClassId) (G1 : Int32) (lb : List Value) (h0 : Heap) (O0 : Old Z Z.heap.size h0) (SG1 : Sta Z Z.heap "java/lang/String" "COMPACT_STRINGS" "Z" (.int G1)) (nG1 : ¬ G1 = 0) (hst0 : Exa Z h0 x "java/lang/String") (hst1 : Fld Z h0 x "java/lang/String" "coder" "B" (.int (0 : Int32))) (hst2 : Fld Z h0 x "java/lang/String" "value" "[B" (.ref t)) (hst3 : Arv Z h0 t kb .byte (0 : Int32) lb (.int (0 : Int32))) :
    Ctr l Z (⟨"java/lang/String", "codePointCount", "(II)I"⟩ : MethodName) jdk_42_method_59_code 3 (some .int) ws ({ frames := 2, cells := 0, slots := 0, locals := 29 } : Room) #[(.ref x), (.int (0 : Int32)), (.int (0 : Int32))] h0 (Q_rm_cpc00 Z x t kb G1 lb h0) := by
  refine Ctr.intro (Ls := fun _ => #[.val (.ref x), .val (.int (0 : Int32)), .val (.int (0 : Int32))]) (plainFor_of_name pn7) (fun m => by first | rfl | (simp [entryFrame, mkF, argsToLocals, Value.category]; done)) ?_
  intro p e s m below meth c s₁ hx hby hml hr hlk hZ hown hnm hs0 X0 e0
  have w : ∀ (k : Nat) (d : Jvm.Cond), tables_1[k]? = some d → d.before a0 Z = true := fun k d q => hw d (List.mem_of_getElem? q)
  have N0 := Fk.nil h0.size []
  refine Wk.iloadN X0 hx (hb hby d9_0) rfl rfl ?_
  refine Wk.iloadN X0 hx (hb hby d9_1) rfl rfl ?_
  refine Wk.aloadN X0 hx (hb hby d9_2) rfl rfl rfl ?_
  refine Wk.callV X0 hx hZ (y := (⟨"java/lang/String", "length", "()I"⟩ : MethodName)) (z := (⟨"java/lang/String", "length", "()I"⟩ : MethodName)) hown (w 50 _ rfl) (w 35 _ rfl) (notFace_of_selects (args := #[]) (mvT hZ (w 37 _ rfl))) (w 37 _ rfl) (w 36 _ rfl) (by decide) (as' := []) (backOf (W := 2) (rm_len0 l Z a0 hw [] x t kb (0 : Int32) lb G1 h0 O0 SG1 nG1 hst0 hst1 hst2 hst3) hZ (w 38 _ rfl) (w 10 _ rfl) (by decide) (by decide)) e0 hst0 (by rw [hml]; rfl) (rest := [(.int (0 : Int32)), (.int (0 : Int32))]) (lenOf pd19 rfl) rfl (Nat.le_of_eq rfl) (hb hby d9_3) rfl (by decide) (by decide) ?_
  intro T1 h1 v1 L1 X1 e1 hQ1
  obtain ⟨rfl, Nq1, K1⟩ := hQ1
  have N1 := Fk.app N0 Nq1 (Nat.le_refl _) all0
  rw [K1] at e1
  show Wp p e below _ _ T1 (mkF m 6 #[.val (.ref x), .val (.int (0 : Int32)), .val (.int (0 : Int32))] [(.int ((0 : Int32) >>> ((0 : Int32) &&& 31))), (.int (0 : Int32)), (.int (0 : Int32))])
  rw [(by decide : (((0 : Int32) >>> ((0 : Int32) &&& 31)) : Int32) = (0 : Int32))]
  refine Wk.callS X1 hx hZ hown (w 51 _ rfl) (w 52 _ rfl) (w 53 _ rfl) (w 54 _ rfl) (by decide) (as' := [(.int (0 : Int32)), (.int (0 : Int32)), (.int (0 : Int32))]) (backOf (W := 0) (rm_ock0 l Z a0 hw [] h0 O0) hZ (w 54 _ rfl) (w 53 _ rfl) (by decide) (by decide)) e1 (by rw [hml]; rfl) (rest := []) (lenOf pd20 rfl) rfl (Nat.le_of_eq rfl) (hb hby d9_6) rfl (by decide) (by decide) ?_
  intro T2 h2 v2 L2 X2 e2 hQ2
  obtain ⟨rfl, Nq2, K2⟩ := hQ2
  have N2 := Fk.app N1 Nq2 (Nat.le_refl _) all0
  rw [K2] at e2
  show Wp p e below _ _ T2 (mkF m 9 #[.val (.ref x), .val (.int (0 : Int32)), .val (.int (0 : Int32))] [(.int (0 : Int32))])
  refine Wk.pop X2 hx (hb hby d9_9) rfl rfl ?_
  refine Wk.aloadN X2 hx (hb hby d9_10) rfl rfl rfl ?_
  refine Wk.callV X2 hx hZ (y := (⟨"java/lang/String", "isLatin1", "()Z"⟩ : MethodName)) (z := (⟨"java/lang/String", "isLatin1", "()Z"⟩ : MethodName)) hown (w 59 _ rfl) (w 60 _ rfl) (notFace_of_selects (args := #[]) (mvT hZ (w 62 _ rfl))) (w 62 _ rfl) (w 61 _ rfl) (by decide) (as' := []) (backOf (W := 0) (rm_isl0 l Z a0 hw [] x G1 h0 O0 SG1 nG1 hst1) hZ (w 63 _ rfl) (w 10 _ rfl) (by decide) (by decide)) e2 hst0 (by rw [hml]; rfl) (rest := []) (lenOf pd21 rfl) rfl (Nat.le_of_eq rfl) (hb hby d9_11) rfl (by decide) (by decide) ?_
  intro T3 h3 v3 L3 X3 e3 hQ3
  obtain ⟨rfl, Nq3, K3⟩ := hQ3
  have N3 := Fk.app N2 Nq3 (Nat.le_refl _) all0
  rw [K3] at e3
  show Wp p e below _ _ T3 (mkF m 14 #[.val (.ref x), .val (.int (0 : Int32)), .val (.int (0 : Int32))] [(.int (1 : Int32))])
  refine Wk.ifNo X3 hx (hb hby d9_14) rfl ((if0 _ _).trans (feq (by decide : ¬ ((1 : Int32) = (0 : Int32)))).1) ?_
  refine Wk.iloadN X3 hx (hb hby d9_17) rfl rfl ?_
  refine Wk.iloadN X3 hx (hb hby d9_18) rfl rfl ?_
  refine Wk.isub X3 hx (hb hby d9_19) rfl ?_
  rw [(by decide : (((0 : Int32) - (0 : Int32)) : Int32) = (0 : Int32))]
  exact Wk.retI' X3 hx hlk hr (hb hby d9_20) (by decide) (by decide) (Qc := Q_rm_cpc00 Z x t kb G1 lb h0) e3 ⟨rfl, N3, rfl⟩
theorem pn22 : plainName "com/example/visad/visad/identity/Characters" = true := by first | (simp [plainName, overriddenIn]; done) | decide +kernel
theorem d6_0 : decode prog_19_method_2_code 0 = .ok (.aload_n 0, 1) := by decide +kernel
theorem d6_1 : decode prog_19_method_2_code 1 = .ok (.iconst 0, 1) := by decide +kernel
theorem d6_2 : decode prog_19_method_2_code 2 = .ok (.aload_n 0, 1) := by decide +kernel
theorem d6_3 : decode prog_19_method_2_code 3 = .ok (.invokevirtual 7, 3) := by decide +kernel
theorem d6_6 : decode prog_19_method_2_code 6 = .ok (.invokevirtual 13, 3) := by decide +kernel
theorem pd23 : parseMethodDescriptor "(II)I" = some ⟨[.int, .int], some .int⟩ := by decide +kernel
theorem d6_9 : decode prog_19_method_2_code 9 = .ok (.istore_n 3, 1) := by decide +kernel
theorem d6_10 : decode prog_19_method_2_code 10 = .ok (.iload_n 3, 1) := by decide +kernel
theorem d6_11 : decode prog_19_method_2_code 11 = .ok (.iload_n 1, 1) := by decide +kernel
theorem d6_12 : decode prog_19_method_2_code 12 = .ok (.if_icmp .lt 12, 3) := by decide +kernel
theorem d6_24 : decode prog_19_method_2_code 24 = .ok (.iconst 0, 1) := by decide +kernel
theorem d6_25 : decode prog_19_method_2_code 25 = .ok (.ireturn, 1) := by decide +kernel
theorem d6_15 : decode prog_19_method_2_code 15 = .ok (.iload_n 3, 1) := by decide +kernel
theorem d6_16 : decode prog_19_method_2_code 16 = .ok (.iload_n 2, 1) := by decide +kernel
theorem d6_17 : decode prog_19_method_2_code 17 = .ok (.if_icmp .gt 7, 3) := by decide +kernel
theorem d6_20 : decode prog_19_method_2_code 20 = .ok (.iconst 1, 1) := by decide +kernel
theorem d6_21 : decode prog_19_method_2_code 21 = .ok (.goto 4, 3) := by decide +kernel
def Q_rm_wi00 (Z : State) (x : Addr) (t : Addr) (kb : ClassId) (G1 : Int32) (lb : List Value) (mn : Int32) (mx : Int32) (h0 : Heap) (v : Option Value) (h : Heap) (L : List Loc) : Prop := ∃ r : Int32, v = some (.int r) ∧ Fk h0.size [] L ∧ h = h0 ∧ Wth r (0 : Int32) mn mx
set_option maxRecDepth 65536 in
set_option maxHeartbeats 40000000 in
theorem rm_wi00 (l : Launch) (Z : State) (a0 : Array Value) (hw : ∀ d ∈ tables_1, d.before a0 Z = true) (ws : List Jvm.Cond) (x : Addr) (t : Addr) (kb : ClassId) (G1 : Int32) (lb : List Value) (mn : Int32) (mx : Int32) (h0 : Heap) (O0 : Old Z Z.heap.size h0) (SG1 : Sta Z Z.heap "java/lang/String" "COMPACT_STRINGS" "Z" (.int G1)) (nG1 : ¬ G1 = 0) (hst0 : Exa Z h0 x "java/lang/String") (hst1 : Fld Z h0 x "java/lang/String" "coder" "B" (.int (0 : Int32))) (hst2 : Fld Z h0 x "java/lang/String" "value" "[B" (.ref t)) (hst3 : Arv Z h0 t kb .byte (0 : Int32) lb (.int (0 : Int32))) :
    Ctr l Z (⟨"com/example/visad/visad/identity/Characters", "within", "(Ljava/lang/String;II)Z"⟩ : MethodName) prog_19_method_2_code 4 (some .boolean) ws ({ frames := 3, cells := 0, slots := 0, locals := 43 } : Room) #[(.ref x), (.int mn), (.int mx)] h0 (Q_rm_wi00 Z x t kb G1 lb mn mx h0) := by
  refine Ctr.intro (Ls := fun _ => #[.val (.ref x), .val (.int mn), .val (.int mx), .unset]) (plainFor_of_name pn22) (fun m => by first | rfl | (simp [entryFrame, mkF, argsToLocals, Value.category]; done)) ?_
  intro p e s m below meth c s₁ hx hby hml hr hlk hZ hown hnm hs0 X0 e0
  have w : ∀ (k : Nat) (d : Jvm.Cond), tables_1[k]? = some d → d.before a0 Z = true := fun k d q => hw d (List.mem_of_getElem? q)
  have N0 := Fk.nil h0.size []
  refine Wk.aloadN X0 hx (hb hby d6_0) rfl rfl rfl ?_
  refine Wk.iconst X0 hx (v := (0 : Int32)) (hb hby d6_1) rfl rfl ?_
  refine Wk.aloadN X0 hx (hb hby d6_2) rfl rfl rfl ?_
  refine Wk.callV X0 hx hZ (y := (⟨"java/lang/String", "length", "()I"⟩ : MethodName)) (z := (⟨"java/lang/String", "length", "()I"⟩ : MethodName)) hown (w 34 _ rfl) (w 35 _ rfl) (notFace_of_selects (args := #[]) (mvT hZ (w 37 _ rfl))) (w 37 _ rfl) (w 36 _ rfl) (by decide) (as' := []) (backOf (W := 2) (rm_len0 l Z a0 hw [] x t kb (0 : Int32) lb G1 h0 O0 SG1 nG1 hst0 hst1 hst2 hst3) hZ (w 38 _ rfl) (w 10 _ rfl) (by decide) (by decide)) e0 hst0 (by rw [hml]; rfl) (rest := [(.int (0 : Int32)), (.ref x)]) (lenOf pd19 rfl) rfl (Nat.le_of_eq rfl) (hb hby d6_3) rfl (by decide) (by decide) ?_
  intro T1 h1 v1 L1 X1 e1 hQ1
  obtain ⟨rfl, Nq1, K1⟩ := hQ1
  have N1 := Fk.app N0 Nq1 (Nat.le_refl _) all0
  rw [K1] at e1
  show Wp p e below _ _ T1 (mkF m 6 #[.val (.ref x), .val (.int mn), .val (.int mx), .unset] [(.int ((0 : Int32) >>> ((0 : Int32) &&& 31))), (.int (0 : Int32)), (.ref x)])
  rw [(by decide : (((0 : Int32) >>> ((0 : Int32) &&& 31)) : Int32) = (0 : Int32))]
  refine Wk.callV X1 hx hZ (y := (⟨"java/lang/String", "codePointCount", "(II)I"⟩ : MethodName)) (z := (⟨"java/lang/String", "codePointCount", "(II)I"⟩ : MethodName)) hown (w 45 _ rfl) (w 46 _ rfl) (notFace_of_selects (args := #[]) (mvT hZ (w 48 _ rfl))) (w 48 _ rfl) (w 47 _ rfl) (by decide) (as' := [(.int (0 : Int32)), (.int (0 : Int32))]) (backOf (W := 0) (rm_cpc00 l Z a0 hw [] x t kb G1 lb h0 O0 SG1 nG1 hst0 hst1 hst2 hst3) hZ (w 49 _ rfl) (w 10 _ rfl) (by decide) (by decide)) e1 hst0 (by rw [hml]; rfl) (rest := []) (lenOf pd23 rfl) rfl (Nat.le_of_eq rfl) (hb hby d6_6) rfl (by decide) (by decide) ?_
  intro T2 h2 v2 L2 X2 e2 hQ2
  obtain ⟨rfl, Nq2, K2⟩ := hQ2
  have N2 := Fk.app N1 Nq2 (Nat.le_refl _) all0
  rw [K2] at e2
  show Wp p e below _ _ T2 (mkF m 9 #[.val (.ref x), .val (.int mn), .val (.int mx), .unset] [(.int (0 : Int32))])
  refine Wk.istoreN X2 hx (Ls' := #[.val (.ref x), .val (.int mn), .val (.int mx), .val (.int (0 : Int32))]) (hb hby d6_9) rfl rfl ?_
  refine Wk.iloadN X2 hx (hb hby d6_10) rfl rfl ?_
  refine Wk.iloadN X2 hx (hb hby d6_11) rfl rfl ?_
  by_cases hc3 : (0 : Int32) < mn
  · skip
    refine Wk.icmpYes X2 hx (hb hby d6_12) (by decide) (q := 24) rfl (tlt hc3).1 ?_
    refine Wk.iconst X2 hx (v := (0 : Int32)) (hb hby d6_24) rfl rfl ?_
    exact Wk.retZ' X2 hx hlk hr (by simp) (hb hby d6_25) (by decide) (by decide) (Qc := Q_rm_wi00 Z x t kb G1 lb mn mx h0) e2 ⟨(0 : Int32), rfl, N2, rfl, (by first | (refine ⟨_, by assumption, ?_⟩; simp [Wth, hc3]) | simp [Wth, hc3])⟩
  · skip
    refine Wk.icmpNo X2 hx (hb hby d6_12) rfl (flt hc3).1 ?_
    refine Wk.iloadN X2 hx (hb hby d6_15) rfl rfl ?_
    refine Wk.iloadN X2 hx (hb hby d6_16) rfl rfl ?_
    by_cases hc4 : mx < (0 : Int32)
    · skip
      refine Wk.icmpYes X2 hx (hb hby d6_17) (by decide) (q := 24) rfl (tlt hc4).2.2.1 ?_
      refine Wk.iconst X2 hx (v := (0 : Int32)) (hb hby d6_24) rfl rfl ?_
      exact Wk.retZ' X2 hx hlk hr (by simp) (hb hby d6_25) (by decide) (by decide) (Qc := Q_rm_wi00 Z x t kb G1 lb mn mx h0) e2 ⟨(0 : Int32), rfl, N2, rfl, (by first | (refine ⟨_, by assumption, ?_⟩; simp [Wth, hc3, hc4]) | simp [Wth, hc3, hc4])⟩
    · skip
      refine Wk.icmpNo X2 hx (hb hby d6_17) rfl (flt hc4).2.2.1 ?_
      refine Wk.iconst X2 hx (v := (1 : Int32)) (hb hby d6_20) rfl rfl ?_
      refine Wk.goto X2 hx (hb hby d6_21) (by decide) (q := 25) rfl ?_
      exact Wk.retZ' X2 hx hlk hr (by simp) (hb hby d6_25) (by decide) (by decide) (Qc := Q_rm_wi00 Z x t kb G1 lb mn mx h0) e2 ⟨(1 : Int32), rfl, N2, rfl, (by first | (refine ⟨_, by assumption, ?_⟩; simp [Wth, hc3, hc4]) | simp [Wth, hc3, hc4])⟩
def Q_rm_cpc10 (Z : State) (x : Addr) (t : Addr) (kb : ClassId) (G1 : Int32) (lb : List Value) (h0 : Heap) (v : Option Value) (h : Heap) (L : List Loc) : Prop := v = some (.int (1 : Int32)) ∧ Fk h0.size [] L ∧ h = h0
set_option maxRecDepth 65536 in
set_option maxHeartbeats 40000000 in
theorem rm_cpc10 (l : Launch) (Z : State) (a0 : Array Value) (hw : ∀ d ∈ tables_1, d.before a0 Z = true) (ws : List Jvm.Cond) (x : Addr) (t : Addr) (kb : ClassId) (G1 : Int32) (lb : List Value) (h0 : Heap) (O0 : Old Z Z.heap.size h0) (SG1 : Sta Z Z.heap "java/lang/String" "COMPACT_STRINGS" "Z" (.int G1)) (nG1 : ¬ G1 = 0) (hst0 : Exa Z h0 x "java/lang/String") (hst1 : Fld Z h0 x "java/lang/String" "coder" "B" (.int (0 : Int32))) (hst2 : Fld Z h0 x "java/lang/String" "value" "[B" (.ref t)) (hst3 : Arv Z h0 t kb .byte (1 : Int32) lb (.int (0 : Int32))) :
    Ctr l Z (⟨"java/lang/String", "codePointCount", "(II)I"⟩ : MethodName) jdk_42_method_59_code 3 (some .int) ws ({ frames := 2, cells := 0, slots := 0, locals := 29 } : Room) #[(.ref x), (.int (0 : Int32)), (.int (1 : Int32))] h0 (Q_rm_cpc10 Z x t kb G1 lb h0) := by
  refine Ctr.intro (Ls := fun _ => #[.val (.ref x), .val (.int (0 : Int32)), .val (.int (1 : Int32))]) (plainFor_of_name pn7) (fun m => by first | rfl | (simp [entryFrame, mkF, argsToLocals, Value.category]; done)) ?_
  intro p e s m below meth c s₁ hx hby hml hr hlk hZ hown hnm hs0 X0 e0
  have w : ∀ (k : Nat) (d : Jvm.Cond), tables_1[k]? = some d → d.before a0 Z = true := fun k d q => hw d (List.mem_of_getElem? q)
  have N0 := Fk.nil h0.size []
  refine Wk.iloadN X0 hx (hb hby d9_0) rfl rfl ?_
  refine Wk.iloadN X0 hx (hb hby d9_1) rfl rfl ?_
  refine Wk.aloadN X0 hx (hb hby d9_2) rfl rfl rfl ?_
  refine Wk.callV X0 hx hZ (y := (⟨"java/lang/String", "length", "()I"⟩ : MethodName)) (z := (⟨"java/lang/String", "length", "()I"⟩ : MethodName)) hown (w 50 _ rfl) (w 35 _ rfl) (notFace_of_selects (args := #[]) (mvT hZ (w 37 _ rfl))) (w 37 _ rfl) (w 36 _ rfl) (by decide) (as' := []) (backOf (W := 2) (rm_len0 l Z a0 hw [] x t kb (1 : Int32) lb G1 h0 O0 SG1 nG1 hst0 hst1 hst2 hst3) hZ (w 38 _ rfl) (w 10 _ rfl) (by decide) (by decide)) e0 hst0 (by rw [hml]; rfl) (rest := [(.int (1 : Int32)), (.int (0 : Int32))]) (lenOf pd19 rfl) rfl (Nat.le_of_eq rfl) (hb hby d9_3) rfl (by decide) (by decide) ?_
  intro T1 h1 v1 L1 X1 e1 hQ1
  obtain ⟨rfl, Nq1, K1⟩ := hQ1
  have N1 := Fk.app N0 Nq1 (Nat.le_refl _) all0
  rw [K1] at e1
  show Wp p e below _ _ T1 (mkF m 6 #[.val (.ref x), .val (.int (0 : Int32)), .val (.int (1 : Int32))] [(.int ((1 : Int32) >>> ((0 : Int32) &&& 31))), (.int (1 : Int32)), (.int (0 : Int32))])
  rw [(by decide : (((1 : Int32) >>> ((0 : Int32) &&& 31)) : Int32) = (1 : Int32))]
  refine Wk.callS X1 hx hZ hown (w 51 _ rfl) (w 52 _ rfl) (w 53 _ rfl) (w 54 _ rfl) (by decide) (as' := [(.int (0 : Int32)), (.int (1 : Int32)), (.int (1 : Int32))]) (backOf (W := 0) (rm_ock1 l Z a0 hw [] h0 O0) hZ (w 54 _ rfl) (w 53 _ rfl) (by decide) (by decide)) e1 (by rw [hml]; rfl) (rest := []) (lenOf pd20 rfl) rfl (Nat.le_of_eq rfl) (hb hby d9_6) rfl (by decide) (by decide) ?_
  intro T2 h2 v2 L2 X2 e2 hQ2
  obtain ⟨rfl, Nq2, K2⟩ := hQ2
  have N2 := Fk.app N1 Nq2 (Nat.le_refl _) all0
  rw [K2] at e2
  show Wp p e below _ _ T2 (mkF m 9 #[.val (.ref x), .val (.int (0 : Int32)), .val (.int (1 : Int32))] [(.int (0 : Int32))])
  refine Wk.pop X2 hx (hb hby d9_9) rfl rfl ?_
  refine Wk.aloadN X2 hx (hb hby d9_10) rfl rfl rfl ?_
  refine Wk.callV X2 hx hZ (y := (⟨"java/lang/String", "isLatin1", "()Z"⟩ : MethodName)) (z := (⟨"java/lang/String", "isLatin1", "()Z"⟩ : MethodName)) hown (w 59 _ rfl) (w 60 _ rfl) (notFace_of_selects (args := #[]) (mvT hZ (w 62 _ rfl))) (w 62 _ rfl) (w 61 _ rfl) (by decide) (as' := []) (backOf (W := 0) (rm_isl0 l Z a0 hw [] x G1 h0 O0 SG1 nG1 hst1) hZ (w 63 _ rfl) (w 10 _ rfl) (by decide) (by decide)) e2 hst0 (by rw [hml]; rfl) (rest := []) (lenOf pd21 rfl) rfl (Nat.le_of_eq rfl) (hb hby d9_11) rfl (by decide) (by decide) ?_
  intro T3 h3 v3 L3 X3 e3 hQ3
  obtain ⟨rfl, Nq3, K3⟩ := hQ3
  have N3 := Fk.app N2 Nq3 (Nat.le_refl _) all0
  rw [K3] at e3
  show Wp p e below _ _ T3 (mkF m 14 #[.val (.ref x), .val (.int (0 : Int32)), .val (.int (1 : Int32))] [(.int (1 : Int32))])
  refine Wk.ifNo X3 hx (hb hby d9_14) rfl ((if0 _ _).trans (feq (by decide : ¬ ((1 : Int32) = (0 : Int32)))).1) ?_
  refine Wk.iloadN X3 hx (hb hby d9_17) rfl rfl ?_
  refine Wk.iloadN X3 hx (hb hby d9_18) rfl rfl ?_
  refine Wk.isub X3 hx (hb hby d9_19) rfl ?_
  rw [(by decide : (((1 : Int32) - (0 : Int32)) : Int32) = (1 : Int32))]
  exact Wk.retI' X3 hx hlk hr (hb hby d9_20) (by decide) (by decide) (Qc := Q_rm_cpc10 Z x t kb G1 lb h0) e3 ⟨rfl, N3, rfl⟩
def Q_rm_wi10 (Z : State) (x : Addr) (t : Addr) (kb : ClassId) (G1 : Int32) (lb : List Value) (mn : Int32) (mx : Int32) (h0 : Heap) (v : Option Value) (h : Heap) (L : List Loc) : Prop := ∃ r : Int32, v = some (.int r) ∧ Fk h0.size [] L ∧ h = h0 ∧ Wth r (1 : Int32) mn mx
set_option maxRecDepth 65536 in
set_option maxHeartbeats 40000000 in
theorem rm_wi10 (l : Launch) (Z : State) (a0 : Array Value) (hw : ∀ d ∈ tables_1, d.before a0 Z = true) (ws : List Jvm.Cond) (x : Addr) (t : Addr) (kb : ClassId) (G1 : Int32) (lb : List Value) (mn : Int32) (mx : Int32) (h0 : Heap) (O0 : Old Z Z.heap.size h0) (SG1 : Sta Z Z.heap "java/lang/String" "COMPACT_STRINGS" "Z" (.int G1)) (nG1 : ¬ G1 = 0) (hst0 : Exa Z h0 x "java/lang/String") (hst1 : Fld Z h0 x "java/lang/String" "coder" "B" (.int (0 : Int32))) (hst2 : Fld Z h0 x "java/lang/String" "value" "[B" (.ref t)) (hst3 : Arv Z h0 t kb .byte (1 : Int32) lb (.int (0 : Int32))) :
    Ctr l Z (⟨"com/example/visad/visad/identity/Characters", "within", "(Ljava/lang/String;II)Z"⟩ : MethodName) prog_19_method_2_code 4 (some .boolean) ws ({ frames := 3, cells := 0, slots := 0, locals := 43 } : Room) #[(.ref x), (.int mn), (.int mx)] h0 (Q_rm_wi10 Z x t kb G1 lb mn mx h0) := by
  refine Ctr.intro (Ls := fun _ => #[.val (.ref x), .val (.int mn), .val (.int mx), .unset]) (plainFor_of_name pn22) (fun m => by first | rfl | (simp [entryFrame, mkF, argsToLocals, Value.category]; done)) ?_
  intro p e s m below meth c s₁ hx hby hml hr hlk hZ hown hnm hs0 X0 e0
  have w : ∀ (k : Nat) (d : Jvm.Cond), tables_1[k]? = some d → d.before a0 Z = true := fun k d q => hw d (List.mem_of_getElem? q)
  have N0 := Fk.nil h0.size []
  refine Wk.aloadN X0 hx (hb hby d6_0) rfl rfl rfl ?_
  refine Wk.iconst X0 hx (v := (0 : Int32)) (hb hby d6_1) rfl rfl ?_
  refine Wk.aloadN X0 hx (hb hby d6_2) rfl rfl rfl ?_
  refine Wk.callV X0 hx hZ (y := (⟨"java/lang/String", "length", "()I"⟩ : MethodName)) (z := (⟨"java/lang/String", "length", "()I"⟩ : MethodName)) hown (w 34 _ rfl) (w 35 _ rfl) (notFace_of_selects (args := #[]) (mvT hZ (w 37 _ rfl))) (w 37 _ rfl) (w 36 _ rfl) (by decide) (as' := []) (backOf (W := 2) (rm_len0 l Z a0 hw [] x t kb (1 : Int32) lb G1 h0 O0 SG1 nG1 hst0 hst1 hst2 hst3) hZ (w 38 _ rfl) (w 10 _ rfl) (by decide) (by decide)) e0 hst0 (by rw [hml]; rfl) (rest := [(.int (0 : Int32)), (.ref x)]) (lenOf pd19 rfl) rfl (Nat.le_of_eq rfl) (hb hby d6_3) rfl (by decide) (by decide) ?_
  intro T1 h1 v1 L1 X1 e1 hQ1
  obtain ⟨rfl, Nq1, K1⟩ := hQ1
  have N1 := Fk.app N0 Nq1 (Nat.le_refl _) all0
  rw [K1] at e1
  show Wp p e below _ _ T1 (mkF m 6 #[.val (.ref x), .val (.int mn), .val (.int mx), .unset] [(.int ((1 : Int32) >>> ((0 : Int32) &&& 31))), (.int (0 : Int32)), (.ref x)])
  rw [(by decide : (((1 : Int32) >>> ((0 : Int32) &&& 31)) : Int32) = (1 : Int32))]
  refine Wk.callV X1 hx hZ (y := (⟨"java/lang/String", "codePointCount", "(II)I"⟩ : MethodName)) (z := (⟨"java/lang/String", "codePointCount", "(II)I"⟩ : MethodName)) hown (w 45 _ rfl) (w 46 _ rfl) (notFace_of_selects (args := #[]) (mvT hZ (w 48 _ rfl))) (w 48 _ rfl) (w 47 _ rfl) (by decide) (as' := [(.int (0 : Int32)), (.int (1 : Int32))]) (backOf (W := 0) (rm_cpc10 l Z a0 hw [] x t kb G1 lb h0 O0 SG1 nG1 hst0 hst1 hst2 hst3) hZ (w 49 _ rfl) (w 10 _ rfl) (by decide) (by decide)) e1 hst0 (by rw [hml]; rfl) (rest := []) (lenOf pd23 rfl) rfl (Nat.le_of_eq rfl) (hb hby d6_6) rfl (by decide) (by decide) ?_
  intro T2 h2 v2 L2 X2 e2 hQ2
  obtain ⟨rfl, Nq2, K2⟩ := hQ2
  have N2 := Fk.app N1 Nq2 (Nat.le_refl _) all0
  rw [K2] at e2
  show Wp p e below _ _ T2 (mkF m 9 #[.val (.ref x), .val (.int mn), .val (.int mx), .unset] [(.int (1 : Int32))])
  refine Wk.istoreN X2 hx (Ls' := #[.val (.ref x), .val (.int mn), .val (.int mx), .val (.int (1 : Int32))]) (hb hby d6_9) rfl rfl ?_
  refine Wk.iloadN X2 hx (hb hby d6_10) rfl rfl ?_
  refine Wk.iloadN X2 hx (hb hby d6_11) rfl rfl ?_
  by_cases hc3 : (1 : Int32) < mn
  · skip
    refine Wk.icmpYes X2 hx (hb hby d6_12) (by decide) (q := 24) rfl (tlt hc3).1 ?_
    refine Wk.iconst X2 hx (v := (0 : Int32)) (hb hby d6_24) rfl rfl ?_
    exact Wk.retZ' X2 hx hlk hr (by simp) (hb hby d6_25) (by decide) (by decide) (Qc := Q_rm_wi10 Z x t kb G1 lb mn mx h0) e2 ⟨(0 : Int32), rfl, N2, rfl, (by first | (refine ⟨_, by assumption, ?_⟩; simp [Wth, hc3]) | simp [Wth, hc3])⟩
  · skip
    refine Wk.icmpNo X2 hx (hb hby d6_12) rfl (flt hc3).1 ?_
    refine Wk.iloadN X2 hx (hb hby d6_15) rfl rfl ?_
    refine Wk.iloadN X2 hx (hb hby d6_16) rfl rfl ?_
    by_cases hc4 : mx < (1 : Int32)
    · skip
      refine Wk.icmpYes X2 hx (hb hby d6_17) (by decide) (q := 24) rfl (tlt hc4).2.2.1 ?_
      refine Wk.iconst X2 hx (v := (0 : Int32)) (hb hby d6_24) rfl rfl ?_
      exact Wk.retZ' X2 hx hlk hr (by simp) (hb hby d6_25) (by decide) (by decide) (Qc := Q_rm_wi10 Z x t kb G1 lb mn mx h0) e2 ⟨(0 : Int32), rfl, N2, rfl, (by first | (refine ⟨_, by assumption, ?_⟩; simp [Wth, hc3, hc4]) | simp [Wth, hc3, hc4])⟩
    · skip
      refine Wk.icmpNo X2 hx (hb hby d6_17) rfl (flt hc4).2.2.1 ?_
      refine Wk.iconst X2 hx (v := (1 : Int32)) (hb hby d6_20) rfl rfl ?_
      refine Wk.goto X2 hx (hb hby d6_21) (by decide) (q := 25) rfl ?_
      exact Wk.retZ' X2 hx hlk hr (by simp) (hb hby d6_25) (by decide) (by decide) (Qc := Q_rm_wi10 Z x t kb G1 lb mn mx h0) e2 ⟨(1 : Int32), rfl, N2, rfl, (by first | (refine ⟨_, by assumption, ?_⟩; simp [Wth, hc3, hc4]) | simp [Wth, hc3, hc4])⟩
theorem d9_21 : decode jdk_42_method_59_code 21 = .ok (.aload_n 0, 1) := by decide +kernel
theorem d9_22 : decode jdk_42_method_59_code 22 = .ok (.getfield 9, 3) := by decide +kernel
theorem d9_25 : decode jdk_42_method_59_code 25 = .ok (.iload_n 1, 1) := by decide +kernel
theorem d9_26 : decode jdk_42_method_59_code 26 = .ok (.iload_n 2, 1) := by decide +kernel
theorem d9_27 : decode jdk_42_method_59_code 27 = .ok (.invokestatic 514, 3) := by decide +kernel
theorem pd24 : parseMethodDescriptor "([BII)I" = some ⟨[(.array .byte), .int, .int], some .int⟩ := by decide +kernel
theorem d9_30 : decode jdk_42_method_59_code 30 = .ok (.ireturn, 1) := by decide +kernel
def Q_rm_cpc11 (Z : State) (x : Addr) (t : Addr) (kb : ClassId) (G1 : Int32) (za : Int32) (h0 : Heap) (v : Option Value) (h : Heap) (L : List Loc) : Prop := ∃ r : Int32, v = some (.int r) ∧ Fk h0.size [] L ∧ h = h0 ∧ Cnt1 za r
set_option maxRecDepth 65536 in
set_option maxHeartbeats 40000000 in
theorem rm_cpc11 (l : Launch) (Z : State) (a0 : Array Value) (hw : ∀ d ∈ tables_1, d.before a0 Z = true) (ws : List Jvm.Cond) (x : Addr) (t : Addr) (kb : ClassId) (G1 : Int32) (za : Int32) (h0 : Heap) (O0 : Old Z Z.heap.size h0) (sH : Sta Z Z.heap "java/lang/StringUTF16" "HI_BYTE_SHIFT" "I" (.int (0 : Int32))) (sL : Sta Z Z.heap "java/lang/StringUTF16" "LO_BYTE_SHIFT" "I" (.int (8 : Int32))) (sA : Sta Z Z.heap "java/lang/StringUTF16" "$assertionsDisabled" "Z" (.int (1 : Int32))) (SG1 : Sta Z Z.heap "java/lang/String" "COMPACT_STRINGS" "Z" (.int G1)) (nG1 : ¬ G1 = 0) (hst0 : Exa Z h0 x "java/lang/String") (hst1 : Fld Z h0 x "java/lang/String" "coder" "B" (.int (1 : Int32))) (hst2 : Fld Z h0 x "java/lang/String" "value" "[B" (.ref t)) (hst3 : Arv Z h0 t kb .byte (2 : Int32) [(.int (own_b0 za)), (.int (own_b1 za))] (.int (0 : Int32))) (hcza : Chr za) :
    Ctr l Z (⟨"java/lang/String", "codePointCount", "(II)I"⟩ : MethodName) jdk_42_method_59_code 3 (some .int) ws ({ frames := 2, cells := 0, slots := 0, locals := 31 } : Room) #[(.ref x), (.int (0 : Int32)), (.int (1 : Int32))] h0 (Q_rm_cpc11 Z x t kb G1 za h0) := by
  refine Ctr.intro (Ls := fun _ => #[.val (.ref x), .val (.int (0 : Int32)), .val (.int (1 : Int32))]) (plainFor_of_name pn7) (fun m => by first | rfl | (simp [entryFrame, mkF, argsToLocals, Value.category]; done)) ?_
  intro p e s m below meth c s₁ hx hby hml hr hlk hZ hown hnm hs0 X0 e0
  have w : ∀ (k : Nat) (d : Jvm.Cond), tables_1[k]? = some d → d.before a0 Z = true := fun k d q => hw d (List.mem_of_getElem? q)
  have N0 := Fk.nil h0.size []
  refine Wk.iloadN X0 hx (hb hby d9_0) rfl rfl ?_
  refine Wk.iloadN X0 hx (hb hby d9_1) rfl rfl ?_
  refine Wk.aloadN X0 hx (hb hby d9_2) rfl rfl rfl ?_
  refine Wk.callV X0 hx hZ (y := (⟨"java/lang/String", "length", "()I"⟩ : MethodName)) (z := (⟨"java/lang/String", "length", "()I"⟩ : MethodName)) hown (w 50 _ rfl) (w 35 _ rfl) (notFace_of_selects (args := #[]) (mvT hZ (w 37 _ rfl))) (w 37 _ rfl) (w 36 _ rfl) (by decide) (as' := []) (backOf (W := 2) (rm_len1 l Z a0 hw [] x t kb (2 : Int32) [(.int (own_b0 za)), (.int (own_b1 za))] G1 h0 O0 SG1 nG1 hst0 hst1 hst2 hst3) hZ (w 38 _ rfl) (w 10 _ rfl) (by decide) (by decide)) e0 hst0 (by rw [hml]; rfl) (rest := [(.int (1 : Int32)), (.int (0 : Int32))]) (lenOf pd19 rfl) rfl (Nat.le_of_eq rfl) (hb hby d9_3) rfl (by decide) (by decide) ?_
  intro T1 h1 v1 L1 X1 e1 hQ1
  obtain ⟨rfl, Nq1, K1⟩ := hQ1
  have N1 := Fk.app N0 Nq1 (Nat.le_refl _) all0
  rw [K1] at e1
  show Wp p e below _ _ T1 (mkF m 6 #[.val (.ref x), .val (.int (0 : Int32)), .val (.int (1 : Int32))] [(.int ((2 : Int32) >>> ((1 : Int32) &&& 31))), (.int (1 : Int32)), (.int (0 : Int32))])
  rw [(by decide : (((2 : Int32) >>> ((1 : Int32) &&& 31)) : Int32) = (1 : Int32))]
  refine Wk.callS X1 hx hZ hown (w 51 _ rfl) (w 52 _ rfl) (w 53 _ rfl) (w 54 _ rfl) (by decide) (as' := [(.int (0 : Int32)), (.int (1 : Int32)), (.int (1 : Int32))]) (backOf (W := 0) (rm_ock1 l Z a0 hw [] h0 O0) hZ (w 54 _ rfl) (w 53 _ rfl) (by decide) (by decide)) e1 (by rw [hml]; rfl) (rest := []) (lenOf pd20 rfl) rfl (Nat.le_of_eq rfl) (hb hby d9_6) rfl (by decide) (by decide) ?_
  intro T2 h2 v2 L2 X2 e2 hQ2
  obtain ⟨rfl, Nq2, K2⟩ := hQ2
  have N2 := Fk.app N1 Nq2 (Nat.le_refl _) all0
  rw [K2] at e2
  show Wp p e below _ _ T2 (mkF m 9 #[.val (.ref x), .val (.int (0 : Int32)), .val (.int (1 : Int32))] [(.int (0 : Int32))])
  refine Wk.pop X2 hx (hb hby d9_9) rfl rfl ?_
  refine Wk.aloadN X2 hx (hb hby d9_10) rfl rfl rfl ?_
  refine Wk.callV X2 hx hZ (y := (⟨"java/lang/String", "isLatin1", "()Z"⟩ : MethodName)) (z := (⟨"java/lang/String", "isLatin1", "()Z"⟩ : MethodName)) hown (w 59 _ rfl) (w 60 _ rfl) (notFace_of_selects (args := #[]) (mvT hZ (w 62 _ rfl))) (w 62 _ rfl) (w 61 _ rfl) (by decide) (as' := []) (backOf (W := 0) (rm_isl1 l Z a0 hw [] x G1 h0 O0 SG1 nG1 hst1) hZ (w 63 _ rfl) (w 10 _ rfl) (by decide) (by decide)) e2 hst0 (by rw [hml]; rfl) (rest := []) (lenOf pd21 rfl) rfl (Nat.le_of_eq rfl) (hb hby d9_11) rfl (by decide) (by decide) ?_
  intro T3 h3 v3 L3 X3 e3 hQ3
  obtain ⟨rfl, Nq3, K3⟩ := hQ3
  have N3 := Fk.app N2 Nq3 (Nat.le_refl _) all0
  rw [K3] at e3
  show Wp p e below _ _ T3 (mkF m 14 #[.val (.ref x), .val (.int (0 : Int32)), .val (.int (1 : Int32))] [(.int (0 : Int32))])
  refine Wk.ifYes X3 hx (hb hby d9_14) (by decide) (q := 21) rfl ((if0 _ _).trans (teq (by decide : (0 : Int32) = (0 : Int32))).1) ?_
  refine Wk.aloadN X3 hx (hb hby d9_21) rfl rfl rfl ?_
  refine Wk.getfield X3 hx hZ hown (host := "") (Or.inl (w 28 _ rfl)) Via.refl e3 hst2 (hb hby d9_22) rfl ?_
  intro T4 X4 e4
  refine Wk.iloadN X4 hx (hb hby d9_25) rfl rfl ?_
  refine Wk.iloadN X4 hx (hb hby d9_26) rfl rfl ?_
  refine Wk.callS X4 hx hZ hown (w 98 _ rfl) (w 99 _ rfl) (w 66 _ rfl) (w 100 _ rfl) (by decide) (as' := [(.ref t), (.int (0 : Int32)), (.int (1 : Int32))]) (backOf (W := 0) (rm_cc3_1 l Z a0 hw [] t kb za h0 O0 sH sL sA hst3 hcza) hZ (w 100 _ rfl) (w 66 _ rfl) (by decide) (by decide)) e4 (by rw [hml]; rfl) (rest := []) (lenOf pd24 rfl) rfl (Nat.le_of_eq rfl) (hb hby d9_27) rfl (by decide) (by decide) ?_
  intro T5 h5 v5 L5 X5 e5 hQ5
  obtain ⟨r5, rfl, Nq5, K5, q5_0⟩ := hQ5
  have N5 := Fk.app N3 Nq5 (Nat.le_refl _) all0
  rw [K5] at e5
  show Wp p e below _ _ T5 (mkF m 30 #[.val (.ref x), .val (.int (0 : Int32)), .val (.int (1 : Int32))] [(.int r5)])
  exact Wk.retI' X5 hx hlk hr (hb hby d9_30) (by decide) (by decide) (Qc := Q_rm_cpc11 Z x t kb G1 za h0) e5 ⟨r5, rfl, N5, rfl, q5_0⟩
def Q_rm_wi11 (Z : State) (x : Addr) (t : Addr) (kb : ClassId) (G1 : Int32) (za : Int32) (mn : Int32) (mx : Int32) (h0 : Heap) (v : Option Value) (h : Heap) (L : List Loc) : Prop := ∃ r : Int32, v = some (.int r) ∧ Fk h0.size [] L ∧ h = h0 ∧ (∃ q, Cnt1 za q ∧ Wth r q mn mx)
set_option maxRecDepth 65536 in
set_option maxHeartbeats 40000000 in
theorem rm_wi11 (l : Launch) (Z : State) (a0 : Array Value) (hw : ∀ d ∈ tables_1, d.before a0 Z = true) (ws : List Jvm.Cond) (x : Addr) (t : Addr) (kb : ClassId) (G1 : Int32) (za : Int32) (mn : Int32) (mx : Int32) (h0 : Heap) (O0 : Old Z Z.heap.size h0) (sH : Sta Z Z.heap "java/lang/StringUTF16" "HI_BYTE_SHIFT" "I" (.int (0 : Int32))) (sL : Sta Z Z.heap "java/lang/StringUTF16" "LO_BYTE_SHIFT" "I" (.int (8 : Int32))) (sA : Sta Z Z.heap "java/lang/StringUTF16" "$assertionsDisabled" "Z" (.int (1 : Int32))) (SG1 : Sta Z Z.heap "java/lang/String" "COMPACT_STRINGS" "Z" (.int G1)) (nG1 : ¬ G1 = 0) (hst0 : Exa Z h0 x "java/lang/String") (hst1 : Fld Z h0 x "java/lang/String" "coder" "B" (.int (1 : Int32))) (hst2 : Fld Z h0 x "java/lang/String" "value" "[B" (.ref t)) (hst3 : Arv Z h0 t kb .byte (2 : Int32) [(.int (own_b0 za)), (.int (own_b1 za))] (.int (0 : Int32))) (hcza : Chr za) :
    Ctr l Z (⟨"com/example/visad/visad/identity/Characters", "within", "(Ljava/lang/String;II)Z"⟩ : MethodName) prog_19_method_2_code 4 (some .boolean) ws ({ frames := 3, cells := 0, slots := 0, locals := 45 } : Room) #[(.ref x), (.int mn), (.int mx)] h0 (Q_rm_wi11 Z x t kb G1 za mn mx h0) := by
  refine Ctr.intro (Ls := fun _ => #[.val (.ref x), .val (.int mn), .val (.int mx), .unset]) (plainFor_of_name pn22) (fun m => by first | rfl | (simp [entryFrame, mkF, argsToLocals, Value.category]; done)) ?_
  intro p e s m below meth c s₁ hx hby hml hr hlk hZ hown hnm hs0 X0 e0
  have w : ∀ (k : Nat) (d : Jvm.Cond), tables_1[k]? = some d → d.before a0 Z = true := fun k d q => hw d (List.mem_of_getElem? q)
  have N0 := Fk.nil h0.size []
  refine Wk.aloadN X0 hx (hb hby d6_0) rfl rfl rfl ?_
  refine Wk.iconst X0 hx (v := (0 : Int32)) (hb hby d6_1) rfl rfl ?_
  refine Wk.aloadN X0 hx (hb hby d6_2) rfl rfl rfl ?_
  refine Wk.callV X0 hx hZ (y := (⟨"java/lang/String", "length", "()I"⟩ : MethodName)) (z := (⟨"java/lang/String", "length", "()I"⟩ : MethodName)) hown (w 34 _ rfl) (w 35 _ rfl) (notFace_of_selects (args := #[]) (mvT hZ (w 37 _ rfl))) (w 37 _ rfl) (w 36 _ rfl) (by decide) (as' := []) (backOf (W := 2) (rm_len1 l Z a0 hw [] x t kb (2 : Int32) [(.int (own_b0 za)), (.int (own_b1 za))] G1 h0 O0 SG1 nG1 hst0 hst1 hst2 hst3) hZ (w 38 _ rfl) (w 10 _ rfl) (by decide) (by decide)) e0 hst0 (by rw [hml]; rfl) (rest := [(.int (0 : Int32)), (.ref x)]) (lenOf pd19 rfl) rfl (Nat.le_of_eq rfl) (hb hby d6_3) rfl (by decide) (by decide) ?_
  intro T1 h1 v1 L1 X1 e1 hQ1
  obtain ⟨rfl, Nq1, K1⟩ := hQ1
  have N1 := Fk.app N0 Nq1 (Nat.le_refl _) all0
  rw [K1] at e1
  show Wp p e below _ _ T1 (mkF m 6 #[.val (.ref x), .val (.int mn), .val (.int mx), .unset] [(.int ((2 : Int32) >>> ((1 : Int32) &&& 31))), (.int (0 : Int32)), (.ref x)])
  rw [(by decide : (((2 : Int32) >>> ((1 : Int32) &&& 31)) : Int32) = (1 : Int32))]
  refine Wk.callV X1 hx hZ (y := (⟨"java/lang/String", "codePointCount", "(II)I"⟩ : MethodName)) (z := (⟨"java/lang/String", "codePointCount", "(II)I"⟩ : MethodName)) hown (w 45 _ rfl) (w 46 _ rfl) (notFace_of_selects (args := #[]) (mvT hZ (w 48 _ rfl))) (w 48 _ rfl) (w 47 _ rfl) (by decide) (as' := [(.int (0 : Int32)), (.int (1 : Int32))]) (backOf (W := 0) (rm_cpc11 l Z a0 hw [] x t kb G1 za h0 O0 sH sL sA SG1 nG1 hst0 hst1 hst2 hst3 hcza) hZ (w 49 _ rfl) (w 10 _ rfl) (by decide) (by decide)) e1 hst0 (by rw [hml]; rfl) (rest := []) (lenOf pd23 rfl) rfl (Nat.le_of_eq rfl) (hb hby d6_6) rfl (by decide) (by decide) ?_
  intro T2 h2 v2 L2 X2 e2 hQ2
  obtain ⟨r2, rfl, Nq2, K2, q2_0⟩ := hQ2
  have N2 := Fk.app N1 Nq2 (Nat.le_refl _) all0
  rw [K2] at e2
  show Wp p e below _ _ T2 (mkF m 9 #[.val (.ref x), .val (.int mn), .val (.int mx), .unset] [(.int r2)])
  refine Wk.istoreN X2 hx (Ls' := #[.val (.ref x), .val (.int mn), .val (.int mx), .val (.int r2)]) (hb hby d6_9) rfl rfl ?_
  refine Wk.iloadN X2 hx (hb hby d6_10) rfl rfl ?_
  refine Wk.iloadN X2 hx (hb hby d6_11) rfl rfl ?_
  by_cases hc3 : r2 < mn
  · skip
    refine Wk.icmpYes X2 hx (hb hby d6_12) (by decide) (q := 24) rfl (tlt hc3).1 ?_
    refine Wk.iconst X2 hx (v := (0 : Int32)) (hb hby d6_24) rfl rfl ?_
    exact Wk.retZ' X2 hx hlk hr (by simp) (hb hby d6_25) (by decide) (by decide) (Qc := Q_rm_wi11 Z x t kb G1 za mn mx h0) e2 ⟨(0 : Int32), rfl, N2, rfl, (by first | (refine ⟨_, by assumption, ?_⟩; simp [Wth, hc3]) | simp [Wth, hc3])⟩
  · skip
    refine Wk.icmpNo X2 hx (hb hby d6_12) rfl (flt hc3).1 ?_
    refine Wk.iloadN X2 hx (hb hby d6_15) rfl rfl ?_
    refine Wk.iloadN X2 hx (hb hby d6_16) rfl rfl ?_
    by_cases hc4 : mx < r2
    · skip
      refine Wk.icmpYes X2 hx (hb hby d6_17) (by decide) (q := 24) rfl (tlt hc4).2.2.1 ?_
      refine Wk.iconst X2 hx (v := (0 : Int32)) (hb hby d6_24) rfl rfl ?_
      exact Wk.retZ' X2 hx hlk hr (by simp) (hb hby d6_25) (by decide) (by decide) (Qc := Q_rm_wi11 Z x t kb G1 za mn mx h0) e2 ⟨(0 : Int32), rfl, N2, rfl, (by first | (refine ⟨_, by assumption, ?_⟩; simp [Wth, hc3, hc4]) | simp [Wth, hc3, hc4])⟩
    · skip
      refine Wk.icmpNo X2 hx (hb hby d6_17) rfl (flt hc4).2.2.1 ?_
      refine Wk.iconst X2 hx (v := (1 : Int32)) (hb hby d6_20) rfl rfl ?_
      refine Wk.goto X2 hx (hb hby d6_21) (by decide) (q := 25) rfl ?_
      exact Wk.retZ' X2 hx hlk hr (by simp) (hb hby d6_25) (by decide) (by decide) (Qc := Q_rm_wi11 Z x t kb G1 za mn mx h0) e2 ⟨(1 : Int32), rfl, N2, rfl, (by first | (refine ⟨_, by assumption, ?_⟩; simp [Wth, hc3, hc4]) | simp [Wth, hc3, hc4])⟩
def Q_rm_cpc20 (Z : State) (x : Addr) (t : Addr) (kb : ClassId) (G1 : Int32) (lb : List Value) (h0 : Heap) (v : Option Value) (h : Heap) (L : List Loc) : Prop := v = some (.int (2 : Int32)) ∧ Fk h0.size [] L ∧ h = h0
set_option maxRecDepth 65536 in
set_option maxHeartbeats 40000000 in
theorem rm_cpc20 (l : Launch) (Z : State) (a0 : Array Value) (hw : ∀ d ∈ tables_1, d.before a0 Z = true) (ws : List Jvm.Cond) (x : Addr) (t : Addr) (kb : ClassId) (G1 : Int32) (lb : List Value) (h0 : Heap) (O0 : Old Z Z.heap.size h0) (SG1 : Sta Z Z.heap "java/lang/String" "COMPACT_STRINGS" "Z" (.int G1)) (nG1 : ¬ G1 = 0) (hst0 : Exa Z h0 x "java/lang/String") (hst1 : Fld Z h0 x "java/lang/String" "coder" "B" (.int (0 : Int32))) (hst2 : Fld Z h0 x "java/lang/String" "value" "[B" (.ref t)) (hst3 : Arv Z h0 t kb .byte (2 : Int32) lb (.int (0 : Int32))) :
    Ctr l Z (⟨"java/lang/String", "codePointCount", "(II)I"⟩ : MethodName) jdk_42_method_59_code 3 (some .int) ws ({ frames := 2, cells := 0, slots := 0, locals := 29 } : Room) #[(.ref x), (.int (0 : Int32)), (.int (2 : Int32))] h0 (Q_rm_cpc20 Z x t kb G1 lb h0) := by
  refine Ctr.intro (Ls := fun _ => #[.val (.ref x), .val (.int (0 : Int32)), .val (.int (2 : Int32))]) (plainFor_of_name pn7) (fun m => by first | rfl | (simp [entryFrame, mkF, argsToLocals, Value.category]; done)) ?_
  intro p e s m below meth c s₁ hx hby hml hr hlk hZ hown hnm hs0 X0 e0
  have w : ∀ (k : Nat) (d : Jvm.Cond), tables_1[k]? = some d → d.before a0 Z = true := fun k d q => hw d (List.mem_of_getElem? q)
  have N0 := Fk.nil h0.size []
  refine Wk.iloadN X0 hx (hb hby d9_0) rfl rfl ?_
  refine Wk.iloadN X0 hx (hb hby d9_1) rfl rfl ?_
  refine Wk.aloadN X0 hx (hb hby d9_2) rfl rfl rfl ?_
  refine Wk.callV X0 hx hZ (y := (⟨"java/lang/String", "length", "()I"⟩ : MethodName)) (z := (⟨"java/lang/String", "length", "()I"⟩ : MethodName)) hown (w 50 _ rfl) (w 35 _ rfl) (notFace_of_selects (args := #[]) (mvT hZ (w 37 _ rfl))) (w 37 _ rfl) (w 36 _ rfl) (by decide) (as' := []) (backOf (W := 2) (rm_len0 l Z a0 hw [] x t kb (2 : Int32) lb G1 h0 O0 SG1 nG1 hst0 hst1 hst2 hst3) hZ (w 38 _ rfl) (w 10 _ rfl) (by decide) (by decide)) e0 hst0 (by rw [hml]; rfl) (rest := [(.int (2 : Int32)), (.int (0 : Int32))]) (lenOf pd19 rfl) rfl (Nat.le_of_eq rfl) (hb hby d9_3) rfl (by decide) (by decide) ?_
  intro T1 h1 v1 L1 X1 e1 hQ1
  obtain ⟨rfl, Nq1, K1⟩ := hQ1
  have N1 := Fk.app N0 Nq1 (Nat.le_refl _) all0
  rw [K1] at e1
  show Wp p e below _ _ T1 (mkF m 6 #[.val (.ref x), .val (.int (0 : Int32)), .val (.int (2 : Int32))] [(.int ((2 : Int32) >>> ((0 : Int32) &&& 31))), (.int (2 : Int32)), (.int (0 : Int32))])
  rw [(by decide : (((2 : Int32) >>> ((0 : Int32) &&& 31)) : Int32) = (2 : Int32))]
  refine Wk.callS X1 hx hZ hown (w 51 _ rfl) (w 52 _ rfl) (w 53 _ rfl) (w 54 _ rfl) (by decide) (as' := [(.int (0 : Int32)), (.int (2 : Int32)), (.int (2 : Int32))]) (backOf (W := 0) (rm_ock2 l Z a0 hw [] h0 O0) hZ (w 54 _ rfl) (w 53 _ rfl) (by decide) (by decide)) e1 (by rw [hml]; rfl) (rest := []) (lenOf pd20 rfl) rfl (Nat.le_of_eq rfl) (hb hby d9_6) rfl (by decide) (by decide) ?_
  intro T2 h2 v2 L2 X2 e2 hQ2
  obtain ⟨rfl, Nq2, K2⟩ := hQ2
  have N2 := Fk.app N1 Nq2 (Nat.le_refl _) all0
  rw [K2] at e2
  show Wp p e below _ _ T2 (mkF m 9 #[.val (.ref x), .val (.int (0 : Int32)), .val (.int (2 : Int32))] [(.int (0 : Int32))])
  refine Wk.pop X2 hx (hb hby d9_9) rfl rfl ?_
  refine Wk.aloadN X2 hx (hb hby d9_10) rfl rfl rfl ?_
  refine Wk.callV X2 hx hZ (y := (⟨"java/lang/String", "isLatin1", "()Z"⟩ : MethodName)) (z := (⟨"java/lang/String", "isLatin1", "()Z"⟩ : MethodName)) hown (w 59 _ rfl) (w 60 _ rfl) (notFace_of_selects (args := #[]) (mvT hZ (w 62 _ rfl))) (w 62 _ rfl) (w 61 _ rfl) (by decide) (as' := []) (backOf (W := 0) (rm_isl0 l Z a0 hw [] x G1 h0 O0 SG1 nG1 hst1) hZ (w 63 _ rfl) (w 10 _ rfl) (by decide) (by decide)) e2 hst0 (by rw [hml]; rfl) (rest := []) (lenOf pd21 rfl) rfl (Nat.le_of_eq rfl) (hb hby d9_11) rfl (by decide) (by decide) ?_
  intro T3 h3 v3 L3 X3 e3 hQ3
  obtain ⟨rfl, Nq3, K3⟩ := hQ3
  have N3 := Fk.app N2 Nq3 (Nat.le_refl _) all0
  rw [K3] at e3
  show Wp p e below _ _ T3 (mkF m 14 #[.val (.ref x), .val (.int (0 : Int32)), .val (.int (2 : Int32))] [(.int (1 : Int32))])
  refine Wk.ifNo X3 hx (hb hby d9_14) rfl ((if0 _ _).trans (feq (by decide : ¬ ((1 : Int32) = (0 : Int32)))).1) ?_
  refine Wk.iloadN X3 hx (hb hby d9_17) rfl rfl ?_
  refine Wk.iloadN X3 hx (hb hby d9_18) rfl rfl ?_
  refine Wk.isub X3 hx (hb hby d9_19) rfl ?_
  rw [(by decide : (((2 : Int32) - (0 : Int32)) : Int32) = (2 : Int32))]
  exact Wk.retI' X3 hx hlk hr (hb hby d9_20) (by decide) (by decide) (Qc := Q_rm_cpc20 Z x t kb G1 lb h0) e3 ⟨rfl, N3, rfl⟩
def Q_rm_wi20 (Z : State) (x : Addr) (t : Addr) (kb : ClassId) (G1 : Int32) (lb : List Value) (mn : Int32) (mx : Int32) (h0 : Heap) (v : Option Value) (h : Heap) (L : List Loc) : Prop := ∃ r : Int32, v = some (.int r) ∧ Fk h0.size [] L ∧ h = h0 ∧ Wth r (2 : Int32) mn mx
set_option maxRecDepth 65536 in
set_option maxHeartbeats 40000000 in
theorem rm_wi20 (l : Launch) (Z : State) (a0 : Array Value) (hw : ∀ d ∈ tables_1, d.before a0 Z = true) (ws : List Jvm.Cond) (x : Addr) (t : Addr) (kb : ClassId) (G1 : Int32) (lb : List Value) (mn : Int32) (mx : Int32) (h0 : Heap) (O0 : Old Z Z.heap.size h0) (SG1 : Sta Z Z.heap "java/lang/String" "COMPACT_STRINGS" "Z" (.int G1)) (nG1 : ¬ G1 = 0) (hst0 : Exa Z h0 x "java/lang/String") (hst1 : Fld Z h0 x "java/lang/String" "coder" "B" (.int (0 : Int32))) (hst2 : Fld Z h0 x "java/lang/String" "value" "[B" (.ref t)) (hst3 : Arv Z h0 t kb .byte (2 : Int32) lb (.int (0 : Int32))) :
    Ctr l Z (⟨"com/example/visad/visad/identity/Characters", "within", "(Ljava/lang/String;II)Z"⟩ : MethodName) prog_19_method_2_code 4 (some .boolean) ws ({ frames := 3, cells := 0, slots := 0, locals := 43 } : Room) #[(.ref x), (.int mn), (.int mx)] h0 (Q_rm_wi20 Z x t kb G1 lb mn mx h0) := by
  refine Ctr.intro (Ls := fun _ => #[.val (.ref x), .val (.int mn), .val (.int mx), .unset]) (plainFor_of_name pn22) (fun m => by first | rfl | (simp [entryFrame, mkF, argsToLocals, Value.category]; done)) ?_
  intro p e s m below meth c s₁ hx hby hml hr hlk hZ hown hnm hs0 X0 e0
  have w : ∀ (k : Nat) (d : Jvm.Cond), tables_1[k]? = some d → d.before a0 Z = true := fun k d q => hw d (List.mem_of_getElem? q)
  have N0 := Fk.nil h0.size []
  refine Wk.aloadN X0 hx (hb hby d6_0) rfl rfl rfl ?_
  refine Wk.iconst X0 hx (v := (0 : Int32)) (hb hby d6_1) rfl rfl ?_
  refine Wk.aloadN X0 hx (hb hby d6_2) rfl rfl rfl ?_
  refine Wk.callV X0 hx hZ (y := (⟨"java/lang/String", "length", "()I"⟩ : MethodName)) (z := (⟨"java/lang/String", "length", "()I"⟩ : MethodName)) hown (w 34 _ rfl) (w 35 _ rfl) (notFace_of_selects (args := #[]) (mvT hZ (w 37 _ rfl))) (w 37 _ rfl) (w 36 _ rfl) (by decide) (as' := []) (backOf (W := 2) (rm_len0 l Z a0 hw [] x t kb (2 : Int32) lb G1 h0 O0 SG1 nG1 hst0 hst1 hst2 hst3) hZ (w 38 _ rfl) (w 10 _ rfl) (by decide) (by decide)) e0 hst0 (by rw [hml]; rfl) (rest := [(.int (0 : Int32)), (.ref x)]) (lenOf pd19 rfl) rfl (Nat.le_of_eq rfl) (hb hby d6_3) rfl (by decide) (by decide) ?_
  intro T1 h1 v1 L1 X1 e1 hQ1
  obtain ⟨rfl, Nq1, K1⟩ := hQ1
  have N1 := Fk.app N0 Nq1 (Nat.le_refl _) all0
  rw [K1] at e1
  show Wp p e below _ _ T1 (mkF m 6 #[.val (.ref x), .val (.int mn), .val (.int mx), .unset] [(.int ((2 : Int32) >>> ((0 : Int32) &&& 31))), (.int (0 : Int32)), (.ref x)])
  rw [(by decide : (((2 : Int32) >>> ((0 : Int32) &&& 31)) : Int32) = (2 : Int32))]
  refine Wk.callV X1 hx hZ (y := (⟨"java/lang/String", "codePointCount", "(II)I"⟩ : MethodName)) (z := (⟨"java/lang/String", "codePointCount", "(II)I"⟩ : MethodName)) hown (w 45 _ rfl) (w 46 _ rfl) (notFace_of_selects (args := #[]) (mvT hZ (w 48 _ rfl))) (w 48 _ rfl) (w 47 _ rfl) (by decide) (as' := [(.int (0 : Int32)), (.int (2 : Int32))]) (backOf (W := 0) (rm_cpc20 l Z a0 hw [] x t kb G1 lb h0 O0 SG1 nG1 hst0 hst1 hst2 hst3) hZ (w 49 _ rfl) (w 10 _ rfl) (by decide) (by decide)) e1 hst0 (by rw [hml]; rfl) (rest := []) (lenOf pd23 rfl) rfl (Nat.le_of_eq rfl) (hb hby d6_6) rfl (by decide) (by decide) ?_
  intro T2 h2 v2 L2 X2 e2 hQ2
  obtain ⟨rfl, Nq2, K2⟩ := hQ2
  have N2 := Fk.app N1 Nq2 (Nat.le_refl _) all0
  rw [K2] at e2
  show Wp p e below _ _ T2 (mkF m 9 #[.val (.ref x), .val (.int mn), .val (.int mx), .unset] [(.int (2 : Int32))])
  refine Wk.istoreN X2 hx (Ls' := #[.val (.ref x), .val (.int mn), .val (.int mx), .val (.int (2 : Int32))]) (hb hby d6_9) rfl rfl ?_
  refine Wk.iloadN X2 hx (hb hby d6_10) rfl rfl ?_
  refine Wk.iloadN X2 hx (hb hby d6_11) rfl rfl ?_
  by_cases hc3 : (2 : Int32) < mn
  · skip
    refine Wk.icmpYes X2 hx (hb hby d6_12) (by decide) (q := 24) rfl (tlt hc3).1 ?_
    refine Wk.iconst X2 hx (v := (0 : Int32)) (hb hby d6_24) rfl rfl ?_
    exact Wk.retZ' X2 hx hlk hr (by simp) (hb hby d6_25) (by decide) (by decide) (Qc := Q_rm_wi20 Z x t kb G1 lb mn mx h0) e2 ⟨(0 : Int32), rfl, N2, rfl, (by first | (refine ⟨_, by assumption, ?_⟩; simp [Wth, hc3]) | simp [Wth, hc3])⟩
  · skip
    refine Wk.icmpNo X2 hx (hb hby d6_12) rfl (flt hc3).1 ?_
    refine Wk.iloadN X2 hx (hb hby d6_15) rfl rfl ?_
    refine Wk.iloadN X2 hx (hb hby d6_16) rfl rfl ?_
    by_cases hc4 : mx < (2 : Int32)
    · skip
      refine Wk.icmpYes X2 hx (hb hby d6_17) (by decide) (q := 24) rfl (tlt hc4).2.2.1 ?_
      refine Wk.iconst X2 hx (v := (0 : Int32)) (hb hby d6_24) rfl rfl ?_
      exact Wk.retZ' X2 hx hlk hr (by simp) (hb hby d6_25) (by decide) (by decide) (Qc := Q_rm_wi20 Z x t kb G1 lb mn mx h0) e2 ⟨(0 : Int32), rfl, N2, rfl, (by first | (refine ⟨_, by assumption, ?_⟩; simp [Wth, hc3, hc4]) | simp [Wth, hc3, hc4])⟩
    · skip
      refine Wk.icmpNo X2 hx (hb hby d6_17) rfl (flt hc4).2.2.1 ?_
      refine Wk.iconst X2 hx (v := (1 : Int32)) (hb hby d6_20) rfl rfl ?_
      refine Wk.goto X2 hx (hb hby d6_21) (by decide) (q := 25) rfl ?_
      exact Wk.retZ' X2 hx hlk hr (by simp) (hb hby d6_25) (by decide) (by decide) (Qc := Q_rm_wi20 Z x t kb G1 lb mn mx h0) e2 ⟨(1 : Int32), rfl, N2, rfl, (by first | (refine ⟨_, by assumption, ?_⟩; simp [Wth, hc3, hc4]) | simp [Wth, hc3, hc4])⟩
def Q_rm_cpc21 (Z : State) (x : Addr) (t : Addr) (kb : ClassId) (G1 : Int32) (za : Int32) (zb : Int32) (h0 : Heap) (v : Option Value) (h : Heap) (L : List Loc) : Prop := ∃ r : Int32, v = some (.int r) ∧ Fk h0.size [] L ∧ h = h0 ∧ Cnt2 za zb r
set_option maxRecDepth 65536 in
set_option maxHeartbeats 40000000 in
theorem rm_cpc21 (l : Launch) (Z : State) (a0 : Array Value) (hw : ∀ d ∈ tables_1, d.before a0 Z = true) (ws : List Jvm.Cond) (x : Addr) (t : Addr) (kb : ClassId) (G1 : Int32) (za : Int32) (zb : Int32) (h0 : Heap) (O0 : Old Z Z.heap.size h0) (sH : Sta Z Z.heap "java/lang/StringUTF16" "HI_BYTE_SHIFT" "I" (.int (0 : Int32))) (sL : Sta Z Z.heap "java/lang/StringUTF16" "LO_BYTE_SHIFT" "I" (.int (8 : Int32))) (sA : Sta Z Z.heap "java/lang/StringUTF16" "$assertionsDisabled" "Z" (.int (1 : Int32))) (SG1 : Sta Z Z.heap "java/lang/String" "COMPACT_STRINGS" "Z" (.int G1)) (nG1 : ¬ G1 = 0) (hst0 : Exa Z h0 x "java/lang/String") (hst1 : Fld Z h0 x "java/lang/String" "coder" "B" (.int (1 : Int32))) (hst2 : Fld Z h0 x "java/lang/String" "value" "[B" (.ref t)) (hst3 : Arv Z h0 t kb .byte (4 : Int32) [(.int (own_b0 za)), (.int (own_b1 za)), (.int (own_b0 zb)), (.int (own_b1 zb))] (.int (0 : Int32))) (hcza : Chr za) (hczb : Chr zb) :
    Ctr l Z (⟨"java/lang/String", "codePointCount", "(II)I"⟩ : MethodName) jdk_42_method_59_code 3 (some .int) ws ({ frames := 3, cells := 0, slots := 0, locals := 44 } : Room) #[(.ref x), (.int (0 : Int32)), (.int (2 : Int32))] h0 (Q_rm_cpc21 Z x t kb G1 za zb h0) := by
  refine Ctr.intro (Ls := fun _ => #[.val (.ref x), .val (.int (0 : Int32)), .val (.int (2 : Int32))]) (plainFor_of_name pn7) (fun m => by first | rfl | (simp [entryFrame, mkF, argsToLocals, Value.category]; done)) ?_
  intro p e s m below meth c s₁ hx hby hml hr hlk hZ hown hnm hs0 X0 e0
  have w : ∀ (k : Nat) (d : Jvm.Cond), tables_1[k]? = some d → d.before a0 Z = true := fun k d q => hw d (List.mem_of_getElem? q)
  have N0 := Fk.nil h0.size []
  refine Wk.iloadN X0 hx (hb hby d9_0) rfl rfl ?_
  refine Wk.iloadN X0 hx (hb hby d9_1) rfl rfl ?_
  refine Wk.aloadN X0 hx (hb hby d9_2) rfl rfl rfl ?_
  refine Wk.callV X0 hx hZ (y := (⟨"java/lang/String", "length", "()I"⟩ : MethodName)) (z := (⟨"java/lang/String", "length", "()I"⟩ : MethodName)) hown (w 50 _ rfl) (w 35 _ rfl) (notFace_of_selects (args := #[]) (mvT hZ (w 37 _ rfl))) (w 37 _ rfl) (w 36 _ rfl) (by decide) (as' := []) (backOf (W := 2) (rm_len1 l Z a0 hw [] x t kb (4 : Int32) [(.int (own_b0 za)), (.int (own_b1 za)), (.int (own_b0 zb)), (.int (own_b1 zb))] G1 h0 O0 SG1 nG1 hst0 hst1 hst2 hst3) hZ (w 38 _ rfl) (w 10 _ rfl) (by decide) (by decide)) e0 hst0 (by rw [hml]; rfl) (rest := [(.int (2 : Int32)), (.int (0 : Int32))]) (lenOf pd19 rfl) rfl (Nat.le_of_eq rfl) (hb hby d9_3) rfl (by decide) (by decide) ?_
  intro T1 h1 v1 L1 X1 e1 hQ1
  obtain ⟨rfl, Nq1, K1⟩ := hQ1
  have N1 := Fk.app N0 Nq1 (Nat.le_refl _) all0
  rw [K1] at e1
  show Wp p e below _ _ T1 (mkF m 6 #[.val (.ref x), .val (.int (0 : Int32)), .val (.int (2 : Int32))] [(.int ((4 : Int32) >>> ((1 : Int32) &&& 31))), (.int (2 : Int32)), (.int (0 : Int32))])
  rw [(by decide : (((4 : Int32) >>> ((1 : Int32) &&& 31)) : Int32) = (2 : Int32))]
  refine Wk.callS X1 hx hZ hown (w 51 _ rfl) (w 52 _ rfl) (w 53 _ rfl) (w 54 _ rfl) (by decide) (as' := [(.int (0 : Int32)), (.int (2 : Int32)), (.int (2 : Int32))]) (backOf (W := 0) (rm_ock2 l Z a0 hw [] h0 O0) hZ (w 54 _ rfl) (w 53 _ rfl) (by decide) (by decide)) e1 (by rw [hml]; rfl) (rest := []) (lenOf pd20 rfl) rfl (Nat.le_of_eq rfl) (hb hby d9_6) rfl (by decide) (by decide) ?_
  intro T2 h2 v2 L2 X2 e2 hQ2
  obtain ⟨rfl, Nq2, K2⟩ := hQ2
  have N2 := Fk.app N1 Nq2 (Nat.le_refl _) all0
  rw [K2] at e2
  show Wp p e below _ _ T2 (mkF m 9 #[.val (.ref x), .val (.int (0 : Int32)), .val (.int (2 : Int32))] [(.int (0 : Int32))])
  refine Wk.pop X2 hx (hb hby d9_9) rfl rfl ?_
  refine Wk.aloadN X2 hx (hb hby d9_10) rfl rfl rfl ?_
  refine Wk.callV X2 hx hZ (y := (⟨"java/lang/String", "isLatin1", "()Z"⟩ : MethodName)) (z := (⟨"java/lang/String", "isLatin1", "()Z"⟩ : MethodName)) hown (w 59 _ rfl) (w 60 _ rfl) (notFace_of_selects (args := #[]) (mvT hZ (w 62 _ rfl))) (w 62 _ rfl) (w 61 _ rfl) (by decide) (as' := []) (backOf (W := 0) (rm_isl1 l Z a0 hw [] x G1 h0 O0 SG1 nG1 hst1) hZ (w 63 _ rfl) (w 10 _ rfl) (by decide) (by decide)) e2 hst0 (by rw [hml]; rfl) (rest := []) (lenOf pd21 rfl) rfl (Nat.le_of_eq rfl) (hb hby d9_11) rfl (by decide) (by decide) ?_
  intro T3 h3 v3 L3 X3 e3 hQ3
  obtain ⟨rfl, Nq3, K3⟩ := hQ3
  have N3 := Fk.app N2 Nq3 (Nat.le_refl _) all0
  rw [K3] at e3
  show Wp p e below _ _ T3 (mkF m 14 #[.val (.ref x), .val (.int (0 : Int32)), .val (.int (2 : Int32))] [(.int (0 : Int32))])
  refine Wk.ifYes X3 hx (hb hby d9_14) (by decide) (q := 21) rfl ((if0 _ _).trans (teq (by decide : (0 : Int32) = (0 : Int32))).1) ?_
  refine Wk.aloadN X3 hx (hb hby d9_21) rfl rfl rfl ?_
  refine Wk.getfield X3 hx hZ hown (host := "") (Or.inl (w 28 _ rfl)) Via.refl e3 hst2 (hb hby d9_22) rfl ?_
  intro T4 X4 e4
  refine Wk.iloadN X4 hx (hb hby d9_25) rfl rfl ?_
  refine Wk.iloadN X4 hx (hb hby d9_26) rfl rfl ?_
  refine Wk.callS X4 hx hZ hown (w 98 _ rfl) (w 99 _ rfl) (w 66 _ rfl) (w 100 _ rfl) (by decide) (as' := [(.ref t), (.int (0 : Int32)), (.int (2 : Int32))]) (backOf (W := 0) (rm_cc3_2 l Z a0 hw [] t kb za zb h0 O0 sH sL sA hst3 hcza hczb) hZ (w 100 _ rfl) (w 66 _ rfl) (by decide) (by decide)) e4 (by rw [hml]; rfl) (rest := []) (lenOf pd24 rfl) rfl (Nat.le_of_eq rfl) (hb hby d9_27) rfl (by decide) (by decide) ?_
  intro T5 h5 v5 L5 X5 e5 hQ5
  obtain ⟨r5, rfl, Nq5, K5, q5_0⟩ := hQ5
  have N5 := Fk.app N3 Nq5 (Nat.le_refl _) all0
  rw [K5] at e5
  show Wp p e below _ _ T5 (mkF m 30 #[.val (.ref x), .val (.int (0 : Int32)), .val (.int (2 : Int32))] [(.int r5)])
  exact Wk.retI' X5 hx hlk hr (hb hby d9_30) (by decide) (by decide) (Qc := Q_rm_cpc21 Z x t kb G1 za zb h0) e5 ⟨r5, rfl, N5, rfl, q5_0⟩
def Q_rm_wi21 (Z : State) (x : Addr) (t : Addr) (kb : ClassId) (G1 : Int32) (za : Int32) (zb : Int32) (mn : Int32) (mx : Int32) (h0 : Heap) (v : Option Value) (h : Heap) (L : List Loc) : Prop := ∃ r : Int32, v = some (.int r) ∧ Fk h0.size [] L ∧ h = h0 ∧ (∃ q, Cnt2 za zb q ∧ Wth r q mn mx)
set_option maxRecDepth 65536 in
set_option maxHeartbeats 40000000 in
theorem rm_wi21 (l : Launch) (Z : State) (a0 : Array Value) (hw : ∀ d ∈ tables_1, d.before a0 Z = true) (ws : List Jvm.Cond) (x : Addr) (t : Addr) (kb : ClassId) (G1 : Int32) (za : Int32) (zb : Int32) (mn : Int32) (mx : Int32) (h0 : Heap) (O0 : Old Z Z.heap.size h0) (sH : Sta Z Z.heap "java/lang/StringUTF16" "HI_BYTE_SHIFT" "I" (.int (0 : Int32))) (sL : Sta Z Z.heap "java/lang/StringUTF16" "LO_BYTE_SHIFT" "I" (.int (8 : Int32))) (sA : Sta Z Z.heap "java/lang/StringUTF16" "$assertionsDisabled" "Z" (.int (1 : Int32))) (SG1 : Sta Z Z.heap "java/lang/String" "COMPACT_STRINGS" "Z" (.int G1)) (nG1 : ¬ G1 = 0) (hst0 : Exa Z h0 x "java/lang/String") (hst1 : Fld Z h0 x "java/lang/String" "coder" "B" (.int (1 : Int32))) (hst2 : Fld Z h0 x "java/lang/String" "value" "[B" (.ref t)) (hst3 : Arv Z h0 t kb .byte (4 : Int32) [(.int (own_b0 za)), (.int (own_b1 za)), (.int (own_b0 zb)), (.int (own_b1 zb))] (.int (0 : Int32))) (hcza : Chr za) (hczb : Chr zb) :
    Ctr l Z (⟨"com/example/visad/visad/identity/Characters", "within", "(Ljava/lang/String;II)Z"⟩ : MethodName) prog_19_method_2_code 4 (some .boolean) ws ({ frames := 4, cells := 0, slots := 0, locals := 58 } : Room) #[(.ref x), (.int mn), (.int mx)] h0 (Q_rm_wi21 Z x t kb G1 za zb mn mx h0) := by
  refine Ctr.intro (Ls := fun _ => #[.val (.ref x), .val (.int mn), .val (.int mx), .unset]) (plainFor_of_name pn22) (fun m => by first | rfl | (simp [entryFrame, mkF, argsToLocals, Value.category]; done)) ?_
  intro p e s m below meth c s₁ hx hby hml hr hlk hZ hown hnm hs0 X0 e0
  have w : ∀ (k : Nat) (d : Jvm.Cond), tables_1[k]? = some d → d.before a0 Z = true := fun k d q => hw d (List.mem_of_getElem? q)
  have N0 := Fk.nil h0.size []
  refine Wk.aloadN X0 hx (hb hby d6_0) rfl rfl rfl ?_
  refine Wk.iconst X0 hx (v := (0 : Int32)) (hb hby d6_1) rfl rfl ?_
  refine Wk.aloadN X0 hx (hb hby d6_2) rfl rfl rfl ?_
  refine Wk.callV X0 hx hZ (y := (⟨"java/lang/String", "length", "()I"⟩ : MethodName)) (z := (⟨"java/lang/String", "length", "()I"⟩ : MethodName)) hown (w 34 _ rfl) (w 35 _ rfl) (notFace_of_selects (args := #[]) (mvT hZ (w 37 _ rfl))) (w 37 _ rfl) (w 36 _ rfl) (by decide) (as' := []) (backOf (W := 2) (rm_len1 l Z a0 hw [] x t kb (4 : Int32) [(.int (own_b0 za)), (.int (own_b1 za)), (.int (own_b0 zb)), (.int (own_b1 zb))] G1 h0 O0 SG1 nG1 hst0 hst1 hst2 hst3) hZ (w 38 _ rfl) (w 10 _ rfl) (by decide) (by decide)) e0 hst0 (by rw [hml]; rfl) (rest := [(.int (0 : Int32)), (.ref x)]) (lenOf pd19 rfl) rfl (Nat.le_of_eq rfl) (hb hby d6_3) rfl (by decide) (by decide) ?_
  intro T1 h1 v1 L1 X1 e1 hQ1
  obtain ⟨rfl, Nq1, K1⟩ := hQ1
  have N1 := Fk.app N0 Nq1 (Nat.le_refl _) all0
  rw [K1] at e1
  show Wp p e below _ _ T1 (mkF m 6 #[.val (.ref x), .val (.int mn), .val (.int mx), .unset] [(.int ((4 : Int32) >>> ((1 : Int32) &&& 31))), (.int (0 : Int32)), (.ref x)])
  rw [(by decide : (((4 : Int32) >>> ((1 : Int32) &&& 31)) : Int32) = (2 : Int32))]
  refine Wk.callV X1 hx hZ (y := (⟨"java/lang/String", "codePointCount", "(II)I"⟩ : MethodName)) (z := (⟨"java/lang/String", "codePointCount", "(II)I"⟩ : MethodName)) hown (w 45 _ rfl) (w 46 _ rfl) (notFace_of_selects (args := #[]) (mvT hZ (w 48 _ rfl))) (w 48 _ rfl) (w 47 _ rfl) (by decide) (as' := [(.int (0 : Int32)), (.int (2 : Int32))]) (backOf (W := 0) (rm_cpc21 l Z a0 hw [] x t kb G1 za zb h0 O0 sH sL sA SG1 nG1 hst0 hst1 hst2 hst3 hcza hczb) hZ (w 49 _ rfl) (w 10 _ rfl) (by decide) (by decide)) e1 hst0 (by rw [hml]; rfl) (rest := []) (lenOf pd23 rfl) rfl (Nat.le_of_eq rfl) (hb hby d6_6) rfl (by decide) (by decide) ?_
  intro T2 h2 v2 L2 X2 e2 hQ2
  obtain ⟨r2, rfl, Nq2, K2, q2_0⟩ := hQ2
  have N2 := Fk.app N1 Nq2 (Nat.le_refl _) all0
  rw [K2] at e2
  show Wp p e below _ _ T2 (mkF m 9 #[.val (.ref x), .val (.int mn), .val (.int mx), .unset] [(.int r2)])
  refine Wk.istoreN X2 hx (Ls' := #[.val (.ref x), .val (.int mn), .val (.int mx), .val (.int r2)]) (hb hby d6_9) rfl rfl ?_
  refine Wk.iloadN X2 hx (hb hby d6_10) rfl rfl ?_
  refine Wk.iloadN X2 hx (hb hby d6_11) rfl rfl ?_
  by_cases hc3 : r2 < mn
  · skip
    refine Wk.icmpYes X2 hx (hb hby d6_12) (by decide) (q := 24) rfl (tlt hc3).1 ?_
    refine Wk.iconst X2 hx (v := (0 : Int32)) (hb hby d6_24) rfl rfl ?_
    exact Wk.retZ' X2 hx hlk hr (by simp) (hb hby d6_25) (by decide) (by decide) (Qc := Q_rm_wi21 Z x t kb G1 za zb mn mx h0) e2 ⟨(0 : Int32), rfl, N2, rfl, (by first | (refine ⟨_, by assumption, ?_⟩; simp [Wth, hc3]) | simp [Wth, hc3])⟩
  · skip
    refine Wk.icmpNo X2 hx (hb hby d6_12) rfl (flt hc3).1 ?_
    refine Wk.iloadN X2 hx (hb hby d6_15) rfl rfl ?_
    refine Wk.iloadN X2 hx (hb hby d6_16) rfl rfl ?_
    by_cases hc4 : mx < r2
    · skip
      refine Wk.icmpYes X2 hx (hb hby d6_17) (by decide) (q := 24) rfl (tlt hc4).2.2.1 ?_
      refine Wk.iconst X2 hx (v := (0 : Int32)) (hb hby d6_24) rfl rfl ?_
      exact Wk.retZ' X2 hx hlk hr (by simp) (hb hby d6_25) (by decide) (by decide) (Qc := Q_rm_wi21 Z x t kb G1 za zb mn mx h0) e2 ⟨(0 : Int32), rfl, N2, rfl, (by first | (refine ⟨_, by assumption, ?_⟩; simp [Wth, hc3, hc4]) | simp [Wth, hc3, hc4])⟩
    · skip
      refine Wk.icmpNo X2 hx (hb hby d6_17) rfl (flt hc4).2.2.1 ?_
      refine Wk.iconst X2 hx (v := (1 : Int32)) (hb hby d6_20) rfl rfl ?_
      refine Wk.goto X2 hx (hb hby d6_21) (by decide) (q := 25) rfl ?_
      exact Wk.retZ' X2 hx hlk hr (by simp) (hb hby d6_25) (by decide) (by decide) (Qc := Q_rm_wi21 Z x t kb G1 za zb mn mx h0) e2 ⟨(1 : Int32), rfl, N2, rfl, (by first | (refine ⟨_, by assumption, ?_⟩; simp [Wth, hc3, hc4]) | simp [Wth, hc3, hc4])⟩
def Q_rm_cpc30 (Z : State) (x : Addr) (t : Addr) (kb : ClassId) (G1 : Int32) (lb : List Value) (h0 : Heap) (v : Option Value) (h : Heap) (L : List Loc) : Prop := v = some (.int (3 : Int32)) ∧ Fk h0.size [] L ∧ h = h0
set_option maxRecDepth 65536 in
set_option maxHeartbeats 40000000 in
theorem rm_cpc30 (l : Launch) (Z : State) (a0 : Array Value) (hw : ∀ d ∈ tables_1, d.before a0 Z = true) (ws : List Jvm.Cond) (x : Addr) (t : Addr) (kb : ClassId) (G1 : Int32) (lb : List Value) (h0 : Heap) (O0 : Old Z Z.heap.size h0) (SG1 : Sta Z Z.heap "java/lang/String" "COMPACT_STRINGS" "Z" (.int G1)) (nG1 : ¬ G1 = 0) (hst0 : Exa Z h0 x "java/lang/String") (hst1 : Fld Z h0 x "java/lang/String" "coder" "B" (.int (0 : Int32))) (hst2 : Fld Z h0 x "java/lang/String" "value" "[B" (.ref t)) (hst3 : Arv Z h0 t kb .byte (3 : Int32) lb (.int (0 : Int32))) :
    Ctr l Z (⟨"java/lang/String", "codePointCount", "(II)I"⟩ : MethodName) jdk_42_method_59_code 3 (some .int) ws ({ frames := 2, cells := 0, slots := 0, locals := 29 } : Room) #[(.ref x), (.int (0 : Int32)), (.int (3 : Int32))] h0 (Q_rm_cpc30 Z x t kb G1 lb h0) := by
  refine Ctr.intro (Ls := fun _ => #[.val (.ref x), .val (.int (0 : Int32)), .val (.int (3 : Int32))]) (plainFor_of_name pn7) (fun m => by first | rfl | (simp [entryFrame, mkF, argsToLocals, Value.category]; done)) ?_
  intro p e s m below meth c s₁ hx hby hml hr hlk hZ hown hnm hs0 X0 e0
  have w : ∀ (k : Nat) (d : Jvm.Cond), tables_1[k]? = some d → d.before a0 Z = true := fun k d q => hw d (List.mem_of_getElem? q)
  have N0 := Fk.nil h0.size []
  refine Wk.iloadN X0 hx (hb hby d9_0) rfl rfl ?_
  refine Wk.iloadN X0 hx (hb hby d9_1) rfl rfl ?_
  refine Wk.aloadN X0 hx (hb hby d9_2) rfl rfl rfl ?_
  refine Wk.callV X0 hx hZ (y := (⟨"java/lang/String", "length", "()I"⟩ : MethodName)) (z := (⟨"java/lang/String", "length", "()I"⟩ : MethodName)) hown (w 50 _ rfl) (w 35 _ rfl) (notFace_of_selects (args := #[]) (mvT hZ (w 37 _ rfl))) (w 37 _ rfl) (w 36 _ rfl) (by decide) (as' := []) (backOf (W := 2) (rm_len0 l Z a0 hw [] x t kb (3 : Int32) lb G1 h0 O0 SG1 nG1 hst0 hst1 hst2 hst3) hZ (w 38 _ rfl) (w 10 _ rfl) (by decide) (by decide)) e0 hst0 (by rw [hml]; rfl) (rest := [(.int (3 : Int32)), (.int (0 : Int32))]) (lenOf pd19 rfl) rfl (Nat.le_of_eq rfl) (hb hby d9_3) rfl (by decide) (by decide) ?_
  intro T1 h1 v1 L1 X1 e1 hQ1
  obtain ⟨rfl, Nq1, K1⟩ := hQ1
  have N1 := Fk.app N0 Nq1 (Nat.le_refl _) all0
  rw [K1] at e1
  show Wp p e below _ _ T1 (mkF m 6 #[.val (.ref x), .val (.int (0 : Int32)), .val (.int (3 : Int32))] [(.int ((3 : Int32) >>> ((0 : Int32) &&& 31))), (.int (3 : Int32)), (.int (0 : Int32))])
  rw [(by decide : (((3 : Int32) >>> ((0 : Int32) &&& 31)) : Int32) = (3 : Int32))]
  refine Wk.callS X1 hx hZ hown (w 51 _ rfl) (w 52 _ rfl) (w 53 _ rfl) (w 54 _ rfl) (by decide) (as' := [(.int (0 : Int32)), (.int (3 : Int32)), (.int (3 : Int32))]) (backOf (W := 0) (rm_ock3 l Z a0 hw [] h0 O0) hZ (w 54 _ rfl) (w 53 _ rfl) (by decide) (by decide)) e1 (by rw [hml]; rfl) (rest := []) (lenOf pd20 rfl) rfl (Nat.le_of_eq rfl) (hb hby d9_6) rfl (by decide) (by decide) ?_
  intro T2 h2 v2 L2 X2 e2 hQ2
  obtain ⟨rfl, Nq2, K2⟩ := hQ2
  have N2 := Fk.app N1 Nq2 (Nat.le_refl _) all0
  rw [K2] at e2
  show Wp p e below _ _ T2 (mkF m 9 #[.val (.ref x), .val (.int (0 : Int32)), .val (.int (3 : Int32))] [(.int (0 : Int32))])
  refine Wk.pop X2 hx (hb hby d9_9) rfl rfl ?_
  refine Wk.aloadN X2 hx (hb hby d9_10) rfl rfl rfl ?_
  refine Wk.callV X2 hx hZ (y := (⟨"java/lang/String", "isLatin1", "()Z"⟩ : MethodName)) (z := (⟨"java/lang/String", "isLatin1", "()Z"⟩ : MethodName)) hown (w 59 _ rfl) (w 60 _ rfl) (notFace_of_selects (args := #[]) (mvT hZ (w 62 _ rfl))) (w 62 _ rfl) (w 61 _ rfl) (by decide) (as' := []) (backOf (W := 0) (rm_isl0 l Z a0 hw [] x G1 h0 O0 SG1 nG1 hst1) hZ (w 63 _ rfl) (w 10 _ rfl) (by decide) (by decide)) e2 hst0 (by rw [hml]; rfl) (rest := []) (lenOf pd21 rfl) rfl (Nat.le_of_eq rfl) (hb hby d9_11) rfl (by decide) (by decide) ?_
  intro T3 h3 v3 L3 X3 e3 hQ3
  obtain ⟨rfl, Nq3, K3⟩ := hQ3
  have N3 := Fk.app N2 Nq3 (Nat.le_refl _) all0
  rw [K3] at e3
  show Wp p e below _ _ T3 (mkF m 14 #[.val (.ref x), .val (.int (0 : Int32)), .val (.int (3 : Int32))] [(.int (1 : Int32))])
  refine Wk.ifNo X3 hx (hb hby d9_14) rfl ((if0 _ _).trans (feq (by decide : ¬ ((1 : Int32) = (0 : Int32)))).1) ?_
  refine Wk.iloadN X3 hx (hb hby d9_17) rfl rfl ?_
  refine Wk.iloadN X3 hx (hb hby d9_18) rfl rfl ?_
  refine Wk.isub X3 hx (hb hby d9_19) rfl ?_
  rw [(by decide : (((3 : Int32) - (0 : Int32)) : Int32) = (3 : Int32))]
  exact Wk.retI' X3 hx hlk hr (hb hby d9_20) (by decide) (by decide) (Qc := Q_rm_cpc30 Z x t kb G1 lb h0) e3 ⟨rfl, N3, rfl⟩
def Q_rm_wi30 (Z : State) (x : Addr) (t : Addr) (kb : ClassId) (G1 : Int32) (lb : List Value) (mn : Int32) (mx : Int32) (h0 : Heap) (v : Option Value) (h : Heap) (L : List Loc) : Prop := ∃ r : Int32, v = some (.int r) ∧ Fk h0.size [] L ∧ h = h0 ∧ Wth r (3 : Int32) mn mx
set_option maxRecDepth 65536 in
set_option maxHeartbeats 40000000 in
theorem rm_wi30 (l : Launch) (Z : State) (a0 : Array Value) (hw : ∀ d ∈ tables_1, d.before a0 Z = true) (ws : List Jvm.Cond) (x : Addr) (t : Addr) (kb : ClassId) (G1 : Int32) (lb : List Value) (mn : Int32) (mx : Int32) (h0 : Heap) (O0 : Old Z Z.heap.size h0) (SG1 : Sta Z Z.heap "java/lang/String" "COMPACT_STRINGS" "Z" (.int G1)) (nG1 : ¬ G1 = 0) (hst0 : Exa Z h0 x "java/lang/String") (hst1 : Fld Z h0 x "java/lang/String" "coder" "B" (.int (0 : Int32))) (hst2 : Fld Z h0 x "java/lang/String" "value" "[B" (.ref t)) (hst3 : Arv Z h0 t kb .byte (3 : Int32) lb (.int (0 : Int32))) :
    Ctr l Z (⟨"com/example/visad/visad/identity/Characters", "within", "(Ljava/lang/String;II)Z"⟩ : MethodName) prog_19_method_2_code 4 (some .boolean) ws ({ frames := 3, cells := 0, slots := 0, locals := 43 } : Room) #[(.ref x), (.int mn), (.int mx)] h0 (Q_rm_wi30 Z x t kb G1 lb mn mx h0) := by
  refine Ctr.intro (Ls := fun _ => #[.val (.ref x), .val (.int mn), .val (.int mx), .unset]) (plainFor_of_name pn22) (fun m => by first | rfl | (simp [entryFrame, mkF, argsToLocals, Value.category]; done)) ?_
  intro p e s m below meth c s₁ hx hby hml hr hlk hZ hown hnm hs0 X0 e0
  have w : ∀ (k : Nat) (d : Jvm.Cond), tables_1[k]? = some d → d.before a0 Z = true := fun k d q => hw d (List.mem_of_getElem? q)
  have N0 := Fk.nil h0.size []
  refine Wk.aloadN X0 hx (hb hby d6_0) rfl rfl rfl ?_
  refine Wk.iconst X0 hx (v := (0 : Int32)) (hb hby d6_1) rfl rfl ?_
  refine Wk.aloadN X0 hx (hb hby d6_2) rfl rfl rfl ?_
  refine Wk.callV X0 hx hZ (y := (⟨"java/lang/String", "length", "()I"⟩ : MethodName)) (z := (⟨"java/lang/String", "length", "()I"⟩ : MethodName)) hown (w 34 _ rfl) (w 35 _ rfl) (notFace_of_selects (args := #[]) (mvT hZ (w 37 _ rfl))) (w 37 _ rfl) (w 36 _ rfl) (by decide) (as' := []) (backOf (W := 2) (rm_len0 l Z a0 hw [] x t kb (3 : Int32) lb G1 h0 O0 SG1 nG1 hst0 hst1 hst2 hst3) hZ (w 38 _ rfl) (w 10 _ rfl) (by decide) (by decide)) e0 hst0 (by rw [hml]; rfl) (rest := [(.int (0 : Int32)), (.ref x)]) (lenOf pd19 rfl) rfl (Nat.le_of_eq rfl) (hb hby d6_3) rfl (by decide) (by decide) ?_
  intro T1 h1 v1 L1 X1 e1 hQ1
  obtain ⟨rfl, Nq1, K1⟩ := hQ1
  have N1 := Fk.app N0 Nq1 (Nat.le_refl _) all0
  rw [K1] at e1
  show Wp p e below _ _ T1 (mkF m 6 #[.val (.ref x), .val (.int mn), .val (.int mx), .unset] [(.int ((3 : Int32) >>> ((0 : Int32) &&& 31))), (.int (0 : Int32)), (.ref x)])
  rw [(by decide : (((3 : Int32) >>> ((0 : Int32) &&& 31)) : Int32) = (3 : Int32))]
  refine Wk.callV X1 hx hZ (y := (⟨"java/lang/String", "codePointCount", "(II)I"⟩ : MethodName)) (z := (⟨"java/lang/String", "codePointCount", "(II)I"⟩ : MethodName)) hown (w 45 _ rfl) (w 46 _ rfl) (notFace_of_selects (args := #[]) (mvT hZ (w 48 _ rfl))) (w 48 _ rfl) (w 47 _ rfl) (by decide) (as' := [(.int (0 : Int32)), (.int (3 : Int32))]) (backOf (W := 0) (rm_cpc30 l Z a0 hw [] x t kb G1 lb h0 O0 SG1 nG1 hst0 hst1 hst2 hst3) hZ (w 49 _ rfl) (w 10 _ rfl) (by decide) (by decide)) e1 hst0 (by rw [hml]; rfl) (rest := []) (lenOf pd23 rfl) rfl (Nat.le_of_eq rfl) (hb hby d6_6) rfl (by decide) (by decide) ?_
  intro T2 h2 v2 L2 X2 e2 hQ2
  obtain ⟨rfl, Nq2, K2⟩ := hQ2
  have N2 := Fk.app N1 Nq2 (Nat.le_refl _) all0
  rw [K2] at e2
  show Wp p e below _ _ T2 (mkF m 9 #[.val (.ref x), .val (.int mn), .val (.int mx), .unset] [(.int (3 : Int32))])
  refine Wk.istoreN X2 hx (Ls' := #[.val (.ref x), .val (.int mn), .val (.int mx), .val (.int (3 : Int32))]) (hb hby d6_9) rfl rfl ?_
  refine Wk.iloadN X2 hx (hb hby d6_10) rfl rfl ?_
  refine Wk.iloadN X2 hx (hb hby d6_11) rfl rfl ?_
  by_cases hc3 : (3 : Int32) < mn
  · skip
    refine Wk.icmpYes X2 hx (hb hby d6_12) (by decide) (q := 24) rfl (tlt hc3).1 ?_
    refine Wk.iconst X2 hx (v := (0 : Int32)) (hb hby d6_24) rfl rfl ?_
    exact Wk.retZ' X2 hx hlk hr (by simp) (hb hby d6_25) (by decide) (by decide) (Qc := Q_rm_wi30 Z x t kb G1 lb mn mx h0) e2 ⟨(0 : Int32), rfl, N2, rfl, (by first | (refine ⟨_, by assumption, ?_⟩; simp [Wth, hc3]) | simp [Wth, hc3])⟩
  · skip
    refine Wk.icmpNo X2 hx (hb hby d6_12) rfl (flt hc3).1 ?_
    refine Wk.iloadN X2 hx (hb hby d6_15) rfl rfl ?_
    refine Wk.iloadN X2 hx (hb hby d6_16) rfl rfl ?_
    by_cases hc4 : mx < (3 : Int32)
    · skip
      refine Wk.icmpYes X2 hx (hb hby d6_17) (by decide) (q := 24) rfl (tlt hc4).2.2.1 ?_
      refine Wk.iconst X2 hx (v := (0 : Int32)) (hb hby d6_24) rfl rfl ?_
      exact Wk.retZ' X2 hx hlk hr (by simp) (hb hby d6_25) (by decide) (by decide) (Qc := Q_rm_wi30 Z x t kb G1 lb mn mx h0) e2 ⟨(0 : Int32), rfl, N2, rfl, (by first | (refine ⟨_, by assumption, ?_⟩; simp [Wth, hc3, hc4]) | simp [Wth, hc3, hc4])⟩
    · skip
      refine Wk.icmpNo X2 hx (hb hby d6_17) rfl (flt hc4).2.2.1 ?_
      refine Wk.iconst X2 hx (v := (1 : Int32)) (hb hby d6_20) rfl rfl ?_
      refine Wk.goto X2 hx (hb hby d6_21) (by decide) (q := 25) rfl ?_
      exact Wk.retZ' X2 hx hlk hr (by simp) (hb hby d6_25) (by decide) (by decide) (Qc := Q_rm_wi30 Z x t kb G1 lb mn mx h0) e2 ⟨(1 : Int32), rfl, N2, rfl, (by first | (refine ⟨_, by assumption, ?_⟩; simp [Wth, hc3, hc4]) | simp [Wth, hc3, hc4])⟩
def Q_rm_cpc31 (Z : State) (x : Addr) (t : Addr) (kb : ClassId) (G1 : Int32) (za : Int32) (zb : Int32) (zc : Int32) (h0 : Heap) (v : Option Value) (h : Heap) (L : List Loc) : Prop := ∃ r : Int32, v = some (.int r) ∧ Fk h0.size [] L ∧ h = h0 ∧ Cnt3 za zb zc r
set_option maxRecDepth 65536 in
set_option maxHeartbeats 40000000 in
theorem rm_cpc31 (l : Launch) (Z : State) (a0 : Array Value) (hw : ∀ d ∈ tables_1, d.before a0 Z = true) (ws : List Jvm.Cond) (x : Addr) (t : Addr) (kb : ClassId) (G1 : Int32) (za : Int32) (zb : Int32) (zc : Int32) (h0 : Heap) (O0 : Old Z Z.heap.size h0) (sH : Sta Z Z.heap "java/lang/StringUTF16" "HI_BYTE_SHIFT" "I" (.int (0 : Int32))) (sL : Sta Z Z.heap "java/lang/StringUTF16" "LO_BYTE_SHIFT" "I" (.int (8 : Int32))) (sA : Sta Z Z.heap "java/lang/StringUTF16" "$assertionsDisabled" "Z" (.int (1 : Int32))) (SG1 : Sta Z Z.heap "java/lang/String" "COMPACT_STRINGS" "Z" (.int G1)) (nG1 : ¬ G1 = 0) (hst0 : Exa Z h0 x "java/lang/String") (hst1 : Fld Z h0 x "java/lang/String" "coder" "B" (.int (1 : Int32))) (hst2 : Fld Z h0 x "java/lang/String" "value" "[B" (.ref t)) (hst3 : Arv Z h0 t kb .byte (6 : Int32) [(.int (own_b0 za)), (.int (own_b1 za)), (.int (own_b0 zb)), (.int (own_b1 zb)), (.int (own_b0 zc)), (.int (own_b1 zc))] (.int (0 : Int32))) (hcza : Chr za) (hczb : Chr zb) (hczc : Chr zc) :
    Ctr l Z (⟨"java/lang/String", "codePointCount", "(II)I"⟩ : MethodName) jdk_42_method_59_code 3 (some .int) ws ({ frames := 3, cells := 0, slots := 0, locals := 44 } : Room) #[(.ref x), (.int (0 : Int32)), (.int (3 : Int32))] h0 (Q_rm_cpc31 Z x t kb G1 za zb zc h0) := by
  refine Ctr.intro (Ls := fun _ => #[.val (.ref x), .val (.int (0 : Int32)), .val (.int (3 : Int32))]) (plainFor_of_name pn7) (fun m => by first | rfl | (simp [entryFrame, mkF, argsToLocals, Value.category]; done)) ?_
  intro p e s m below meth c s₁ hx hby hml hr hlk hZ hown hnm hs0 X0 e0
  have w : ∀ (k : Nat) (d : Jvm.Cond), tables_1[k]? = some d → d.before a0 Z = true := fun k d q => hw d (List.mem_of_getElem? q)
  have N0 := Fk.nil h0.size []
  refine Wk.iloadN X0 hx (hb hby d9_0) rfl rfl ?_
  refine Wk.iloadN X0 hx (hb hby d9_1) rfl rfl ?_
  refine Wk.aloadN X0 hx (hb hby d9_2) rfl rfl rfl ?_
  refine Wk.callV X0 hx hZ (y := (⟨"java/lang/String", "length", "()I"⟩ : MethodName)) (z := (⟨"java/lang/String", "length", "()I"⟩ : MethodName)) hown (w 50 _ rfl) (w 35 _ rfl) (notFace_of_selects (args := #[]) (mvT hZ (w 37 _ rfl))) (w 37 _ rfl) (w 36 _ rfl) (by decide) (as' := []) (backOf (W := 2) (rm_len1 l Z a0 hw [] x t kb (6 : Int32) [(.int (own_b0 za)), (.int (own_b1 za)), (.int (own_b0 zb)), (.int (own_b1 zb)), (.int (own_b0 zc)), (.int (own_b1 zc))] G1 h0 O0 SG1 nG1 hst0 hst1 hst2 hst3) hZ (w 38 _ rfl) (w 10 _ rfl) (by decide) (by decide)) e0 hst0 (by rw [hml]; rfl) (rest := [(.int (3 : Int32)), (.int (0 : Int32))]) (lenOf pd19 rfl) rfl (Nat.le_of_eq rfl) (hb hby d9_3) rfl (by decide) (by decide) ?_
  intro T1 h1 v1 L1 X1 e1 hQ1
  obtain ⟨rfl, Nq1, K1⟩ := hQ1
  have N1 := Fk.app N0 Nq1 (Nat.le_refl _) all0
  rw [K1] at e1
  show Wp p e below _ _ T1 (mkF m 6 #[.val (.ref x), .val (.int (0 : Int32)), .val (.int (3 : Int32))] [(.int ((6 : Int32) >>> ((1 : Int32) &&& 31))), (.int (3 : Int32)), (.int (0 : Int32))])
  rw [(by decide : (((6 : Int32) >>> ((1 : Int32) &&& 31)) : Int32) = (3 : Int32))]
  refine Wk.callS X1 hx hZ hown (w 51 _ rfl) (w 52 _ rfl) (w 53 _ rfl) (w 54 _ rfl) (by decide) (as' := [(.int (0 : Int32)), (.int (3 : Int32)), (.int (3 : Int32))]) (backOf (W := 0) (rm_ock3 l Z a0 hw [] h0 O0) hZ (w 54 _ rfl) (w 53 _ rfl) (by decide) (by decide)) e1 (by rw [hml]; rfl) (rest := []) (lenOf pd20 rfl) rfl (Nat.le_of_eq rfl) (hb hby d9_6) rfl (by decide) (by decide) ?_
  intro T2 h2 v2 L2 X2 e2 hQ2
  obtain ⟨rfl, Nq2, K2⟩ := hQ2
  have N2 := Fk.app N1 Nq2 (Nat.le_refl _) all0
  rw [K2] at e2
  show Wp p e below _ _ T2 (mkF m 9 #[.val (.ref x), .val (.int (0 : Int32)), .val (.int (3 : Int32))] [(.int (0 : Int32))])
  refine Wk.pop X2 hx (hb hby d9_9) rfl rfl ?_
  refine Wk.aloadN X2 hx (hb hby d9_10) rfl rfl rfl ?_
  refine Wk.callV X2 hx hZ (y := (⟨"java/lang/String", "isLatin1", "()Z"⟩ : MethodName)) (z := (⟨"java/lang/String", "isLatin1", "()Z"⟩ : MethodName)) hown (w 59 _ rfl) (w 60 _ rfl) (notFace_of_selects (args := #[]) (mvT hZ (w 62 _ rfl))) (w 62 _ rfl) (w 61 _ rfl) (by decide) (as' := []) (backOf (W := 0) (rm_isl1 l Z a0 hw [] x G1 h0 O0 SG1 nG1 hst1) hZ (w 63 _ rfl) (w 10 _ rfl) (by decide) (by decide)) e2 hst0 (by rw [hml]; rfl) (rest := []) (lenOf pd21 rfl) rfl (Nat.le_of_eq rfl) (hb hby d9_11) rfl (by decide) (by decide) ?_
  intro T3 h3 v3 L3 X3 e3 hQ3
  obtain ⟨rfl, Nq3, K3⟩ := hQ3
  have N3 := Fk.app N2 Nq3 (Nat.le_refl _) all0
  rw [K3] at e3
  show Wp p e below _ _ T3 (mkF m 14 #[.val (.ref x), .val (.int (0 : Int32)), .val (.int (3 : Int32))] [(.int (0 : Int32))])
  refine Wk.ifYes X3 hx (hb hby d9_14) (by decide) (q := 21) rfl ((if0 _ _).trans (teq (by decide : (0 : Int32) = (0 : Int32))).1) ?_
  refine Wk.aloadN X3 hx (hb hby d9_21) rfl rfl rfl ?_
  refine Wk.getfield X3 hx hZ hown (host := "") (Or.inl (w 28 _ rfl)) Via.refl e3 hst2 (hb hby d9_22) rfl ?_
  intro T4 X4 e4
  refine Wk.iloadN X4 hx (hb hby d9_25) rfl rfl ?_
  refine Wk.iloadN X4 hx (hb hby d9_26) rfl rfl ?_
  refine Wk.callS X4 hx hZ hown (w 98 _ rfl) (w 99 _ rfl) (w 66 _ rfl) (w 100 _ rfl) (by decide) (as' := [(.ref t), (.int (0 : Int32)), (.int (3 : Int32))]) (backOf (W := 0) (rm_cc3_3 l Z a0 hw [] t kb za zb zc h0 O0 sH sL sA hst3 hcza hczb hczc) hZ (w 100 _ rfl) (w 66 _ rfl) (by decide) (by decide)) e4 (by rw [hml]; rfl) (rest := []) (lenOf pd24 rfl) rfl (Nat.le_of_eq rfl) (hb hby d9_27) rfl (by decide) (by decide) ?_
  intro T5 h5 v5 L5 X5 e5 hQ5
  obtain ⟨r5, rfl, Nq5, K5, q5_0⟩ := hQ5
  have N5 := Fk.app N3 Nq5 (Nat.le_refl _) all0
  rw [K5] at e5
  show Wp p e below _ _ T5 (mkF m 30 #[.val (.ref x), .val (.int (0 : Int32)), .val (.int (3 : Int32))] [(.int r5)])
  exact Wk.retI' X5 hx hlk hr (hb hby d9_30) (by decide) (by decide) (Qc := Q_rm_cpc31 Z x t kb G1 za zb zc h0) e5 ⟨r5, rfl, N5, rfl, q5_0⟩
def Q_rm_wi31 (Z : State) (x : Addr) (t : Addr) (kb : ClassId) (G1 : Int32) (za : Int32) (zb : Int32) (zc : Int32) (mn : Int32) (mx : Int32) (h0 : Heap) (v : Option Value) (h : Heap) (L : List Loc) : Prop := ∃ r : Int32, v = some (.int r) ∧ Fk h0.size [] L ∧ h = h0 ∧ (∃ q, Cnt3 za zb zc q ∧ Wth r q mn mx)
set_option maxRecDepth 65536 in
set_option maxHeartbeats 40000000 in
theorem rm_wi31 (l : Launch) (Z : State) (a0 : Array Value) (hw : ∀ d ∈ tables_1, d.before a0 Z = true) (ws : List Jvm.Cond) (x : Addr) (t : Addr) (kb : ClassId) (G1 : Int32) (za : Int32) (zb : Int32) (zc : Int32) (mn : Int32) (mx : Int32) (h0 : Heap) (O0 : Old Z Z.heap.size h0) (sH : Sta Z Z.heap "java/lang/StringUTF16" "HI_BYTE_SHIFT" "I" (.int (0 : Int32))) (sL : Sta Z Z.heap "java/lang/StringUTF16" "LO_BYTE_SHIFT" "I" (.int (8 : Int32))) (sA : Sta Z Z.heap "java/lang/StringUTF16" "$assertionsDisabled" "Z" (.int (1 : Int32))) (SG1 : Sta Z Z.heap "java/lang/String" "COMPACT_STRINGS" "Z" (.int G1)) (nG1 : ¬ G1 = 0) (hst0 : Exa Z h0 x "java/lang/String") (hst1 : Fld Z h0 x "java/lang/String" "coder" "B" (.int (1 : Int32))) (hst2 : Fld Z h0 x "java/lang/String" "value" "[B" (.ref t)) (hst3 : Arv Z h0 t kb .byte (6 : Int32) [(.int (own_b0 za)), (.int (own_b1 za)), (.int (own_b0 zb)), (.int (own_b1 zb)), (.int (own_b0 zc)), (.int (own_b1 zc))] (.int (0 : Int32))) (hcza : Chr za) (hczb : Chr zb) (hczc : Chr zc) :
    Ctr l Z (⟨"com/example/visad/visad/identity/Characters", "within", "(Ljava/lang/String;II)Z"⟩ : MethodName) prog_19_method_2_code 4 (some .boolean) ws ({ frames := 4, cells := 0, slots := 0, locals := 58 } : Room) #[(.ref x), (.int mn), (.int mx)] h0 (Q_rm_wi31 Z x t kb G1 za zb zc mn mx h0) := by
  refine Ctr.intro (Ls := fun _ => #[.val (.ref x), .val (.int mn), .val (.int mx), .unset]) (plainFor_of_name pn22) (fun m => by first | rfl | (simp [entryFrame, mkF, argsToLocals, Value.category]; done)) ?_
  intro p e s m below meth c s₁ hx hby hml hr hlk hZ hown hnm hs0 X0 e0
  have w : ∀ (k : Nat) (d : Jvm.Cond), tables_1[k]? = some d → d.before a0 Z = true := fun k d q => hw d (List.mem_of_getElem? q)
  have N0 := Fk.nil h0.size []
  refine Wk.aloadN X0 hx (hb hby d6_0) rfl rfl rfl ?_
  refine Wk.iconst X0 hx (v := (0 : Int32)) (hb hby d6_1) rfl rfl ?_
  refine Wk.aloadN X0 hx (hb hby d6_2) rfl rfl rfl ?_
  refine Wk.callV X0 hx hZ (y := (⟨"java/lang/String", "length", "()I"⟩ : MethodName)) (z := (⟨"java/lang/String", "length", "()I"⟩ : MethodName)) hown (w 34 _ rfl) (w 35 _ rfl) (notFace_of_selects (args := #[]) (mvT hZ (w 37 _ rfl))) (w 37 _ rfl) (w 36 _ rfl) (by decide) (as' := []) (backOf (W := 2) (rm_len1 l Z a0 hw [] x t kb (6 : Int32) [(.int (own_b0 za)), (.int (own_b1 za)), (.int (own_b0 zb)), (.int (own_b1 zb)), (.int (own_b0 zc)), (.int (own_b1 zc))] G1 h0 O0 SG1 nG1 hst0 hst1 hst2 hst3) hZ (w 38 _ rfl) (w 10 _ rfl) (by decide) (by decide)) e0 hst0 (by rw [hml]; rfl) (rest := [(.int (0 : Int32)), (.ref x)]) (lenOf pd19 rfl) rfl (Nat.le_of_eq rfl) (hb hby d6_3) rfl (by decide) (by decide) ?_
  intro T1 h1 v1 L1 X1 e1 hQ1
  obtain ⟨rfl, Nq1, K1⟩ := hQ1
  have N1 := Fk.app N0 Nq1 (Nat.le_refl _) all0
  rw [K1] at e1
  show Wp p e below _ _ T1 (mkF m 6 #[.val (.ref x), .val (.int mn), .val (.int mx), .unset] [(.int ((6 : Int32) >>> ((1 : Int32) &&& 31))), (.int (0 : Int32)), (.ref x)])
  rw [(by decide : (((6 : Int32) >>> ((1 : Int32) &&& 31)) : Int32) = (3 : Int32))]
  refine Wk.callV X1 hx hZ (y := (⟨"java/lang/String", "codePointCount", "(II)I"⟩ : MethodName)) (z := (⟨"java/lang/String", "codePointCount", "(II)I"⟩ : MethodName)) hown (w 45 _ rfl) (w 46 _ rfl) (notFace_of_selects (args := #[]) (mvT hZ (w 48 _ rfl))) (w 48 _ rfl) (w 47 _ rfl) (by decide) (as' := [(.int (0 : Int32)), (.int (3 : Int32))]) (backOf (W := 0) (rm_cpc31 l Z a0 hw [] x t kb G1 za zb zc h0 O0 sH sL sA SG1 nG1 hst0 hst1 hst2 hst3 hcza hczb hczc) hZ (w 49 _ rfl) (w 10 _ rfl) (by decide) (by decide)) e1 hst0 (by rw [hml]; rfl) (rest := []) (lenOf pd23 rfl) rfl (Nat.le_of_eq rfl) (hb hby d6_6) rfl (by decide) (by decide) ?_
  intro T2 h2 v2 L2 X2 e2 hQ2
  obtain ⟨r2, rfl, Nq2, K2, q2_0⟩ := hQ2
  have N2 := Fk.app N1 Nq2 (Nat.le_refl _) all0
  rw [K2] at e2
  show Wp p e below _ _ T2 (mkF m 9 #[.val (.ref x), .val (.int mn), .val (.int mx), .unset] [(.int r2)])
  refine Wk.istoreN X2 hx (Ls' := #[.val (.ref x), .val (.int mn), .val (.int mx), .val (.int r2)]) (hb hby d6_9) rfl rfl ?_
  refine Wk.iloadN X2 hx (hb hby d6_10) rfl rfl ?_
  refine Wk.iloadN X2 hx (hb hby d6_11) rfl rfl ?_
  by_cases hc3 : r2 < mn
  · skip
    refine Wk.icmpYes X2 hx (hb hby d6_12) (by decide) (q := 24) rfl (tlt hc3).1 ?_
    refine Wk.iconst X2 hx (v := (0 : Int32)) (hb hby d6_24) rfl rfl ?_
    exact Wk.retZ' X2 hx hlk hr (by simp) (hb hby d6_25) (by decide) (by decide) (Qc := Q_rm_wi31 Z x t kb G1 za zb zc mn mx h0) e2 ⟨(0 : Int32), rfl, N2, rfl, (by first | (refine ⟨_, by assumption, ?_⟩; simp [Wth, hc3]) | simp [Wth, hc3])⟩
  · skip
    refine Wk.icmpNo X2 hx (hb hby d6_12) rfl (flt hc3).1 ?_
    refine Wk.iloadN X2 hx (hb hby d6_15) rfl rfl ?_
    refine Wk.iloadN X2 hx (hb hby d6_16) rfl rfl ?_
    by_cases hc4 : mx < r2
    · skip
      refine Wk.icmpYes X2 hx (hb hby d6_17) (by decide) (q := 24) rfl (tlt hc4).2.2.1 ?_
      refine Wk.iconst X2 hx (v := (0 : Int32)) (hb hby d6_24) rfl rfl ?_
      exact Wk.retZ' X2 hx hlk hr (by simp) (hb hby d6_25) (by decide) (by decide) (Qc := Q_rm_wi31 Z x t kb G1 za zb zc mn mx h0) e2 ⟨(0 : Int32), rfl, N2, rfl, (by first | (refine ⟨_, by assumption, ?_⟩; simp [Wth, hc3, hc4]) | simp [Wth, hc3, hc4])⟩
    · skip
      refine Wk.icmpNo X2 hx (hb hby d6_17) rfl (flt hc4).2.2.1 ?_
      refine Wk.iconst X2 hx (v := (1 : Int32)) (hb hby d6_20) rfl rfl ?_
      refine Wk.goto X2 hx (hb hby d6_21) (by decide) (q := 25) rfl ?_
      exact Wk.retZ' X2 hx hlk hr (by simp) (hb hby d6_25) (by decide) (by decide) (Qc := Q_rm_wi31 Z x t kb G1 za zb zc mn mx h0) e2 ⟨(1 : Int32), rfl, N2, rfl, (by first | (refine ⟨_, by assumption, ?_⟩; simp [Wth, hc3, hc4]) | simp [Wth, hc3, hc4])⟩
theorem pd25 : parseMethodDescriptor "(I)C" = some ⟨[.int], some .char⟩ := by decide +kernel
theorem pd26 : parseMethodDescriptor "(ICCC)Ljava/lang/String;" = some ⟨[.int, .char, .char, .char], some (.object "java/lang/String")⟩ := by decide +kernel
theorem pd27 : parseMethodDescriptor "(Ljava/lang/String;II)Z" = some ⟨[(.object "java/lang/String"), .int, .int], some .boolean⟩ := by decide +kernel
def Q_rm_law (Z : State) (p0 : Int32) (p1 : Int32) (p2 : Int32) (p3 : Int32) (p4 : Int32) (p5 : Int32) (G1 : Int32) (h0 : Heap) (v : Option Value) (vm : Vm) (h : Heap) (L : List Loc) : Prop := v = some (.int (1 : Int32)) ∧ Fk h0.size [] L ∧ Keep h0 h []
set_option maxRecDepth 65536 in
set_option maxHeartbeats 40000000 in
theorem rm_law (l : Launch) (Z : State) (a0 : Array Value) (hw : ∀ d ∈ tables_1, d.before a0 Z = true) (ws : List Jvm.Cond) (p0 : Int32) (p1 : Int32) (p2 : Int32) (p3 : Int32) (p4 : Int32) (p5 : Int32) (G1 : Int32) (h0 : Heap) (O0 : Old Z Z.heap.size h0) (hcw : Jvm.Lit.compactW.before a0 Z = true) (hheld : ∀ d ∈ consts_1, Jvm.Lit.constHeld Z d.1 d.2) (sH : Sta Z Z.heap "java/lang/StringUTF16" "HI_BYTE_SHIFT" "I" (.int (0 : Int32))) (sL : Sta Z Z.heap "java/lang/StringUTF16" "LO_BYTE_SHIFT" "I" (.int (8 : Int32))) (sA : Sta Z Z.heap "java/lang/StringUTF16" "$assertionsDisabled" "Z" (.int (1 : Int32))) (SG1 : Sta Z Z.heap "java/lang/String" "COMPACT_STRINGS" "Z" (.int G1)) (nG1 : ¬ G1 = 0) :
    CtrW l Z x code maxLocals ret ws room_1 #[(.int p0), (.int p1), (.int p2), (.int p3), (.int p4), (.int p5)] h0 (fun vm => IB Z vm []) (Q_rm_law Z p0 p1 p2 p3 p4 p5 G1 h0) := by
  refine CtrW.intro (Ls := fun _ => #[.val (.int p0), .val (.int p1), .val (.int p2), .val (.int p3), .val (.int p4), .val (.int p5), .unset, .unset, .unset, .unset, .unset, .unset, .unset]) (plainFor_of_name pn10) (fun m => by first | rfl | (simp [entryFrame, mkF, argsToLocals, Value.category, maxLocals]; done)) ?_
  intro p e s m below meth c s₁ vm hx hby hml hr hlk hZ hown hnm hs0 X0 e0 hS hPv
  have I0 := hPv
  have w : ∀ (k : Nat) (d : Jvm.Cond), tables_1[k]? = some d → d.before a0 Z = true := fun k d q => hw d (List.mem_of_getElem? q)
  have N0 := Fk.nil h0.size []
  refine Wk.iloadN X0 hx (hb hby at_0) rfl rfl ?_
  refine Wk.iconst X0 hx (v := (3 : Int32)) (hb hby at_1) rfl rfl ?_
  refine Wk.iand X0 hx (hb hby at_2) rfl ?_
  refine Wk.istoreA X0 hx (Ls' := fun z => #[.val (.int p0), .val (.int p1), .val (.int p2), .val (.int p3), .val (.int p4), .val (.int p5), .val (.int z), .unset, .unset, .unset, .unset, .unset, .unset]) (hb hby at_3) rfl (fun _ => rfl) ?_
  intro i1 hi1
  show Wp p e below _ _ s₁ (mkF m 5 #[.val (.int p0), .val (.int p1), .val (.int p2), .val (.int p3), .val (.int p4), .val (.int p5), .val (.int i1), .unset, .unset, .unset, .unset, .unset, .unset] [])
  refine Wk.iloadN X0 hx (hb hby at_5) rfl rfl ?_
  refine Wk.callS X0 hx hZ hown (w 0 _ rfl) (w 1 _ rfl) (w 2 _ rfl) (w 3 _ rfl) (by decide) (as' := [(.int p1)]) (backOf (W := 0) (rm_draw l Z a0 hw [] p1 h0 O0) hZ (w 3 _ rfl) (w 2 _ rfl) (by decide) (by decide)) e0 (by rw [hml]; rfl) (rest := []) (lenOf pd25 rfl) rfl (Nat.le_of_eq rfl) (hb hby at_6) rfl (by decide) (by decide) ?_
  intro T2 h2 v2 L2 X2 e2 hQ2
  obtain ⟨zz2, rfl, Nq2, K2, q2_0⟩ := hQ2
  have N2 := Fk.app N0 Nq2 (Nat.le_refl _) all0
  rw [K2] at e2
  show Wp p e below _ _ T2 (mkF m 9 #[.val (.int p0), .val (.int p1), .val (.int p2), .val (.int p3), .val (.int p4), .val (.int p5), .val (.int i1), .unset, .unset, .unset, .unset, .unset, .unset] [(.int zz2)])
  refine Wk.istore X2 hx (Ls' := #[.val (.int p0), .val (.int p1), .val (.int p2), .val (.int p3), .val (.int p4), .val (.int p5), .val (.int i1), .val (.int zz2), .unset, .unset, .unset, .unset, .unset]) (hb hby at_9) rfl rfl ?_
  refine Wk.iloadN X2 hx (hb hby at_11) rfl rfl ?_
  refine Wk.callS X2 hx hZ hown (w 0 _ rfl) (w 1 _ rfl) (w 2 _ rfl) (w 3 _ rfl) (by decide) (as' := [(.int p2)]) (backOf (W := 0) (rm_draw l Z a0 hw [] p2 h0 O0) hZ (w 3 _ rfl) (w 2 _ rfl) (by decide) (by decide)) e2 (by rw [hml]; rfl) (rest := []) (lenOf pd25 rfl) rfl (Nat.le_of_eq rfl) (hb hby at_12) rfl (by decide) (by decide) ?_
  intro T3 h3 v3 L3 X3 e3 hQ3
  obtain ⟨zz3, rfl, Nq3, K3, q3_0⟩ := hQ3
  have N3 := Fk.app N2 Nq3 (Nat.le_refl _) all0
  rw [K3] at e3
  show Wp p e below _ _ T3 (mkF m 15 #[.val (.int p0), .val (.int p1), .val (.int p2), .val (.int p3), .val (.int p4), .val (.int p5), .val (.int i1), .val (.int zz2), .unset, .unset, .unset, .unset, .unset] [(.int zz3)])
  refine Wk.istore X3 hx (Ls' := #[.val (.int p0), .val (.int p1), .val (.int p2), .val (.int p3), .val (.int p4), .val (.int p5), .val (.int i1), .val (.int zz2), .val (.int zz3), .unset, .unset, .unset, .unset]) (hb hby at_15) rfl rfl ?_
  refine Wk.iloadN X3 hx (hb hby at_17) rfl rfl ?_
  refine Wk.callS X3 hx hZ hown (w 0 _ rfl) (w 1 _ rfl) (w 2 _ rfl) (w 3 _ rfl) (by decide) (as' := [(.int p3)]) (backOf (W := 0) (rm_draw l Z a0 hw [] p3 h0 O0) hZ (w 3 _ rfl) (w 2 _ rfl) (by decide) (by decide)) e3 (by rw [hml]; rfl) (rest := []) (lenOf pd25 rfl) rfl (Nat.le_of_eq rfl) (hb hby at_18) rfl (by decide) (by decide) ?_
  intro T4 h4 v4 L4 X4 e4 hQ4
  obtain ⟨zz4, rfl, Nq4, K4, q4_0⟩ := hQ4
  have N4 := Fk.app N3 Nq4 (Nat.le_refl _) all0
  rw [K4] at e4
  show Wp p e below _ _ T4 (mkF m 21 #[.val (.int p0), .val (.int p1), .val (.int p2), .val (.int p3), .val (.int p4), .val (.int p5), .val (.int i1), .val (.int zz2), .val (.int zz3), .unset, .unset, .unset, .unset] [(.int zz4)])
  refine Wk.istore X4 hx (Ls' := #[.val (.int p0), .val (.int p1), .val (.int p2), .val (.int p3), .val (.int p4), .val (.int p5), .val (.int i1), .val (.int zz2), .val (.int zz3), .val (.int zz4), .unset, .unset, .unset]) (hb hby at_21) rfl rfl ?_
  refine Wk.iload X4 hx (hb hby at_23) rfl rfl ?_
  refine Wk.iload X4 hx (hb hby at_25) rfl rfl ?_
  refine Wk.iload X4 hx (hb hby at_27) rfl rfl ?_
  refine Wk.iload X4 hx (hb hby at_29) rfl rfl ?_
  rcases own_q _ hi1 with rfl | rfl | rfl | rfl
  · skip
    refine Wk.callSW X4 hx hS (Nat.le_refl _) hZ hown (w 5 _ rfl) (w 6 _ rfl) (w 2 _ rfl) (w 7 _ rfl) (by decide) (as' := [(.int (0 : Int32)), (.int zz2), (.int zz3), (.int zz4)]) (payW (W := 0) (rm_mk0 l Z a0 hw [] zz2 zz3 zz4 [] G1 h0 O0 hcw hheld SG1 nG1 (by first | assumption | rfl | decide | exact Nat.le_of_ble_eq_true rfl)) (s := s.setVm vm) hZ (w 7 _ rfl) (w 2 _ rfl) (by decide) (by decide) (fun _ q => ibWarm I0 q)) e4 (by rw [hml]; rfl) (rest := []) (lenOf pd26 rfl) rfl (Nat.le_of_eq rfl) (hb hby at_31) rfl (by decide) (by decide) ?_
    intro T5 h5 v5 L5 vm5 X5 e5 hS5 hZ5 ho5 w39_5 hQ5
    obtain ⟨x5, t5, kb5, lb5, rfl, Nq5, K5, q5_0, q5_1, q5_2, q5_3⟩ := hQ5
    have N5 := Fk.app N4 Nq5 (Nat.le_refl _) all0
    have O6 : Old Z Z.heap.size h5 := O0.keep K5 all0
    show Wp p e below _ _ T5 (mkF m 34 #[.val (.int p0), .val (.int p1), .val (.int p2), .val (.int p3), .val (.int p4), .val (.int p5), .val (.int (0 : Int32)), .val (.int zz2), .val (.int zz3), .val (.int zz4), .unset, .unset, .unset] [(.ref x5)])
    refine Wk.astore X5 hx (Ls' := #[.val (.int p0), .val (.int p1), .val (.int p2), .val (.int p3), .val (.int p4), .val (.int p5), .val (.int (0 : Int32)), .val (.int zz2), .val (.int zz3), .val (.int zz4), .val (.ref x5), .unset, .unset]) (hb hby at_34) rfl rfl rfl ?_
    refine Wk.iload X5 hx (hb hby at_36) rfl rfl ?_
    refine Wk.istore X5 hx (Ls' := #[.val (.int p0), .val (.int p1), .val (.int p2), .val (.int p3), .val (.int p4), .val (.int p5), .val (.int (0 : Int32)), .val (.int zz2), .val (.int zz3), .val (.int zz4), .val (.ref x5), .val (.int (0 : Int32)), .unset]) (hb hby at_38) rfl rfl ?_
    refine Wk.iload X5 hx (hb hby at_40) rfl rfl ?_
    refine Wk.iconst X5 hx (v := (2 : Int32)) (hb hby at_42) rfl rfl ?_
    refine Wk.icmpYes X5 hx (hb hby at_43) (by decide) (q := 68) rfl (tlt (by decide : (0 : Int32) < (2 : Int32))).1 ?_
    refine Wk.iload X5 hx (hb hby at_68) rfl rfl ?_
    refine Wk.iconst X5 hx (v := (3 : Int32)) (hb hby at_70) rfl rfl ?_
    refine Wk.icmpYes X5 hx (hb hby at_71) (by decide) (q := 96) rfl (tlt (by decide : (0 : Int32) < (3 : Int32))).1 ?_
    refine Wk.iload X5 hx (hb hby at_96) rfl rfl ?_
    refine Wk.iload X5 hx (hb hby at_98) rfl rfl ?_
    by_cases hc7 : (0 : Int32) < p4
    · skip
      refine Wk.icmpYes X5 hx (hb hby at_100) (by decide) (q := 114) rfl (tlt hc7).1 ?_
      refine Wk.iconst X5 hx (v := (0 : Int32)) (hb hby at_114) rfl rfl ?_
      refine Wk.istore X5 hx (Ls' := #[.val (.int p0), .val (.int p1), .val (.int p2), .val (.int p3), .val (.int p4), .val (.int p5), .val (.int (0 : Int32)), .val (.int zz2), .val (.int zz3), .val (.int zz4), .val (.ref x5), .val (.int (0 : Int32)), .val (.int (0 : Int32))]) (hb hby at_115) rfl rfl ?_
      refine Wk.aload X5 hx (hb hby at_117) rfl rfl rfl ?_
      refine Wk.iload X5 hx (hb hby at_119) rfl rfl ?_
      refine Wk.iload X5 hx (hb hby at_121) rfl rfl ?_
      refine Wk.callS X5 hx hZ5 ho5 (w 30 _ rfl) (w 31 _ rfl) (w 32 _ rfl) (w 33 _ rfl) (by decide) (as' := [(.ref x5), (.int p4), (.int p5)]) (backOf (W := 0) (rm_wi00 l Z a0 hw [] x5 t5 kb5 G1 lb5 p4 p5 h5 O6 SG1 nG1 q5_0 q5_1 q5_2 q5_3) hZ5 (w 33 _ rfl) (w 32 _ rfl) (by decide) (by decide)) e5 (by rw [hml]; rfl) (rest := []) (lenOf pd27 rfl) rfl (Nat.le_of_eq rfl) (hb hby at_123) rfl (by decide) (by decide) ?_
      intro T8 h8 v8 L8 X8 e8 hQ8
      obtain ⟨r8, rfl, Nq8, K8, q8_0⟩ := hQ8
      have KK9 : Keep h0 h5 [] := ((Keep.refl h0 []).trans K5 all0)
      have N8 := Fk.app N5 Nq8 KK9.1 all0
      rw [K8] at e8
      show Wp p e below _ _ T8 (mkF m 126 #[.val (.int p0), .val (.int p1), .val (.int p2), .val (.int p3), .val (.int p4), .val (.int p5), .val (.int (0 : Int32)), .val (.int zz2), .val (.int zz3), .val (.int zz4), .val (.ref x5), .val (.int (0 : Int32)), .val (.int (0 : Int32))] [(.int r8)])
      refine Wk.iload X8 hx (hb hby at_126) rfl rfl ?_
      refine Wk.icmpNo X8 hx (hb hby at_128) rfl (teq (by have hw_ := q8_0; simp [Wth, hc7] at hw_; exact hw_)).2 ?_
      refine Wk.iconst X8 hx (v := (1 : Int32)) (hb hby at_131) rfl rfl ?_
      refine Wk.goto X8 hx (hb hby at_132) (by decide) (q := 136) rfl ?_
      exact Wk.retZW X8 hx hS5 (Nat.le_refl _) hlk hr (by simp) (hb hby at_136) (by decide) (by decide) (Qc := Q_rm_law Z p0 p1 p2 p3 p4 p5 G1 h0) e8 (fun vm' hw' => ⟨rfl, N8, KK9⟩)
    · skip
      refine Wk.icmpNo X5 hx (hb hby at_100) rfl (flt hc7).1 ?_
      refine Wk.iload X5 hx (hb hby at_103) rfl rfl ?_
      refine Wk.iload X5 hx (hb hby at_105) rfl rfl ?_
      by_cases hc10 : p5 < (0 : Int32)
      · skip
        refine Wk.icmpYes X5 hx (hb hby at_107) (by decide) (q := 114) rfl (tlt hc10).2.2.1 ?_
        refine Wk.iconst X5 hx (v := (0 : Int32)) (hb hby at_114) rfl rfl ?_
        refine Wk.istore X5 hx (Ls' := #[.val (.int p0), .val (.int p1), .val (.int p2), .val (.int p3), .val (.int p4), .val (.int p5), .val (.int (0 : Int32)), .val (.int zz2), .val (.int zz3), .val (.int zz4), .val (.ref x5), .val (.int (0 : Int32)), .val (.int (0 : Int32))]) (hb hby at_115) rfl rfl ?_
        refine Wk.aload X5 hx (hb hby at_117) rfl rfl rfl ?_
        refine Wk.iload X5 hx (hb hby at_119) rfl rfl ?_
        refine Wk.iload X5 hx (hb hby at_121) rfl rfl ?_
        refine Wk.callS X5 hx hZ5 ho5 (w 30 _ rfl) (w 31 _ rfl) (w 32 _ rfl) (w 33 _ rfl) (by decide) (as' := [(.ref x5), (.int p4), (.int p5)]) (backOf (W := 0) (rm_wi00 l Z a0 hw [] x5 t5 kb5 G1 lb5 p4 p5 h5 O6 SG1 nG1 q5_0 q5_1 q5_2 q5_3) hZ5 (w 33 _ rfl) (w 32 _ rfl) (by decide) (by decide)) e5 (by rw [hml]; rfl) (rest := []) (lenOf pd27 rfl) rfl (Nat.le_of_eq rfl) (hb hby at_123) rfl (by decide) (by decide) ?_
        intro T11 h11 v11 L11 X11 e11 hQ11
        obtain ⟨r11, rfl, Nq11, K11, q11_0⟩ := hQ11
        have KK12 : Keep h0 h5 [] := ((Keep.refl h0 []).trans K5 all0)
        have N11 := Fk.app N5 Nq11 KK12.1 all0
        rw [K11] at e11
        show Wp p e below _ _ T11 (mkF m 126 #[.val (.int p0), .val (.int p1), .val (.int p2), .val (.int p3), .val (.int p4), .val (.int p5), .val (.int (0 : Int32)), .val (.int zz2), .val (.int zz3), .val (.int zz4), .val (.ref x5), .val (.int (0 : Int32)), .val (.int (0 : Int32))] [(.int r11)])
        refine Wk.iload X11 hx (hb hby at_126) rfl rfl ?_
        refine Wk.icmpNo X11 hx (hb hby at_128) rfl (teq (by have hw_ := q11_0; simp [Wth, hc7, hc10] at hw_; exact hw_)).2 ?_
        refine Wk.iconst X11 hx (v := (1 : Int32)) (hb hby at_131) rfl rfl ?_
        refine Wk.goto X11 hx (hb hby at_132) (by decide) (q := 136) rfl ?_
        exact Wk.retZW X11 hx hS5 (Nat.le_refl _) hlk hr (by simp) (hb hby at_136) (by decide) (by decide) (Qc := Q_rm_law Z p0 p1 p2 p3 p4 p5 G1 h0) e11 (fun vm' hw' => ⟨rfl, N11, KK12⟩)
      · skip
        refine Wk.icmpNo X5 hx (hb hby at_107) rfl (flt hc10).2.2.1 ?_
        refine Wk.iconst X5 hx (v := (1 : Int32)) (hb hby at_110) rfl rfl ?_
        refine Wk.goto X5 hx (hb hby at_111) (by decide) (q := 115) rfl ?_
        refine Wk.istore X5 hx (Ls' := #[.val (.int p0), .val (.int p1), .val (.int p2), .val (.int p3), .val (.int p4), .val (.int p5), .val (.int (0 : Int32)), .val (.int zz2), .val (.int zz3), .val (.int zz4), .val (.ref x5), .val (.int (0 : Int32)), .val (.int (1 : Int32))]) (hb hby at_115) rfl rfl ?_
        refine Wk.aload X5 hx (hb hby at_117) rfl rfl rfl ?_
        refine Wk.iload X5 hx (hb hby at_119) rfl rfl ?_
        refine Wk.iload X5 hx (hb hby at_121) rfl rfl ?_
        refine Wk.callS X5 hx hZ5 ho5 (w 30 _ rfl) (w 31 _ rfl) (w 32 _ rfl) (w 33 _ rfl) (by decide) (as' := [(.ref x5), (.int p4), (.int p5)]) (backOf (W := 0) (rm_wi00 l Z a0 hw [] x5 t5 kb5 G1 lb5 p4 p5 h5 O6 SG1 nG1 q5_0 q5_1 q5_2 q5_3) hZ5 (w 33 _ rfl) (w 32 _ rfl) (by decide) (by decide)) e5 (by rw [hml]; rfl) (rest := []) (lenOf pd27 rfl) rfl (Nat.le_of_eq rfl) (hb hby at_123) rfl (by decide) (by decide) ?_
        intro T13 h13 v13 L13 X13 e13 hQ13
        obtain ⟨r13, rfl, Nq13, K13, q13_0⟩ := hQ13
        have KK14 : Keep h0 h5 [] := ((Keep.refl h0 []).trans K5 all0)
        have N13 := Fk.app N5 Nq13 KK14.1 all0
        rw [K13] at e13
        show Wp p e below _ _ T13 (mkF m 126 #[.val (.int p0), .val (.int p1), .val (.int p2), .val (.int p3), .val (.int p4), .val (.int p5), .val (.int (0 : Int32)), .val (.int zz2), .val (.int zz3), .val (.int zz4), .val (.ref x5), .val (.int (0 : Int32)), .val (.int (1 : Int32))] [(.int r13)])
        refine Wk.iload X13 hx (hb hby at_126) rfl rfl ?_
        refine Wk.icmpNo X13 hx (hb hby at_128) rfl (teq (by have hw_ := q13_0; simp [Wth, hc7, hc10] at hw_; exact hw_)).2 ?_
        refine Wk.iconst X13 hx (v := (1 : Int32)) (hb hby at_131) rfl rfl ?_
        refine Wk.goto X13 hx (hb hby at_132) (by decide) (q := 136) rfl ?_
        exact Wk.retZW X13 hx hS5 (Nat.le_refl _) hlk hr (by simp) (hb hby at_136) (by decide) (by decide) (Qc := Q_rm_law Z p0 p1 p2 p3 p4 p5 G1 h0) e13 (fun vm' hw' => ⟨rfl, N13, KK14⟩)
  · skip
    by_cases hg15 : (255 : Int32) < zz2
    · skip
      refine Wk.callS X4 hx hZ hown (w 5 _ rfl) (w 6 _ rfl) (w 2 _ rfl) (w 7 _ rfl) (by decide) (as' := [(.int (1 : Int32)), (.int zz2), (.int zz3), (.int zz4)]) (backOf (W := 0) (rm_mk10 l Z a0 hw [] zz2 zz3 zz4 G1 h0 O0 sH sL sA SG1 nG1 q2_0 hg15) hZ (w 7 _ rfl) (w 2 _ rfl) (by decide) (by decide)) e4 (by rw [hml]; rfl) (rest := []) (lenOf pd26 rfl) rfl (Nat.le_of_eq rfl) (hb hby at_31) rfl (by decide) (by decide) ?_
      intro T16 h16 v16 L16 X16 e16 hQ16
      obtain ⟨x16, t16, kb16, rfl, Nq16, K16, q16_0, q16_1, q16_2, q16_3⟩ := hQ16
      have N16 := Fk.app N4 Nq16 (Nat.le_refl _) all0
      have O17 : Old Z Z.heap.size h16 := O0.keep K16 all0
      show Wp p e below _ _ T16 (mkF m 34 #[.val (.int p0), .val (.int p1), .val (.int p2), .val (.int p3), .val (.int p4), .val (.int p5), .val (.int (1 : Int32)), .val (.int zz2), .val (.int zz3), .val (.int zz4), .unset, .unset, .unset] [(.ref x16)])
      refine Wk.astore X16 hx (Ls' := #[.val (.int p0), .val (.int p1), .val (.int p2), .val (.int p3), .val (.int p4), .val (.int p5), .val (.int (1 : Int32)), .val (.int zz2), .val (.int zz3), .val (.int zz4), .val (.ref x16), .unset, .unset]) (hb hby at_34) rfl rfl rfl ?_
      refine Wk.iload X16 hx (hb hby at_36) rfl rfl ?_
      refine Wk.istore X16 hx (Ls' := #[.val (.int p0), .val (.int p1), .val (.int p2), .val (.int p3), .val (.int p4), .val (.int p5), .val (.int (1 : Int32)), .val (.int zz2), .val (.int zz3), .val (.int zz4), .val (.ref x16), .val (.int (1 : Int32)), .unset]) (hb hby at_38) rfl rfl ?_
      refine Wk.iload X16 hx (hb hby at_40) rfl rfl ?_
      refine Wk.iconst X16 hx (v := (2 : Int32)) (hb hby at_42) rfl rfl ?_
      refine Wk.icmpYes X16 hx (hb hby at_43) (by decide) (q := 68) rfl (tlt (by decide : (1 : Int32) < (2 : Int32))).1 ?_
      refine Wk.iload X16 hx (hb hby at_68) rfl rfl ?_
      refine Wk.iconst X16 hx (v := (3 : Int32)) (hb hby at_70) rfl rfl ?_
      refine Wk.icmpYes X16 hx (hb hby at_71) (by decide) (q := 96) rfl (tlt (by decide : (1 : Int32) < (3 : Int32))).1 ?_
      refine Wk.iload X16 hx (hb hby at_96) rfl rfl ?_
      refine Wk.iload X16 hx (hb hby at_98) rfl rfl ?_
      by_cases hc18 : (1 : Int32) < p4
      · skip
        refine Wk.icmpYes X16 hx (hb hby at_100) (by decide) (q := 114) rfl (tlt hc18).1 ?_
        refine Wk.iconst X16 hx (v := (0 : Int32)) (hb hby at_114) rfl rfl ?_
        refine Wk.istore X16 hx (Ls' := #[.val (.int p0), .val (.int p1), .val (.int p2), .val (.int p3), .val (.int p4), .val (.int p5), .val (.int (1 : Int32)), .val (.int zz2), .val (.int zz3), .val (.int zz4), .val (.ref x16), .val (.int (1 : Int32)), .val (.int (0 : Int32))]) (hb hby at_115) rfl rfl ?_
        refine Wk.aload X16 hx (hb hby at_117) rfl rfl rfl ?_
        refine Wk.iload X16 hx (hb hby at_119) rfl rfl ?_
        refine Wk.iload X16 hx (hb hby at_121) rfl rfl ?_
        refine Wk.callS X16 hx hZ hown (w 30 _ rfl) (w 31 _ rfl) (w 32 _ rfl) (w 33 _ rfl) (by decide) (as' := [(.ref x16), (.int p4), (.int p5)]) (backOf (W := 0) (rm_wi11 l Z a0 hw [] x16 t16 kb16 G1 zz2 p4 p5 h16 O17 sH sL sA SG1 nG1 q16_0 q16_1 q16_2 q16_3 q2_0) hZ (w 33 _ rfl) (w 32 _ rfl) (by decide) (by decide)) e16 (by rw [hml]; rfl) (rest := []) (lenOf pd27 rfl) rfl (Nat.le_of_eq rfl) (hb hby at_123) rfl (by decide) (by decide) ?_
        intro T19 h19 v19 L19 X19 e19 hQ19
        obtain ⟨r19, rfl, Nq19, K19, q19_0⟩ := hQ19
        have KK20 : Keep h0 h16 [] := ((Keep.refl h0 []).trans K16 all0)
        have N19 := Fk.app N16 Nq19 KK20.1 all0
        rw [K19] at e19
        show Wp p e below _ _ T19 (mkF m 126 #[.val (.int p0), .val (.int p1), .val (.int p2), .val (.int p3), .val (.int p4), .val (.int p5), .val (.int (1 : Int32)), .val (.int zz2), .val (.int zz3), .val (.int zz4), .val (.ref x16), .val (.int (1 : Int32)), .val (.int (0 : Int32))] [(.int r19)])
        refine Wk.iload X19 hx (hb hby at_126) rfl rfl ?_
        refine Wk.icmpNo X19 hx (hb hby at_128) rfl (teq (by obtain ⟨q_, hq_, hw_⟩ := q19_0; obtain rfl : q_ = (1 : Int32) := Cnt1.uniq hq_ (show Cnt1 zz2 (1 : Int32) from by simp [Cnt1]); simp [Wth, hc18] at hw_; exact hw_)).2 ?_
        refine Wk.iconst X19 hx (v := (1 : Int32)) (hb hby at_131) rfl rfl ?_
        refine Wk.goto X19 hx (hb hby at_132) (by decide) (q := 136) rfl ?_
        exact Wk.retZW X19 hx hS (Nat.le_trans (Nat.le_refl _) KK20.1) hlk hr (by simp) (hb hby at_136) (by decide) (by decide) (Qc := Q_rm_law Z p0 p1 p2 p3 p4 p5 G1 h0) e19 (fun vm' hw' => ⟨rfl, N19, KK20⟩)
      · skip
        refine Wk.icmpNo X16 hx (hb hby at_100) rfl (flt hc18).1 ?_
        refine Wk.iload X16 hx (hb hby at_103) rfl rfl ?_
        refine Wk.iload X16 hx (hb hby at_105) rfl rfl ?_
        by_cases hc21 : p5 < (1 : Int32)
        · skip
          refine Wk.icmpYes X16 hx (hb hby at_107) (by decide) (q := 114) rfl (tlt hc21).2.2.1 ?_
          refine Wk.iconst X16 hx (v := (0 : Int32)) (hb hby at_114) rfl rfl ?_
          refine Wk.istore X16 hx (Ls' := #[.val (.int p0), .val (.int p1), .val (.int p2), .val (.int p3), .val (.int p4), .val (.int p5), .val (.int (1 : Int32)), .val (.int zz2), .val (.int zz3), .val (.int zz4), .val (.ref x16), .val (.int (1 : Int32)), .val (.int (0 : Int32))]) (hb hby at_115) rfl rfl ?_
          refine Wk.aload X16 hx (hb hby at_117) rfl rfl rfl ?_
          refine Wk.iload X16 hx (hb hby at_119) rfl rfl ?_
          refine Wk.iload X16 hx (hb hby at_121) rfl rfl ?_
          refine Wk.callS X16 hx hZ hown (w 30 _ rfl) (w 31 _ rfl) (w 32 _ rfl) (w 33 _ rfl) (by decide) (as' := [(.ref x16), (.int p4), (.int p5)]) (backOf (W := 0) (rm_wi11 l Z a0 hw [] x16 t16 kb16 G1 zz2 p4 p5 h16 O17 sH sL sA SG1 nG1 q16_0 q16_1 q16_2 q16_3 q2_0) hZ (w 33 _ rfl) (w 32 _ rfl) (by decide) (by decide)) e16 (by rw [hml]; rfl) (rest := []) (lenOf pd27 rfl) rfl (Nat.le_of_eq rfl) (hb hby at_123) rfl (by decide) (by decide) ?_
          intro T22 h22 v22 L22 X22 e22 hQ22
          obtain ⟨r22, rfl, Nq22, K22, q22_0⟩ := hQ22
          have KK23 : Keep h0 h16 [] := ((Keep.refl h0 []).trans K16 all0)
          have N22 := Fk.app N16 Nq22 KK23.1 all0
          rw [K22] at e22
          show Wp p e below _ _ T22 (mkF m 126 #[.val (.int p0), .val (.int p1), .val (.int p2), .val (.int p3), .val (.int p4), .val (.int p5), .val (.int (1 : Int32)), .val (.int zz2), .val (.int zz3), .val (.int zz4), .val (.ref x16), .val (.int (1 : Int32)), .val (.int (0 : Int32))] [(.int r22)])
          refine Wk.iload X22 hx (hb hby at_126) rfl rfl ?_
          refine Wk.icmpNo X22 hx (hb hby at_128) rfl (teq (by obtain ⟨q_, hq_, hw_⟩ := q22_0; obtain rfl : q_ = (1 : Int32) := Cnt1.uniq hq_ (show Cnt1 zz2 (1 : Int32) from by simp [Cnt1]); simp [Wth, hc18, hc21] at hw_; exact hw_)).2 ?_
          refine Wk.iconst X22 hx (v := (1 : Int32)) (hb hby at_131) rfl rfl ?_
          refine Wk.goto X22 hx (hb hby at_132) (by decide) (q := 136) rfl ?_
          exact Wk.retZW X22 hx hS (Nat.le_trans (Nat.le_refl _) KK23.1) hlk hr (by simp) (hb hby at_136) (by decide) (by decide) (Qc := Q_rm_law Z p0 p1 p2 p3 p4 p5 G1 h0) e22 (fun vm' hw' => ⟨rfl, N22, KK23⟩)
        · skip
          refine Wk.icmpNo X16 hx (hb hby at_107) rfl (flt hc21).2.2.1 ?_
          refine Wk.iconst X16 hx (v := (1 : Int32)) (hb hby at_110) rfl rfl ?_
          refine Wk.goto X16 hx (hb hby at_111) (by decide) (q := 115) rfl ?_
          refine Wk.istore X16 hx (Ls' := #[.val (.int p0), .val (.int p1), .val (.int p2), .val (.int p3), .val (.int p4), .val (.int p5), .val (.int (1 : Int32)), .val (.int zz2), .val (.int zz3), .val (.int zz4), .val (.ref x16), .val (.int (1 : Int32)), .val (.int (1 : Int32))]) (hb hby at_115) rfl rfl ?_
          refine Wk.aload X16 hx (hb hby at_117) rfl rfl rfl ?_
          refine Wk.iload X16 hx (hb hby at_119) rfl rfl ?_
          refine Wk.iload X16 hx (hb hby at_121) rfl rfl ?_
          refine Wk.callS X16 hx hZ hown (w 30 _ rfl) (w 31 _ rfl) (w 32 _ rfl) (w 33 _ rfl) (by decide) (as' := [(.ref x16), (.int p4), (.int p5)]) (backOf (W := 0) (rm_wi11 l Z a0 hw [] x16 t16 kb16 G1 zz2 p4 p5 h16 O17 sH sL sA SG1 nG1 q16_0 q16_1 q16_2 q16_3 q2_0) hZ (w 33 _ rfl) (w 32 _ rfl) (by decide) (by decide)) e16 (by rw [hml]; rfl) (rest := []) (lenOf pd27 rfl) rfl (Nat.le_of_eq rfl) (hb hby at_123) rfl (by decide) (by decide) ?_
          intro T24 h24 v24 L24 X24 e24 hQ24
          obtain ⟨r24, rfl, Nq24, K24, q24_0⟩ := hQ24
          have KK25 : Keep h0 h16 [] := ((Keep.refl h0 []).trans K16 all0)
          have N24 := Fk.app N16 Nq24 KK25.1 all0
          rw [K24] at e24
          show Wp p e below _ _ T24 (mkF m 126 #[.val (.int p0), .val (.int p1), .val (.int p2), .val (.int p3), .val (.int p4), .val (.int p5), .val (.int (1 : Int32)), .val (.int zz2), .val (.int zz3), .val (.int zz4), .val (.ref x16), .val (.int (1 : Int32)), .val (.int (1 : Int32))] [(.int r24)])
          refine Wk.iload X24 hx (hb hby at_126) rfl rfl ?_
          refine Wk.icmpNo X24 hx (hb hby at_128) rfl (teq (by obtain ⟨q_, hq_, hw_⟩ := q24_0; obtain rfl : q_ = (1 : Int32) := Cnt1.uniq hq_ (show Cnt1 zz2 (1 : Int32) from by simp [Cnt1]); simp [Wth, hc18, hc21] at hw_; exact hw_)).2 ?_
          refine Wk.iconst X24 hx (v := (1 : Int32)) (hb hby at_131) rfl rfl ?_
          refine Wk.goto X24 hx (hb hby at_132) (by decide) (q := 136) rfl ?_
          exact Wk.retZW X24 hx hS (Nat.le_trans (Nat.le_refl _) KK25.1) hlk hr (by simp) (hb hby at_136) (by decide) (by decide) (Qc := Q_rm_law Z p0 p1 p2 p3 p4 p5 G1 h0) e24 (fun vm' hw' => ⟨rfl, N24, KK25⟩)
    · skip
      have Ltzz2 : Lat zz2 := ⟨q2_0.1, hg15⟩
      refine Wk.callS X4 hx hZ hown (w 5 _ rfl) (w 6 _ rfl) (w 2 _ rfl) (w 7 _ rfl) (by decide) (as' := [(.int (1 : Int32)), (.int zz2), (.int zz3), (.int zz4)]) (backOf (W := 0) (rm_mk1L l Z a0 hw [] zz2 zz3 zz4 G1 h0 O0 SG1 nG1 Ltzz2) hZ (w 7 _ rfl) (w 2 _ rfl) (by decide) (by decide)) e4 (by rw [hml]; rfl) (rest := []) (lenOf pd26 rfl) rfl (Nat.le_of_eq rfl) (hb hby at_31) rfl (by decide) (by decide) ?_
      intro T26 h26 v26 L26 X26 e26 hQ26
      obtain ⟨x26, t26, kb26, lb26, rfl, Nq26, K26, q26_0, q26_1, q26_2, q26_3⟩ := hQ26
      have N26 := Fk.app N4 Nq26 (Nat.le_refl _) all0
      have O27 : Old Z Z.heap.size h26 := O0.keep K26 all0
      show Wp p e below _ _ T26 (mkF m 34 #[.val (.int p0), .val (.int p1), .val (.int p2), .val (.int p3), .val (.int p4), .val (.int p5), .val (.int (1 : Int32)), .val (.int zz2), .val (.int zz3), .val (.int zz4), .unset, .unset, .unset] [(.ref x26)])
      refine Wk.astore X26 hx (Ls' := #[.val (.int p0), .val (.int p1), .val (.int p2), .val (.int p3), .val (.int p4), .val (.int p5), .val (.int (1 : Int32)), .val (.int zz2), .val (.int zz3), .val (.int zz4), .val (.ref x26), .unset, .unset]) (hb hby at_34) rfl rfl rfl ?_
      refine Wk.iload X26 hx (hb hby at_36) rfl rfl ?_
      refine Wk.istore X26 hx (Ls' := #[.val (.int p0), .val (.int p1), .val (.int p2), .val (.int p3), .val (.int p4), .val (.int p5), .val (.int (1 : Int32)), .val (.int zz2), .val (.int zz3), .val (.int zz4), .val (.ref x26), .val (.int (1 : Int32)), .unset]) (hb hby at_38) rfl rfl ?_
      refine Wk.iload X26 hx (hb hby at_40) rfl rfl ?_
      refine Wk.iconst X26 hx (v := (2 : Int32)) (hb hby at_42) rfl rfl ?_
      refine Wk.icmpYes X26 hx (hb hby at_43) (by decide) (q := 68) rfl (tlt (by decide : (1 : Int32) < (2 : Int32))).1 ?_
      refine Wk.iload X26 hx (hb hby at_68) rfl rfl ?_
      refine Wk.iconst X26 hx (v := (3 : Int32)) (hb hby at_70) rfl rfl ?_
      refine Wk.icmpYes X26 hx (hb hby at_71) (by decide) (q := 96) rfl (tlt (by decide : (1 : Int32) < (3 : Int32))).1 ?_
      refine Wk.iload X26 hx (hb hby at_96) rfl rfl ?_
      refine Wk.iload X26 hx (hb hby at_98) rfl rfl ?_
      by_cases hc28 : (1 : Int32) < p4
      · skip
        refine Wk.icmpYes X26 hx (hb hby at_100) (by decide) (q := 114) rfl (tlt hc28).1 ?_
        refine Wk.iconst X26 hx (v := (0 : Int32)) (hb hby at_114) rfl rfl ?_
        refine Wk.istore X26 hx (Ls' := #[.val (.int p0), .val (.int p1), .val (.int p2), .val (.int p3), .val (.int p4), .val (.int p5), .val (.int (1 : Int32)), .val (.int zz2), .val (.int zz3), .val (.int zz4), .val (.ref x26), .val (.int (1 : Int32)), .val (.int (0 : Int32))]) (hb hby at_115) rfl rfl ?_
        refine Wk.aload X26 hx (hb hby at_117) rfl rfl rfl ?_
        refine Wk.iload X26 hx (hb hby at_119) rfl rfl ?_
        refine Wk.iload X26 hx (hb hby at_121) rfl rfl ?_
        refine Wk.callS X26 hx hZ hown (w 30 _ rfl) (w 31 _ rfl) (w 32 _ rfl) (w 33 _ rfl) (by decide) (as' := [(.ref x26), (.int p4), (.int p5)]) (backOf (W := 0) (rm_wi10 l Z a0 hw [] x26 t26 kb26 G1 lb26 p4 p5 h26 O27 SG1 nG1 q26_0 q26_1 q26_2 q26_3) hZ (w 33 _ rfl) (w 32 _ rfl) (by decide) (by decide)) e26 (by rw [hml]; rfl) (rest := []) (lenOf pd27 rfl) rfl (Nat.le_of_eq rfl) (hb hby at_123) rfl (by decide) (by decide) ?_
        intro T29 h29 v29 L29 X29 e29 hQ29
        obtain ⟨r29, rfl, Nq29, K29, q29_0⟩ := hQ29
        have KK30 : Keep h0 h26 [] := ((Keep.refl h0 []).trans K26 all0)
        have N29 := Fk.app N26 Nq29 KK30.1 all0
        rw [K29] at e29
        show Wp p e below _ _ T29 (mkF m 126 #[.val (.int p0), .val (.int p1), .val (.int p2), .val (.int p3), .val (.int p4), .val (.int p5), .val (.int (1 : Int32)), .val (.int zz2), .val (.int zz3), .val (.int zz4), .val (.ref x26), .val (.int (1 : Int32)), .val (.int (0 : Int32))] [(.int r29)])
        refine Wk.iload X29 hx (hb hby at_126) rfl rfl ?_
        refine Wk.icmpNo X29 hx (hb hby at_128) rfl (teq (by have hw_ := q29_0; simp [Wth, hc28] at hw_; exact hw_)).2 ?_
        refine Wk.iconst X29 hx (v := (1 : Int32)) (hb hby at_131) rfl rfl ?_
        refine Wk.goto X29 hx (hb hby at_132) (by decide) (q := 136) rfl ?_
        exact Wk.retZW X29 hx hS (Nat.le_trans (Nat.le_refl _) KK30.1) hlk hr (by simp) (hb hby at_136) (by decide) (by decide) (Qc := Q_rm_law Z p0 p1 p2 p3 p4 p5 G1 h0) e29 (fun vm' hw' => ⟨rfl, N29, KK30⟩)
      · skip
        refine Wk.icmpNo X26 hx (hb hby at_100) rfl (flt hc28).1 ?_
        refine Wk.iload X26 hx (hb hby at_103) rfl rfl ?_
        refine Wk.iload X26 hx (hb hby at_105) rfl rfl ?_
        by_cases hc31 : p5 < (1 : Int32)
        · skip
          refine Wk.icmpYes X26 hx (hb hby at_107) (by decide) (q := 114) rfl (tlt hc31).2.2.1 ?_
          refine Wk.iconst X26 hx (v := (0 : Int32)) (hb hby at_114) rfl rfl ?_
          refine Wk.istore X26 hx (Ls' := #[.val (.int p0), .val (.int p1), .val (.int p2), .val (.int p3), .val (.int p4), .val (.int p5), .val (.int (1 : Int32)), .val (.int zz2), .val (.int zz3), .val (.int zz4), .val (.ref x26), .val (.int (1 : Int32)), .val (.int (0 : Int32))]) (hb hby at_115) rfl rfl ?_
          refine Wk.aload X26 hx (hb hby at_117) rfl rfl rfl ?_
          refine Wk.iload X26 hx (hb hby at_119) rfl rfl ?_
          refine Wk.iload X26 hx (hb hby at_121) rfl rfl ?_
          refine Wk.callS X26 hx hZ hown (w 30 _ rfl) (w 31 _ rfl) (w 32 _ rfl) (w 33 _ rfl) (by decide) (as' := [(.ref x26), (.int p4), (.int p5)]) (backOf (W := 0) (rm_wi10 l Z a0 hw [] x26 t26 kb26 G1 lb26 p4 p5 h26 O27 SG1 nG1 q26_0 q26_1 q26_2 q26_3) hZ (w 33 _ rfl) (w 32 _ rfl) (by decide) (by decide)) e26 (by rw [hml]; rfl) (rest := []) (lenOf pd27 rfl) rfl (Nat.le_of_eq rfl) (hb hby at_123) rfl (by decide) (by decide) ?_
          intro T32 h32 v32 L32 X32 e32 hQ32
          obtain ⟨r32, rfl, Nq32, K32, q32_0⟩ := hQ32
          have KK33 : Keep h0 h26 [] := ((Keep.refl h0 []).trans K26 all0)
          have N32 := Fk.app N26 Nq32 KK33.1 all0
          rw [K32] at e32
          show Wp p e below _ _ T32 (mkF m 126 #[.val (.int p0), .val (.int p1), .val (.int p2), .val (.int p3), .val (.int p4), .val (.int p5), .val (.int (1 : Int32)), .val (.int zz2), .val (.int zz3), .val (.int zz4), .val (.ref x26), .val (.int (1 : Int32)), .val (.int (0 : Int32))] [(.int r32)])
          refine Wk.iload X32 hx (hb hby at_126) rfl rfl ?_
          refine Wk.icmpNo X32 hx (hb hby at_128) rfl (teq (by have hw_ := q32_0; simp [Wth, hc28, hc31] at hw_; exact hw_)).2 ?_
          refine Wk.iconst X32 hx (v := (1 : Int32)) (hb hby at_131) rfl rfl ?_
          refine Wk.goto X32 hx (hb hby at_132) (by decide) (q := 136) rfl ?_
          exact Wk.retZW X32 hx hS (Nat.le_trans (Nat.le_refl _) KK33.1) hlk hr (by simp) (hb hby at_136) (by decide) (by decide) (Qc := Q_rm_law Z p0 p1 p2 p3 p4 p5 G1 h0) e32 (fun vm' hw' => ⟨rfl, N32, KK33⟩)
        · skip
          refine Wk.icmpNo X26 hx (hb hby at_107) rfl (flt hc31).2.2.1 ?_
          refine Wk.iconst X26 hx (v := (1 : Int32)) (hb hby at_110) rfl rfl ?_
          refine Wk.goto X26 hx (hb hby at_111) (by decide) (q := 115) rfl ?_
          refine Wk.istore X26 hx (Ls' := #[.val (.int p0), .val (.int p1), .val (.int p2), .val (.int p3), .val (.int p4), .val (.int p5), .val (.int (1 : Int32)), .val (.int zz2), .val (.int zz3), .val (.int zz4), .val (.ref x26), .val (.int (1 : Int32)), .val (.int (1 : Int32))]) (hb hby at_115) rfl rfl ?_
          refine Wk.aload X26 hx (hb hby at_117) rfl rfl rfl ?_
          refine Wk.iload X26 hx (hb hby at_119) rfl rfl ?_
          refine Wk.iload X26 hx (hb hby at_121) rfl rfl ?_
          refine Wk.callS X26 hx hZ hown (w 30 _ rfl) (w 31 _ rfl) (w 32 _ rfl) (w 33 _ rfl) (by decide) (as' := [(.ref x26), (.int p4), (.int p5)]) (backOf (W := 0) (rm_wi10 l Z a0 hw [] x26 t26 kb26 G1 lb26 p4 p5 h26 O27 SG1 nG1 q26_0 q26_1 q26_2 q26_3) hZ (w 33 _ rfl) (w 32 _ rfl) (by decide) (by decide)) e26 (by rw [hml]; rfl) (rest := []) (lenOf pd27 rfl) rfl (Nat.le_of_eq rfl) (hb hby at_123) rfl (by decide) (by decide) ?_
          intro T34 h34 v34 L34 X34 e34 hQ34
          obtain ⟨r34, rfl, Nq34, K34, q34_0⟩ := hQ34
          have KK35 : Keep h0 h26 [] := ((Keep.refl h0 []).trans K26 all0)
          have N34 := Fk.app N26 Nq34 KK35.1 all0
          rw [K34] at e34
          show Wp p e below _ _ T34 (mkF m 126 #[.val (.int p0), .val (.int p1), .val (.int p2), .val (.int p3), .val (.int p4), .val (.int p5), .val (.int (1 : Int32)), .val (.int zz2), .val (.int zz3), .val (.int zz4), .val (.ref x26), .val (.int (1 : Int32)), .val (.int (1 : Int32))] [(.int r34)])
          refine Wk.iload X34 hx (hb hby at_126) rfl rfl ?_
          refine Wk.icmpNo X34 hx (hb hby at_128) rfl (teq (by have hw_ := q34_0; simp [Wth, hc28, hc31] at hw_; exact hw_)).2 ?_
          refine Wk.iconst X34 hx (v := (1 : Int32)) (hb hby at_131) rfl rfl ?_
          refine Wk.goto X34 hx (hb hby at_132) (by decide) (q := 136) rfl ?_
          exact Wk.retZW X34 hx hS (Nat.le_trans (Nat.le_refl _) KK35.1) hlk hr (by simp) (hb hby at_136) (by decide) (by decide) (Qc := Q_rm_law Z p0 p1 p2 p3 p4 p5 G1 h0) e34 (fun vm' hw' => ⟨rfl, N34, KK35⟩)
  · skip
    by_cases hg36 : (255 : Int32) < zz2
    · skip
      refine Wk.callS X4 hx hZ hown (w 5 _ rfl) (w 6 _ rfl) (w 2 _ rfl) (w 7 _ rfl) (by decide) (as' := [(.int (2 : Int32)), (.int zz2), (.int zz3), (.int zz4)]) (backOf (W := 0) (rm_mk20 l Z a0 hw [] zz2 zz3 zz4 G1 h0 O0 sH sL sA SG1 nG1 q2_0 q3_0 hg36) hZ (w 7 _ rfl) (w 2 _ rfl) (by decide) (by decide)) e4 (by rw [hml]; rfl) (rest := []) (lenOf pd26 rfl) rfl (Nat.le_of_eq rfl) (hb hby at_31) rfl (by decide) (by decide) ?_
      intro T37 h37 v37 L37 X37 e37 hQ37
      obtain ⟨x37, t37, kb37, rfl, Nq37, K37, q37_0, q37_1, q37_2, q37_3⟩ := hQ37
      have N37 := Fk.app N4 Nq37 (Nat.le_refl _) all0
      have O38 : Old Z Z.heap.size h37 := O0.keep K37 all0
      show Wp p e below _ _ T37 (mkF m 34 #[.val (.int p0), .val (.int p1), .val (.int p2), .val (.int p3), .val (.int p4), .val (.int p5), .val (.int (2 : Int32)), .val (.int zz2), .val (.int zz3), .val (.int zz4), .unset, .unset, .unset] [(.ref x37)])
      refine Wk.astore X37 hx (Ls' := #[.val (.int p0), .val (.int p1), .val (.int p2), .val (.int p3), .val (.int p4), .val (.int p5), .val (.int (2 : Int32)), .val (.int zz2), .val (.int zz3), .val (.int zz4), .val (.ref x37), .unset, .unset]) (hb hby at_34) rfl rfl rfl ?_
      refine Wk.iload X37 hx (hb hby at_36) rfl rfl ?_
      refine Wk.istore X37 hx (Ls' := #[.val (.int p0), .val (.int p1), .val (.int p2), .val (.int p3), .val (.int p4), .val (.int p5), .val (.int (2 : Int32)), .val (.int zz2), .val (.int zz3), .val (.int zz4), .val (.ref x37), .val (.int (2 : Int32)), .unset]) (hb hby at_38) rfl rfl ?_
      refine Wk.iload X37 hx (hb hby at_40) rfl rfl ?_
      refine Wk.iconst X37 hx (v := (2 : Int32)) (hb hby at_42) rfl rfl ?_
      refine Wk.icmpNo X37 hx (hb hby at_43) rfl (flt (by decide : ¬ ((2 : Int32) < (2 : Int32)))).1 ?_
      refine Wk.iload X37 hx (hb hby at_46) rfl rfl ?_
      refine Wk.callS X37 hx hZ hown (w 95 _ rfl) (w 96 _ rfl) (w 2 _ rfl) (w 97 _ rfl) (by decide) (as' := [(.int zz2)]) (backOf (W := 0) (rm_lhi l Z a0 hw [] zz2 h37 O38) hZ (w 97 _ rfl) (w 2 _ rfl) (by decide) (by decide)) e37 (by rw [hml]; rfl) (rest := []) (lenOf pd14 rfl) rfl (Nat.le_of_eq rfl) (hb hby at_48) rfl (by decide) (by decide) ?_
      intro T39 h39 v39 L39 X39 e39 hQ39
      obtain ⟨r39, rfl, Nq39, K39, q39_0⟩ := hQ39
      have KK40 : Keep h0 h37 [] := ((Keep.refl h0 []).trans K37 all0)
      have N39 := Fk.app N37 Nq39 KK40.1 all0
      rw [K39] at e39
      show Wp p e below _ _ T39 (mkF m 51 #[.val (.int p0), .val (.int p1), .val (.int p2), .val (.int p3), .val (.int p4), .val (.int p5), .val (.int (2 : Int32)), .val (.int zz2), .val (.int zz3), .val (.int zz4), .val (.ref x37), .val (.int (2 : Int32)), .unset] [(.int r39)])
      rcases q39_0 with ⟨rfl, hh41⟩ | ⟨rfl, hh41⟩
      · skip
        refine Wk.ifNo X39 hx (hb hby at_51) rfl ((if0 _ _).trans (feq (by decide : ¬ ((1 : Int32) = (0 : Int32)))).1) ?_
        refine Wk.iload X39 hx (hb hby at_54) rfl rfl ?_
        refine Wk.callS X39 hx hZ hown (w 110 _ rfl) (w 111 _ rfl) (w 2 _ rfl) (w 112 _ rfl) (by decide) (as' := [(.int zz3)]) (backOf (W := 0) (rm_llo l Z a0 hw [] zz3 h37 O38) hZ (w 112 _ rfl) (w 2 _ rfl) (by decide) (by decide)) e39 (by rw [hml]; rfl) (rest := []) (lenOf pd14 rfl) rfl (Nat.le_of_eq rfl) (hb hby at_56) rfl (by decide) (by decide) ?_
        intro T42 h42 v42 L42 X42 e42 hQ42
        obtain ⟨r42, rfl, Nq42, K42, q42_0⟩ := hQ42
        have N42 := Fk.app N39 Nq42 KK40.1 all0
        rw [K42] at e42
        show Wp p e below _ _ T42 (mkF m 59 #[.val (.int p0), .val (.int p1), .val (.int p2), .val (.int p3), .val (.int p4), .val (.int p5), .val (.int (2 : Int32)), .val (.int zz2), .val (.int zz3), .val (.int zz4), .val (.ref x37), .val (.int (2 : Int32)), .unset] [(.int r42)])
        rcases q42_0 with ⟨rfl, hh43⟩ | ⟨rfl, hh43⟩
        · skip
          refine Wk.ifNo X42 hx (hb hby at_59) rfl ((if0 _ _).trans (feq (by decide : ¬ ((1 : Int32) = (0 : Int32)))).1) ?_
          refine Wk.iload X42 hx (hb hby at_62) rfl rfl ?_
          refine Wk.iconst X42 hx (v := (1 : Int32)) (hb hby at_64) rfl rfl ?_
          refine Wk.isub X42 hx (hb hby at_65) rfl ?_
          rw [(by decide : (((2 : Int32) - (1 : Int32)) : Int32) = (1 : Int32))]
          refine Wk.istore X42 hx (Ls' := #[.val (.int p0), .val (.int p1), .val (.int p2), .val (.int p3), .val (.int p4), .val (.int p5), .val (.int (2 : Int32)), .val (.int zz2), .val (.int zz3), .val (.int zz4), .val (.ref x37), .val (.int (1 : Int32)), .unset]) (hb hby at_66) rfl rfl ?_
          refine Wk.iload X42 hx (hb hby at_68) rfl rfl ?_
          refine Wk.iconst X42 hx (v := (3 : Int32)) (hb hby at_70) rfl rfl ?_
          refine Wk.icmpYes X42 hx (hb hby at_71) (by decide) (q := 96) rfl (tlt (by decide : (2 : Int32) < (3 : Int32))).1 ?_
          refine Wk.iload X42 hx (hb hby at_96) rfl rfl ?_
          refine Wk.iload X42 hx (hb hby at_98) rfl rfl ?_
          by_cases hc44 : (1 : Int32) < p4
          · skip
            refine Wk.icmpYes X42 hx (hb hby at_100) (by decide) (q := 114) rfl (tlt hc44).1 ?_
            refine Wk.iconst X42 hx (v := (0 : Int32)) (hb hby at_114) rfl rfl ?_
            refine Wk.istore X42 hx (Ls' := #[.val (.int p0), .val (.int p1), .val (.int p2), .val (.int p3), .val (.int p4), .val (.int p5), .val (.int (2 : Int32)), .val (.int zz2), .val (.int zz3), .val (.int zz4), .val (.ref x37), .val (.int (1 : Int32)), .val (.int (0 : Int32))]) (hb hby at_115) rfl rfl ?_
            refine Wk.aload X42 hx (hb hby at_117) rfl rfl rfl ?_
            refine Wk.iload X42 hx (hb hby at_119) rfl rfl ?_
            refine Wk.iload X42 hx (hb hby at_121) rfl rfl ?_
            refine Wk.callS X42 hx hZ hown (w 30 _ rfl) (w 31 _ rfl) (w 32 _ rfl) (w 33 _ rfl) (by decide) (as' := [(.ref x37), (.int p4), (.int p5)]) (backOf (W := 0) (rm_wi21 l Z a0 hw [] x37 t37 kb37 G1 zz2 zz3 p4 p5 h37 O38 sH sL sA SG1 nG1 q37_0 q37_1 q37_2 q37_3 q2_0 q3_0) hZ (w 33 _ rfl) (w 32 _ rfl) (by decide) (by decide)) e42 (by rw [hml]; rfl) (rest := []) (lenOf pd27 rfl) rfl (Nat.le_of_eq rfl) (hb hby at_123) rfl (by decide) (by decide) ?_
            intro T45 h45 v45 L45 X45 e45 hQ45
            obtain ⟨r45, rfl, Nq45, K45, q45_0⟩ := hQ45
            have N45 := Fk.app N42 Nq45 KK40.1 all0
            rw [K45] at e45
            show Wp p e below _ _ T45 (mkF m 126 #[.val (.int p0), .val (.int p1), .val (.int p2), .val (.int p3), .val (.int p4), .val (.int p5), .val (.int (2 : Int32)), .val (.int zz2), .val (.int zz3), .val (.int zz4), .val (.ref x37), .val (.int (1 : Int32)), .val (.int (0 : Int32))] [(.int r45)])
            refine Wk.iload X45 hx (hb hby at_126) rfl rfl ?_
            refine Wk.icmpNo X45 hx (hb hby at_128) rfl (teq (by obtain ⟨q_, hq_, hw_⟩ := q45_0; obtain rfl : q_ = (1 : Int32) := Cnt2.uniq hq_ (show Cnt2 zz2 zz3 (1 : Int32) from by simp [Cnt2, hh41, hh43]); simp [Wth, hc44] at hw_; exact hw_)).2 ?_
            refine Wk.iconst X45 hx (v := (1 : Int32)) (hb hby at_131) rfl rfl ?_
            refine Wk.goto X45 hx (hb hby at_132) (by decide) (q := 136) rfl ?_
            exact Wk.retZW X45 hx hS (Nat.le_trans (Nat.le_refl _) KK40.1) hlk hr (by simp) (hb hby at_136) (by decide) (by decide) (Qc := Q_rm_law Z p0 p1 p2 p3 p4 p5 G1 h0) e45 (fun vm' hw' => ⟨rfl, N45, KK40⟩)
          · skip
            refine Wk.icmpNo X42 hx (hb hby at_100) rfl (flt hc44).1 ?_
            refine Wk.iload X42 hx (hb hby at_103) rfl rfl ?_
            refine Wk.iload X42 hx (hb hby at_105) rfl rfl ?_
            by_cases hc46 : p5 < (1 : Int32)
            · skip
              refine Wk.icmpYes X42 hx (hb hby at_107) (by decide) (q := 114) rfl (tlt hc46).2.2.1 ?_
              refine Wk.iconst X42 hx (v := (0 : Int32)) (hb hby at_114) rfl rfl ?_
              refine Wk.istore X42 hx (Ls' := #[.val (.int p0), .val (.int p1), .val (.int p2), .val (.int p3), .val (.int p4), .val (.int p5), .val (.int (2 : Int32)), .val (.int zz2), .val (.int zz3), .val (.int zz4), .val (.ref x37), .val (.int (1 : Int32)), .val (.int (0 : Int32))]) (hb hby at_115) rfl rfl ?_
              refine Wk.aload X42 hx (hb hby at_117) rfl rfl rfl ?_
              refine Wk.iload X42 hx (hb hby at_119) rfl rfl ?_
              refine Wk.iload X42 hx (hb hby at_121) rfl rfl ?_
              refine Wk.callS X42 hx hZ hown (w 30 _ rfl) (w 31 _ rfl) (w 32 _ rfl) (w 33 _ rfl) (by decide) (as' := [(.ref x37), (.int p4), (.int p5)]) (backOf (W := 0) (rm_wi21 l Z a0 hw [] x37 t37 kb37 G1 zz2 zz3 p4 p5 h37 O38 sH sL sA SG1 nG1 q37_0 q37_1 q37_2 q37_3 q2_0 q3_0) hZ (w 33 _ rfl) (w 32 _ rfl) (by decide) (by decide)) e42 (by rw [hml]; rfl) (rest := []) (lenOf pd27 rfl) rfl (Nat.le_of_eq rfl) (hb hby at_123) rfl (by decide) (by decide) ?_
              intro T47 h47 v47 L47 X47 e47 hQ47
              obtain ⟨r47, rfl, Nq47, K47, q47_0⟩ := hQ47
              have N47 := Fk.app N42 Nq47 KK40.1 all0
              rw [K47] at e47
              show Wp p e below _ _ T47 (mkF m 126 #[.val (.int p0), .val (.int p1), .val (.int p2), .val (.int p3), .val (.int p4), .val (.int p5), .val (.int (2 : Int32)), .val (.int zz2), .val (.int zz3), .val (.int zz4), .val (.ref x37), .val (.int (1 : Int32)), .val (.int (0 : Int32))] [(.int r47)])
              refine Wk.iload X47 hx (hb hby at_126) rfl rfl ?_
              refine Wk.icmpNo X47 hx (hb hby at_128) rfl (teq (by obtain ⟨q_, hq_, hw_⟩ := q47_0; obtain rfl : q_ = (1 : Int32) := Cnt2.uniq hq_ (show Cnt2 zz2 zz3 (1 : Int32) from by simp [Cnt2, hh41, hh43]); simp [Wth, hc44, hc46] at hw_; exact hw_)).2 ?_
              refine Wk.iconst X47 hx (v := (1 : Int32)) (hb hby at_131) rfl rfl ?_
              refine Wk.goto X47 hx (hb hby at_132) (by decide) (q := 136) rfl ?_
              exact Wk.retZW X47 hx hS (Nat.le_trans (Nat.le_refl _) KK40.1) hlk hr (by simp) (hb hby at_136) (by decide) (by decide) (Qc := Q_rm_law Z p0 p1 p2 p3 p4 p5 G1 h0) e47 (fun vm' hw' => ⟨rfl, N47, KK40⟩)
            · skip
              refine Wk.icmpNo X42 hx (hb hby at_107) rfl (flt hc46).2.2.1 ?_
              refine Wk.iconst X42 hx (v := (1 : Int32)) (hb hby at_110) rfl rfl ?_
              refine Wk.goto X42 hx (hb hby at_111) (by decide) (q := 115) rfl ?_
              refine Wk.istore X42 hx (Ls' := #[.val (.int p0), .val (.int p1), .val (.int p2), .val (.int p3), .val (.int p4), .val (.int p5), .val (.int (2 : Int32)), .val (.int zz2), .val (.int zz3), .val (.int zz4), .val (.ref x37), .val (.int (1 : Int32)), .val (.int (1 : Int32))]) (hb hby at_115) rfl rfl ?_
              refine Wk.aload X42 hx (hb hby at_117) rfl rfl rfl ?_
              refine Wk.iload X42 hx (hb hby at_119) rfl rfl ?_
              refine Wk.iload X42 hx (hb hby at_121) rfl rfl ?_
              refine Wk.callS X42 hx hZ hown (w 30 _ rfl) (w 31 _ rfl) (w 32 _ rfl) (w 33 _ rfl) (by decide) (as' := [(.ref x37), (.int p4), (.int p5)]) (backOf (W := 0) (rm_wi21 l Z a0 hw [] x37 t37 kb37 G1 zz2 zz3 p4 p5 h37 O38 sH sL sA SG1 nG1 q37_0 q37_1 q37_2 q37_3 q2_0 q3_0) hZ (w 33 _ rfl) (w 32 _ rfl) (by decide) (by decide)) e42 (by rw [hml]; rfl) (rest := []) (lenOf pd27 rfl) rfl (Nat.le_of_eq rfl) (hb hby at_123) rfl (by decide) (by decide) ?_
              intro T48 h48 v48 L48 X48 e48 hQ48
              obtain ⟨r48, rfl, Nq48, K48, q48_0⟩ := hQ48
              have N48 := Fk.app N42 Nq48 KK40.1 all0
              rw [K48] at e48
              show Wp p e below _ _ T48 (mkF m 126 #[.val (.int p0), .val (.int p1), .val (.int p2), .val (.int p3), .val (.int p4), .val (.int p5), .val (.int (2 : Int32)), .val (.int zz2), .val (.int zz3), .val (.int zz4), .val (.ref x37), .val (.int (1 : Int32)), .val (.int (1 : Int32))] [(.int r48)])
              refine Wk.iload X48 hx (hb hby at_126) rfl rfl ?_
              refine Wk.icmpNo X48 hx (hb hby at_128) rfl (teq (by obtain ⟨q_, hq_, hw_⟩ := q48_0; obtain rfl : q_ = (1 : Int32) := Cnt2.uniq hq_ (show Cnt2 zz2 zz3 (1 : Int32) from by simp [Cnt2, hh41, hh43]); simp [Wth, hc44, hc46] at hw_; exact hw_)).2 ?_
              refine Wk.iconst X48 hx (v := (1 : Int32)) (hb hby at_131) rfl rfl ?_
              refine Wk.goto X48 hx (hb hby at_132) (by decide) (q := 136) rfl ?_
              exact Wk.retZW X48 hx hS (Nat.le_trans (Nat.le_refl _) KK40.1) hlk hr (by simp) (hb hby at_136) (by decide) (by decide) (Qc := Q_rm_law Z p0 p1 p2 p3 p4 p5 G1 h0) e48 (fun vm' hw' => ⟨rfl, N48, KK40⟩)
        · skip
          refine Wk.ifYes X42 hx (hb hby at_59) (by decide) (q := 68) rfl ((if0 _ _).trans (teq (by decide : (0 : Int32) = (0 : Int32))).1) ?_
          refine Wk.iload X42 hx (hb hby at_68) rfl rfl ?_
          refine Wk.iconst X42 hx (v := (3 : Int32)) (hb hby at_70) rfl rfl ?_
          refine Wk.icmpYes X42 hx (hb hby at_71) (by decide) (q := 96) rfl (tlt (by decide : (2 : Int32) < (3 : Int32))).1 ?_
          refine Wk.iload X42 hx (hb hby at_96) rfl rfl ?_
          refine Wk.iload X42 hx (hb hby at_98) rfl rfl ?_
          by_cases hc49 : (2 : Int32) < p4
          · skip
            refine Wk.icmpYes X42 hx (hb hby at_100) (by decide) (q := 114) rfl (tlt hc49).1 ?_
            refine Wk.iconst X42 hx (v := (0 : Int32)) (hb hby at_114) rfl rfl ?_
            refine Wk.istore X42 hx (Ls' := #[.val (.int p0), .val (.int p1), .val (.int p2), .val (.int p3), .val (.int p4), .val (.int p5), .val (.int (2 : Int32)), .val (.int zz2), .val (.int zz3), .val (.int zz4), .val (.ref x37), .val (.int (2 : Int32)), .val (.int (0 : Int32))]) (hb hby at_115) rfl rfl ?_
            refine Wk.aload X42 hx (hb hby at_117) rfl rfl rfl ?_
            refine Wk.iload X42 hx (hb hby at_119) rfl rfl ?_
            refine Wk.iload X42 hx (hb hby at_121) rfl rfl ?_
            refine Wk.callS X42 hx hZ hown (w 30 _ rfl) (w 31 _ rfl) (w 32 _ rfl) (w 33 _ rfl) (by decide) (as' := [(.ref x37), (.int p4), (.int p5)]) (backOf (W := 0) (rm_wi21 l Z a0 hw [] x37 t37 kb37 G1 zz2 zz3 p4 p5 h37 O38 sH sL sA SG1 nG1 q37_0 q37_1 q37_2 q37_3 q2_0 q3_0) hZ (w 33 _ rfl) (w 32 _ rfl) (by decide) (by decide)) e42 (by rw [hml]; rfl) (rest := []) (lenOf pd27 rfl) rfl (Nat.le_of_eq rfl) (hb hby at_123) rfl (by decide) (by decide) ?_
            intro T50 h50 v50 L50 X50 e50 hQ50
            obtain ⟨r50, rfl, Nq50, K50, q50_0⟩ := hQ50
            have N50 := Fk.app N42 Nq50 KK40.1 all0
            rw [K50] at e50
            show Wp p e below _ _ T50 (mkF m 126 #[.val (.int p0), .val (.int p1), .val (.int p2), .val (.int p3), .val (.int p4), .val (.int p5), .val (.int (2 : Int32)), .val (.int zz2), .val (.int zz3), .val (.int zz4), .val (.ref x37), .val (.int (2 : Int32)), .val (.int (0 : Int32))] [(.int r50)])
            refine Wk.iload X50 hx (hb hby at_126) rfl rfl ?_
            refine Wk.icmpNo X50 hx (hb hby at_128) rfl (teq (by obtain ⟨q_, hq_, hw_⟩ := q50_0; obtain rfl : q_ = (2 : Int32) := Cnt2.uniq hq_ (show Cnt2 zz2 zz3 (2 : Int32) from by simp [Cnt2, hh41, hh43]); simp [Wth, hc49] at hw_; exact hw_)).2 ?_
            refine Wk.iconst X50 hx (v := (1 : Int32)) (hb hby at_131) rfl rfl ?_
            refine Wk.goto X50 hx (hb hby at_132) (by decide) (q := 136) rfl ?_
            exact Wk.retZW X50 hx hS (Nat.le_trans (Nat.le_refl _) KK40.1) hlk hr (by simp) (hb hby at_136) (by decide) (by decide) (Qc := Q_rm_law Z p0 p1 p2 p3 p4 p5 G1 h0) e50 (fun vm' hw' => ⟨rfl, N50, KK40⟩)
          · skip
            refine Wk.icmpNo X42 hx (hb hby at_100) rfl (flt hc49).1 ?_
            refine Wk.iload X42 hx (hb hby at_103) rfl rfl ?_
            refine Wk.iload X42 hx (hb hby at_105) rfl rfl ?_
            by_cases hc51 : p5 < (2 : Int32)
            · skip
              refine Wk.icmpYes X42 hx (hb hby at_107) (by decide) (q := 114) rfl (tlt hc51).2.2.1 ?_
              refine Wk.iconst X42 hx (v := (0 : Int32)) (hb hby at_114) rfl rfl ?_
              refine Wk.istore X42 hx (Ls' := #[.val (.int p0), .val (.int p1), .val (.int p2), .val (.int p3), .val (.int p4), .val (.int p5), .val (.int (2 : Int32)), .val (.int zz2), .val (.int zz3), .val (.int zz4), .val (.ref x37), .val (.int (2 : Int32)), .val (.int (0 : Int32))]) (hb hby at_115) rfl rfl ?_
              refine Wk.aload X42 hx (hb hby at_117) rfl rfl rfl ?_
              refine Wk.iload X42 hx (hb hby at_119) rfl rfl ?_
              refine Wk.iload X42 hx (hb hby at_121) rfl rfl ?_
              refine Wk.callS X42 hx hZ hown (w 30 _ rfl) (w 31 _ rfl) (w 32 _ rfl) (w 33 _ rfl) (by decide) (as' := [(.ref x37), (.int p4), (.int p5)]) (backOf (W := 0) (rm_wi21 l Z a0 hw [] x37 t37 kb37 G1 zz2 zz3 p4 p5 h37 O38 sH sL sA SG1 nG1 q37_0 q37_1 q37_2 q37_3 q2_0 q3_0) hZ (w 33 _ rfl) (w 32 _ rfl) (by decide) (by decide)) e42 (by rw [hml]; rfl) (rest := []) (lenOf pd27 rfl) rfl (Nat.le_of_eq rfl) (hb hby at_123) rfl (by decide) (by decide) ?_
              intro T52 h52 v52 L52 X52 e52 hQ52
              obtain ⟨r52, rfl, Nq52, K52, q52_0⟩ := hQ52
              have N52 := Fk.app N42 Nq52 KK40.1 all0
              rw [K52] at e52
              show Wp p e below _ _ T52 (mkF m 126 #[.val (.int p0), .val (.int p1), .val (.int p2), .val (.int p3), .val (.int p4), .val (.int p5), .val (.int (2 : Int32)), .val (.int zz2), .val (.int zz3), .val (.int zz4), .val (.ref x37), .val (.int (2 : Int32)), .val (.int (0 : Int32))] [(.int r52)])
              refine Wk.iload X52 hx (hb hby at_126) rfl rfl ?_
              refine Wk.icmpNo X52 hx (hb hby at_128) rfl (teq (by obtain ⟨q_, hq_, hw_⟩ := q52_0; obtain rfl : q_ = (2 : Int32) := Cnt2.uniq hq_ (show Cnt2 zz2 zz3 (2 : Int32) from by simp [Cnt2, hh41, hh43]); simp [Wth, hc49, hc51] at hw_; exact hw_)).2 ?_
              refine Wk.iconst X52 hx (v := (1 : Int32)) (hb hby at_131) rfl rfl ?_
              refine Wk.goto X52 hx (hb hby at_132) (by decide) (q := 136) rfl ?_
              exact Wk.retZW X52 hx hS (Nat.le_trans (Nat.le_refl _) KK40.1) hlk hr (by simp) (hb hby at_136) (by decide) (by decide) (Qc := Q_rm_law Z p0 p1 p2 p3 p4 p5 G1 h0) e52 (fun vm' hw' => ⟨rfl, N52, KK40⟩)
            · skip
              refine Wk.icmpNo X42 hx (hb hby at_107) rfl (flt hc51).2.2.1 ?_
              refine Wk.iconst X42 hx (v := (1 : Int32)) (hb hby at_110) rfl rfl ?_
              refine Wk.goto X42 hx (hb hby at_111) (by decide) (q := 115) rfl ?_
              refine Wk.istore X42 hx (Ls' := #[.val (.int p0), .val (.int p1), .val (.int p2), .val (.int p3), .val (.int p4), .val (.int p5), .val (.int (2 : Int32)), .val (.int zz2), .val (.int zz3), .val (.int zz4), .val (.ref x37), .val (.int (2 : Int32)), .val (.int (1 : Int32))]) (hb hby at_115) rfl rfl ?_
              refine Wk.aload X42 hx (hb hby at_117) rfl rfl rfl ?_
              refine Wk.iload X42 hx (hb hby at_119) rfl rfl ?_
              refine Wk.iload X42 hx (hb hby at_121) rfl rfl ?_
              refine Wk.callS X42 hx hZ hown (w 30 _ rfl) (w 31 _ rfl) (w 32 _ rfl) (w 33 _ rfl) (by decide) (as' := [(.ref x37), (.int p4), (.int p5)]) (backOf (W := 0) (rm_wi21 l Z a0 hw [] x37 t37 kb37 G1 zz2 zz3 p4 p5 h37 O38 sH sL sA SG1 nG1 q37_0 q37_1 q37_2 q37_3 q2_0 q3_0) hZ (w 33 _ rfl) (w 32 _ rfl) (by decide) (by decide)) e42 (by rw [hml]; rfl) (rest := []) (lenOf pd27 rfl) rfl (Nat.le_of_eq rfl) (hb hby at_123) rfl (by decide) (by decide) ?_
              intro T53 h53 v53 L53 X53 e53 hQ53
              obtain ⟨r53, rfl, Nq53, K53, q53_0⟩ := hQ53
              have N53 := Fk.app N42 Nq53 KK40.1 all0
              rw [K53] at e53
              show Wp p e below _ _ T53 (mkF m 126 #[.val (.int p0), .val (.int p1), .val (.int p2), .val (.int p3), .val (.int p4), .val (.int p5), .val (.int (2 : Int32)), .val (.int zz2), .val (.int zz3), .val (.int zz4), .val (.ref x37), .val (.int (2 : Int32)), .val (.int (1 : Int32))] [(.int r53)])
              refine Wk.iload X53 hx (hb hby at_126) rfl rfl ?_
              refine Wk.icmpNo X53 hx (hb hby at_128) rfl (teq (by obtain ⟨q_, hq_, hw_⟩ := q53_0; obtain rfl : q_ = (2 : Int32) := Cnt2.uniq hq_ (show Cnt2 zz2 zz3 (2 : Int32) from by simp [Cnt2, hh41, hh43]); simp [Wth, hc49, hc51] at hw_; exact hw_)).2 ?_
              refine Wk.iconst X53 hx (v := (1 : Int32)) (hb hby at_131) rfl rfl ?_
              refine Wk.goto X53 hx (hb hby at_132) (by decide) (q := 136) rfl ?_
              exact Wk.retZW X53 hx hS (Nat.le_trans (Nat.le_refl _) KK40.1) hlk hr (by simp) (hb hby at_136) (by decide) (by decide) (Qc := Q_rm_law Z p0 p1 p2 p3 p4 p5 G1 h0) e53 (fun vm' hw' => ⟨rfl, N53, KK40⟩)
      · skip
        refine Wk.ifYes X39 hx (hb hby at_51) (by decide) (q := 68) rfl ((if0 _ _).trans (teq (by decide : (0 : Int32) = (0 : Int32))).1) ?_
        refine Wk.iload X39 hx (hb hby at_68) rfl rfl ?_
        refine Wk.iconst X39 hx (v := (3 : Int32)) (hb hby at_70) rfl rfl ?_
        refine Wk.icmpYes X39 hx (hb hby at_71) (by decide) (q := 96) rfl (tlt (by decide : (2 : Int32) < (3 : Int32))).1 ?_
        refine Wk.iload X39 hx (hb hby at_96) rfl rfl ?_
        refine Wk.iload X39 hx (hb hby at_98) rfl rfl ?_
        by_cases hc54 : (2 : Int32) < p4
        · skip
          refine Wk.icmpYes X39 hx (hb hby at_100) (by decide) (q := 114) rfl (tlt hc54).1 ?_
          refine Wk.iconst X39 hx (v := (0 : Int32)) (hb hby at_114) rfl rfl ?_
          refine Wk.istore X39 hx (Ls' := #[.val (.int p0), .val (.int p1), .val (.int p2), .val (.int p3), .val (.int p4), .val (.int p5), .val (.int (2 : Int32)), .val (.int zz2), .val (.int zz3), .val (.int zz4), .val (.ref x37), .val (.int (2 : Int32)), .val (.int (0 : Int32))]) (hb hby at_115) rfl rfl ?_
          refine Wk.aload X39 hx (hb hby at_117) rfl rfl rfl ?_
          refine Wk.iload X39 hx (hb hby at_119) rfl rfl ?_
          refine Wk.iload X39 hx (hb hby at_121) rfl rfl ?_
          refine Wk.callS X39 hx hZ hown (w 30 _ rfl) (w 31 _ rfl) (w 32 _ rfl) (w 33 _ rfl) (by decide) (as' := [(.ref x37), (.int p4), (.int p5)]) (backOf (W := 0) (rm_wi21 l Z a0 hw [] x37 t37 kb37 G1 zz2 zz3 p4 p5 h37 O38 sH sL sA SG1 nG1 q37_0 q37_1 q37_2 q37_3 q2_0 q3_0) hZ (w 33 _ rfl) (w 32 _ rfl) (by decide) (by decide)) e39 (by rw [hml]; rfl) (rest := []) (lenOf pd27 rfl) rfl (Nat.le_of_eq rfl) (hb hby at_123) rfl (by decide) (by decide) ?_
          intro T55 h55 v55 L55 X55 e55 hQ55
          obtain ⟨r55, rfl, Nq55, K55, q55_0⟩ := hQ55
          have N55 := Fk.app N39 Nq55 KK40.1 all0
          rw [K55] at e55
          show Wp p e below _ _ T55 (mkF m 126 #[.val (.int p0), .val (.int p1), .val (.int p2), .val (.int p3), .val (.int p4), .val (.int p5), .val (.int (2 : Int32)), .val (.int zz2), .val (.int zz3), .val (.int zz4), .val (.ref x37), .val (.int (2 : Int32)), .val (.int (0 : Int32))] [(.int r55)])
          refine Wk.iload X55 hx (hb hby at_126) rfl rfl ?_
          refine Wk.icmpNo X55 hx (hb hby at_128) rfl (teq (by obtain ⟨q_, hq_, hw_⟩ := q55_0; obtain rfl : q_ = (2 : Int32) := Cnt2.uniq hq_ (show Cnt2 zz2 zz3 (2 : Int32) from by simp [Cnt2, hh41]); simp [Wth, hc54] at hw_; exact hw_)).2 ?_
          refine Wk.iconst X55 hx (v := (1 : Int32)) (hb hby at_131) rfl rfl ?_
          refine Wk.goto X55 hx (hb hby at_132) (by decide) (q := 136) rfl ?_
          exact Wk.retZW X55 hx hS (Nat.le_trans (Nat.le_refl _) KK40.1) hlk hr (by simp) (hb hby at_136) (by decide) (by decide) (Qc := Q_rm_law Z p0 p1 p2 p3 p4 p5 G1 h0) e55 (fun vm' hw' => ⟨rfl, N55, KK40⟩)
        · skip
          refine Wk.icmpNo X39 hx (hb hby at_100) rfl (flt hc54).1 ?_
          refine Wk.iload X39 hx (hb hby at_103) rfl rfl ?_
          refine Wk.iload X39 hx (hb hby at_105) rfl rfl ?_
          by_cases hc56 : p5 < (2 : Int32)
          · skip
            refine Wk.icmpYes X39 hx (hb hby at_107) (by decide) (q := 114) rfl (tlt hc56).2.2.1 ?_
            refine Wk.iconst X39 hx (v := (0 : Int32)) (hb hby at_114) rfl rfl ?_
            refine Wk.istore X39 hx (Ls' := #[.val (.int p0), .val (.int p1), .val (.int p2), .val (.int p3), .val (.int p4), .val (.int p5), .val (.int (2 : Int32)), .val (.int zz2), .val (.int zz3), .val (.int zz4), .val (.ref x37), .val (.int (2 : Int32)), .val (.int (0 : Int32))]) (hb hby at_115) rfl rfl ?_
            refine Wk.aload X39 hx (hb hby at_117) rfl rfl rfl ?_
            refine Wk.iload X39 hx (hb hby at_119) rfl rfl ?_
            refine Wk.iload X39 hx (hb hby at_121) rfl rfl ?_
            refine Wk.callS X39 hx hZ hown (w 30 _ rfl) (w 31 _ rfl) (w 32 _ rfl) (w 33 _ rfl) (by decide) (as' := [(.ref x37), (.int p4), (.int p5)]) (backOf (W := 0) (rm_wi21 l Z a0 hw [] x37 t37 kb37 G1 zz2 zz3 p4 p5 h37 O38 sH sL sA SG1 nG1 q37_0 q37_1 q37_2 q37_3 q2_0 q3_0) hZ (w 33 _ rfl) (w 32 _ rfl) (by decide) (by decide)) e39 (by rw [hml]; rfl) (rest := []) (lenOf pd27 rfl) rfl (Nat.le_of_eq rfl) (hb hby at_123) rfl (by decide) (by decide) ?_
            intro T57 h57 v57 L57 X57 e57 hQ57
            obtain ⟨r57, rfl, Nq57, K57, q57_0⟩ := hQ57
            have N57 := Fk.app N39 Nq57 KK40.1 all0
            rw [K57] at e57
            show Wp p e below _ _ T57 (mkF m 126 #[.val (.int p0), .val (.int p1), .val (.int p2), .val (.int p3), .val (.int p4), .val (.int p5), .val (.int (2 : Int32)), .val (.int zz2), .val (.int zz3), .val (.int zz4), .val (.ref x37), .val (.int (2 : Int32)), .val (.int (0 : Int32))] [(.int r57)])
            refine Wk.iload X57 hx (hb hby at_126) rfl rfl ?_
            refine Wk.icmpNo X57 hx (hb hby at_128) rfl (teq (by obtain ⟨q_, hq_, hw_⟩ := q57_0; obtain rfl : q_ = (2 : Int32) := Cnt2.uniq hq_ (show Cnt2 zz2 zz3 (2 : Int32) from by simp [Cnt2, hh41]); simp [Wth, hc54, hc56] at hw_; exact hw_)).2 ?_
            refine Wk.iconst X57 hx (v := (1 : Int32)) (hb hby at_131) rfl rfl ?_
            refine Wk.goto X57 hx (hb hby at_132) (by decide) (q := 136) rfl ?_
            exact Wk.retZW X57 hx hS (Nat.le_trans (Nat.le_refl _) KK40.1) hlk hr (by simp) (hb hby at_136) (by decide) (by decide) (Qc := Q_rm_law Z p0 p1 p2 p3 p4 p5 G1 h0) e57 (fun vm' hw' => ⟨rfl, N57, KK40⟩)
          · skip
            refine Wk.icmpNo X39 hx (hb hby at_107) rfl (flt hc56).2.2.1 ?_
            refine Wk.iconst X39 hx (v := (1 : Int32)) (hb hby at_110) rfl rfl ?_
            refine Wk.goto X39 hx (hb hby at_111) (by decide) (q := 115) rfl ?_
            refine Wk.istore X39 hx (Ls' := #[.val (.int p0), .val (.int p1), .val (.int p2), .val (.int p3), .val (.int p4), .val (.int p5), .val (.int (2 : Int32)), .val (.int zz2), .val (.int zz3), .val (.int zz4), .val (.ref x37), .val (.int (2 : Int32)), .val (.int (1 : Int32))]) (hb hby at_115) rfl rfl ?_
            refine Wk.aload X39 hx (hb hby at_117) rfl rfl rfl ?_
            refine Wk.iload X39 hx (hb hby at_119) rfl rfl ?_
            refine Wk.iload X39 hx (hb hby at_121) rfl rfl ?_
            refine Wk.callS X39 hx hZ hown (w 30 _ rfl) (w 31 _ rfl) (w 32 _ rfl) (w 33 _ rfl) (by decide) (as' := [(.ref x37), (.int p4), (.int p5)]) (backOf (W := 0) (rm_wi21 l Z a0 hw [] x37 t37 kb37 G1 zz2 zz3 p4 p5 h37 O38 sH sL sA SG1 nG1 q37_0 q37_1 q37_2 q37_3 q2_0 q3_0) hZ (w 33 _ rfl) (w 32 _ rfl) (by decide) (by decide)) e39 (by rw [hml]; rfl) (rest := []) (lenOf pd27 rfl) rfl (Nat.le_of_eq rfl) (hb hby at_123) rfl (by decide) (by decide) ?_
            intro T58 h58 v58 L58 X58 e58 hQ58
            obtain ⟨r58, rfl, Nq58, K58, q58_0⟩ := hQ58
            have N58 := Fk.app N39 Nq58 KK40.1 all0
            rw [K58] at e58
            show Wp p e below _ _ T58 (mkF m 126 #[.val (.int p0), .val (.int p1), .val (.int p2), .val (.int p3), .val (.int p4), .val (.int p5), .val (.int (2 : Int32)), .val (.int zz2), .val (.int zz3), .val (.int zz4), .val (.ref x37), .val (.int (2 : Int32)), .val (.int (1 : Int32))] [(.int r58)])
            refine Wk.iload X58 hx (hb hby at_126) rfl rfl ?_
            refine Wk.icmpNo X58 hx (hb hby at_128) rfl (teq (by obtain ⟨q_, hq_, hw_⟩ := q58_0; obtain rfl : q_ = (2 : Int32) := Cnt2.uniq hq_ (show Cnt2 zz2 zz3 (2 : Int32) from by simp [Cnt2, hh41]); simp [Wth, hc54, hc56] at hw_; exact hw_)).2 ?_
            refine Wk.iconst X58 hx (v := (1 : Int32)) (hb hby at_131) rfl rfl ?_
            refine Wk.goto X58 hx (hb hby at_132) (by decide) (q := 136) rfl ?_
            exact Wk.retZW X58 hx hS (Nat.le_trans (Nat.le_refl _) KK40.1) hlk hr (by simp) (hb hby at_136) (by decide) (by decide) (Qc := Q_rm_law Z p0 p1 p2 p3 p4 p5 G1 h0) e58 (fun vm' hw' => ⟨rfl, N58, KK40⟩)
    · skip
      have Ltzz2 : Lat zz2 := ⟨q2_0.1, hg36⟩
      by_cases hg59 : (255 : Int32) < zz3
      · skip
        refine Wk.callS X4 hx hZ hown (w 5 _ rfl) (w 6 _ rfl) (w 2 _ rfl) (w 7 _ rfl) (by decide) (as' := [(.int (2 : Int32)), (.int zz2), (.int zz3), (.int zz4)]) (backOf (W := 0) (rm_mk21 l Z a0 hw [] zz2 zz3 zz4 G1 h0 O0 sH sL sA SG1 nG1 q2_0 q3_0 hg36 hg59) hZ (w 7 _ rfl) (w 2 _ rfl) (by decide) (by decide)) e4 (by rw [hml]; rfl) (rest := []) (lenOf pd26 rfl) rfl (Nat.le_of_eq rfl) (hb hby at_31) rfl (by decide) (by decide) ?_
        intro T60 h60 v60 L60 X60 e60 hQ60
        obtain ⟨x60, t60, kb60, rfl, Nq60, K60, q60_0, q60_1, q60_2, q60_3⟩ := hQ60
        have N60 := Fk.app N4 Nq60 (Nat.le_refl _) all0
        have O61 : Old Z Z.heap.size h60 := O0.keep K60 all0
        show Wp p e below _ _ T60 (mkF m 34 #[.val (.int p0), .val (.int p1), .val (.int p2), .val (.int p3), .val (.int p4), .val (.int p5), .val (.int (2 : Int32)), .val (.int zz2), .val (.int zz3), .val (.int zz4), .unset, .unset, .unset] [(.ref x60)])
        refine Wk.astore X60 hx (Ls' := #[.val (.int p0), .val (.int p1), .val (.int p2), .val (.int p3), .val (.int p4), .val (.int p5), .val (.int (2 : Int32)), .val (.int zz2), .val (.int zz3), .val (.int zz4), .val (.ref x60), .unset, .unset]) (hb hby at_34) rfl rfl rfl ?_
        refine Wk.iload X60 hx (hb hby at_36) rfl rfl ?_
        refine Wk.istore X60 hx (Ls' := #[.val (.int p0), .val (.int p1), .val (.int p2), .val (.int p3), .val (.int p4), .val (.int p5), .val (.int (2 : Int32)), .val (.int zz2), .val (.int zz3), .val (.int zz4), .val (.ref x60), .val (.int (2 : Int32)), .unset]) (hb hby at_38) rfl rfl ?_
        refine Wk.iload X60 hx (hb hby at_40) rfl rfl ?_
        refine Wk.iconst X60 hx (v := (2 : Int32)) (hb hby at_42) rfl rfl ?_
        refine Wk.icmpNo X60 hx (hb hby at_43) rfl (flt (by decide : ¬ ((2 : Int32) < (2 : Int32)))).1 ?_
        refine Wk.iload X60 hx (hb hby at_46) rfl rfl ?_
        refine Wk.callS X60 hx hZ hown (w 95 _ rfl) (w 96 _ rfl) (w 2 _ rfl) (w 97 _ rfl) (by decide) (as' := [(.int zz2)]) (backOf (W := 0) (rm_lhi l Z a0 hw [] zz2 h60 O61) hZ (w 97 _ rfl) (w 2 _ rfl) (by decide) (by decide)) e60 (by rw [hml]; rfl) (rest := []) (lenOf pd14 rfl) rfl (Nat.le_of_eq rfl) (hb hby at_48) rfl (by decide) (by decide) ?_
        intro T62 h62 v62 L62 X62 e62 hQ62
        obtain ⟨r62, rfl, Nq62, K62, q62_0⟩ := hQ62
        have KK63 : Keep h0 h60 [] := ((Keep.refl h0 []).trans K60 all0)
        have N62 := Fk.app N60 Nq62 KK63.1 all0
        rw [K62] at e62
        show Wp p e below _ _ T62 (mkF m 51 #[.val (.int p0), .val (.int p1), .val (.int p2), .val (.int p3), .val (.int p4), .val (.int p5), .val (.int (2 : Int32)), .val (.int zz2), .val (.int zz3), .val (.int zz4), .val (.ref x60), .val (.int (2 : Int32)), .unset] [(.int r62)])
        obtain rfl : r62 = 0 := by rcases q62_0 with ⟨_, hh⟩ | ⟨hh, _⟩; exact absurd hh (own_lat hg36).1; exact hh
        refine Wk.ifYes X62 hx (hb hby at_51) (by decide) (q := 68) rfl ((if0 _ _).trans (teq (by decide : (0 : Int32) = (0 : Int32))).1) ?_
        refine Wk.iload X62 hx (hb hby at_68) rfl rfl ?_
        refine Wk.iconst X62 hx (v := (3 : Int32)) (hb hby at_70) rfl rfl ?_
        refine Wk.icmpYes X62 hx (hb hby at_71) (by decide) (q := 96) rfl (tlt (by decide : (2 : Int32) < (3 : Int32))).1 ?_
        refine Wk.iload X62 hx (hb hby at_96) rfl rfl ?_
        refine Wk.iload X62 hx (hb hby at_98) rfl rfl ?_
        by_cases hc65 : (2 : Int32) < p4
        · skip
          refine Wk.icmpYes X62 hx (hb hby at_100) (by decide) (q := 114) rfl (tlt hc65).1 ?_
          refine Wk.iconst X62 hx (v := (0 : Int32)) (hb hby at_114) rfl rfl ?_
          refine Wk.istore X62 hx (Ls' := #[.val (.int p0), .val (.int p1), .val (.int p2), .val (.int p3), .val (.int p4), .val (.int p5), .val (.int (2 : Int32)), .val (.int zz2), .val (.int zz3), .val (.int zz4), .val (.ref x60), .val (.int (2 : Int32)), .val (.int (0 : Int32))]) (hb hby at_115) rfl rfl ?_
          refine Wk.aload X62 hx (hb hby at_117) rfl rfl rfl ?_
          refine Wk.iload X62 hx (hb hby at_119) rfl rfl ?_
          refine Wk.iload X62 hx (hb hby at_121) rfl rfl ?_
          refine Wk.callS X62 hx hZ hown (w 30 _ rfl) (w 31 _ rfl) (w 32 _ rfl) (w 33 _ rfl) (by decide) (as' := [(.ref x60), (.int p4), (.int p5)]) (backOf (W := 0) (rm_wi21 l Z a0 hw [] x60 t60 kb60 G1 zz2 zz3 p4 p5 h60 O61 sH sL sA SG1 nG1 q60_0 q60_1 q60_2 q60_3 q2_0 q3_0) hZ (w 33 _ rfl) (w 32 _ rfl) (by decide) (by decide)) e62 (by rw [hml]; rfl) (rest := []) (lenOf pd27 rfl) rfl (Nat.le_of_eq rfl) (hb hby at_123) rfl (by decide) (by decide) ?_
          intro T66 h66 v66 L66 X66 e66 hQ66
          obtain ⟨r66, rfl, Nq66, K66, q66_0⟩ := hQ66
          have N66 := Fk.app N62 Nq66 KK63.1 all0
          rw [K66] at e66
          show Wp p e below _ _ T66 (mkF m 126 #[.val (.int p0), .val (.int p1), .val (.int p2), .val (.int p3), .val (.int p4), .val (.int p5), .val (.int (2 : Int32)), .val (.int zz2), .val (.int zz3), .val (.int zz4), .val (.ref x60), .val (.int (2 : Int32)), .val (.int (0 : Int32))] [(.int r66)])
          refine Wk.iload X66 hx (hb hby at_126) rfl rfl ?_
          refine Wk.icmpNo X66 hx (hb hby at_128) rfl (teq (by obtain ⟨q_, hq_, hw_⟩ := q66_0; obtain rfl : q_ = (2 : Int32) := Cnt2.uniq hq_ (show Cnt2 zz2 zz3 (2 : Int32) from by simp [Cnt2, (own_lat hg36).1, (own_lat hg36).1, (own_lat hg36).2]); simp [Wth, hc65] at hw_; exact hw_)).2 ?_
          refine Wk.iconst X66 hx (v := (1 : Int32)) (hb hby at_131) rfl rfl ?_
          refine Wk.goto X66 hx (hb hby at_132) (by decide) (q := 136) rfl ?_
          exact Wk.retZW X66 hx hS (Nat.le_trans (Nat.le_refl _) KK63.1) hlk hr (by simp) (hb hby at_136) (by decide) (by decide) (Qc := Q_rm_law Z p0 p1 p2 p3 p4 p5 G1 h0) e66 (fun vm' hw' => ⟨rfl, N66, KK63⟩)
        · skip
          refine Wk.icmpNo X62 hx (hb hby at_100) rfl (flt hc65).1 ?_
          refine Wk.iload X62 hx (hb hby at_103) rfl rfl ?_
          refine Wk.iload X62 hx (hb hby at_105) rfl rfl ?_
          by_cases hc67 : p5 < (2 : Int32)
          · skip
            refine Wk.icmpYes X62 hx (hb hby at_107) (by decide) (q := 114) rfl (tlt hc67).2.2.1 ?_
            refine Wk.iconst X62 hx (v := (0 : Int32)) (hb hby at_114) rfl rfl ?_
            refine Wk.istore X62 hx (Ls' := #[.val (.int p0), .val (.int p1), .val (.int p2), .val (.int p3), .val (.int p4), .val (.int p5), .val (.int (2 : Int32)), .val (.int zz2), .val (.int zz3), .val (.int zz4), .val (.ref x60), .val (.int (2 : Int32)), .val (.int (0 : Int32))]) (hb hby at_115) rfl rfl ?_
            refine Wk.aload X62 hx (hb hby at_117) rfl rfl rfl ?_
            refine Wk.iload X62 hx (hb hby at_119) rfl rfl ?_
            refine Wk.iload X62 hx (hb hby at_121) rfl rfl ?_
            refine Wk.callS X62 hx hZ hown (w 30 _ rfl) (w 31 _ rfl) (w 32 _ rfl) (w 33 _ rfl) (by decide) (as' := [(.ref x60), (.int p4), (.int p5)]) (backOf (W := 0) (rm_wi21 l Z a0 hw [] x60 t60 kb60 G1 zz2 zz3 p4 p5 h60 O61 sH sL sA SG1 nG1 q60_0 q60_1 q60_2 q60_3 q2_0 q3_0) hZ (w 33 _ rfl) (w 32 _ rfl) (by decide) (by decide)) e62 (by rw [hml]; rfl) (rest := []) (lenOf pd27 rfl) rfl (Nat.le_of_eq rfl) (hb hby at_123) rfl (by decide) (by decide) ?_
            intro T68 h68 v68 L68 X68 e68 hQ68
            obtain ⟨r68, rfl, Nq68, K68, q68_0⟩ := hQ68
            have N68 := Fk.app N62 Nq68 KK63.1 all0
            rw [K68] at e68
            show Wp p e below _ _ T68 (mkF m 126 #[.val (.int p0), .val (.int p1), .val (.int p2), .val (.int p3), .val (.int p4), .val (.int p5), .val (.int (2 : Int32)), .val (.int zz2), .val (.int zz3), .val (.int zz4), .val (.ref x60), .val (.int (2 : Int32)), .val (.int (0 : Int32))] [(.int r68)])
            refine Wk.iload X68 hx (hb hby at_126) rfl rfl ?_
            refine Wk.icmpNo X68 hx (hb hby at_128) rfl (teq (by obtain ⟨q_, hq_, hw_⟩ := q68_0; obtain rfl : q_ = (2 : Int32) := Cnt2.uniq hq_ (show Cnt2 zz2 zz3 (2 : Int32) from by simp [Cnt2, (own_lat hg36).1, (own_lat hg36).1, (own_lat hg36).2]); simp [Wth, hc65, hc67] at hw_; exact hw_)).2 ?_
            refine Wk.iconst X68 hx (v := (1 : Int32)) (hb hby at_131) rfl rfl ?_
            refine Wk.goto X68 hx (hb hby at_132) (by decide) (q := 136) rfl ?_
            exact Wk.retZW X68 hx hS (Nat.le_trans (Nat.le_refl _) KK63.1) hlk hr (by simp) (hb hby at_136) (by decide) (by decide) (Qc := Q_rm_law Z p0 p1 p2 p3 p4 p5 G1 h0) e68 (fun vm' hw' => ⟨rfl, N68, KK63⟩)
          · skip
            refine Wk.icmpNo X62 hx (hb hby at_107) rfl (flt hc67).2.2.1 ?_
            refine Wk.iconst X62 hx (v := (1 : Int32)) (hb hby at_110) rfl rfl ?_
            refine Wk.goto X62 hx (hb hby at_111) (by decide) (q := 115) rfl ?_
            refine Wk.istore X62 hx (Ls' := #[.val (.int p0), .val (.int p1), .val (.int p2), .val (.int p3), .val (.int p4), .val (.int p5), .val (.int (2 : Int32)), .val (.int zz2), .val (.int zz3), .val (.int zz4), .val (.ref x60), .val (.int (2 : Int32)), .val (.int (1 : Int32))]) (hb hby at_115) rfl rfl ?_
            refine Wk.aload X62 hx (hb hby at_117) rfl rfl rfl ?_
            refine Wk.iload X62 hx (hb hby at_119) rfl rfl ?_
            refine Wk.iload X62 hx (hb hby at_121) rfl rfl ?_
            refine Wk.callS X62 hx hZ hown (w 30 _ rfl) (w 31 _ rfl) (w 32 _ rfl) (w 33 _ rfl) (by decide) (as' := [(.ref x60), (.int p4), (.int p5)]) (backOf (W := 0) (rm_wi21 l Z a0 hw [] x60 t60 kb60 G1 zz2 zz3 p4 p5 h60 O61 sH sL sA SG1 nG1 q60_0 q60_1 q60_2 q60_3 q2_0 q3_0) hZ (w 33 _ rfl) (w 32 _ rfl) (by decide) (by decide)) e62 (by rw [hml]; rfl) (rest := []) (lenOf pd27 rfl) rfl (Nat.le_of_eq rfl) (hb hby at_123) rfl (by decide) (by decide) ?_
            intro T69 h69 v69 L69 X69 e69 hQ69
            obtain ⟨r69, rfl, Nq69, K69, q69_0⟩ := hQ69
            have N69 := Fk.app N62 Nq69 KK63.1 all0
            rw [K69] at e69
            show Wp p e below _ _ T69 (mkF m 126 #[.val (.int p0), .val (.int p1), .val (.int p2), .val (.int p3), .val (.int p4), .val (.int p5), .val (.int (2 : Int32)), .val (.int zz2), .val (.int zz3), .val (.int zz4), .val (.ref x60), .val (.int (2 : Int32)), .val (.int (1 : Int32))] [(.int r69)])
            refine Wk.iload X69 hx (hb hby at_126) rfl rfl ?_
            refine Wk.icmpNo X69 hx (hb hby at_128) rfl (teq (by obtain ⟨q_, hq_, hw_⟩ := q69_0; obtain rfl : q_ = (2 : Int32) := Cnt2.uniq hq_ (show Cnt2 zz2 zz3 (2 : Int32) from by simp [Cnt2, (own_lat hg36).1, (own_lat hg36).1, (own_lat hg36).2]); simp [Wth, hc65, hc67] at hw_; exact hw_)).2 ?_
            refine Wk.iconst X69 hx (v := (1 : Int32)) (hb hby at_131) rfl rfl ?_
            refine Wk.goto X69 hx (hb hby at_132) (by decide) (q := 136) rfl ?_
            exact Wk.retZW X69 hx hS (Nat.le_trans (Nat.le_refl _) KK63.1) hlk hr (by simp) (hb hby at_136) (by decide) (by decide) (Qc := Q_rm_law Z p0 p1 p2 p3 p4 p5 G1 h0) e69 (fun vm' hw' => ⟨rfl, N69, KK63⟩)
      · skip
        have Ltzz3 : Lat zz3 := ⟨q3_0.1, hg59⟩
        refine Wk.callS X4 hx hZ hown (w 5 _ rfl) (w 6 _ rfl) (w 2 _ rfl) (w 7 _ rfl) (by decide) (as' := [(.int (2 : Int32)), (.int zz2), (.int zz3), (.int zz4)]) (backOf (W := 0) (rm_mk2L l Z a0 hw [] zz2 zz3 zz4 G1 h0 O0 SG1 nG1 Ltzz2 Ltzz3) hZ (w 7 _ rfl) (w 2 _ rfl) (by decide) (by decide)) e4 (by rw [hml]; rfl) (rest := []) (lenOf pd26 rfl) rfl (Nat.le_of_eq rfl) (hb hby at_31) rfl (by decide) (by decide) ?_
        intro T70 h70 v70 L70 X70 e70 hQ70
        obtain ⟨x70, t70, kb70, lb70, rfl, Nq70, K70, q70_0, q70_1, q70_2, q70_3⟩ := hQ70
        have N70 := Fk.app N4 Nq70 (Nat.le_refl _) all0
        have O71 : Old Z Z.heap.size h70 := O0.keep K70 all0
        show Wp p e below _ _ T70 (mkF m 34 #[.val (.int p0), .val (.int p1), .val (.int p2), .val (.int p3), .val (.int p4), .val (.int p5), .val (.int (2 : Int32)), .val (.int zz2), .val (.int zz3), .val (.int zz4), .unset, .unset, .unset] [(.ref x70)])
        refine Wk.astore X70 hx (Ls' := #[.val (.int p0), .val (.int p1), .val (.int p2), .val (.int p3), .val (.int p4), .val (.int p5), .val (.int (2 : Int32)), .val (.int zz2), .val (.int zz3), .val (.int zz4), .val (.ref x70), .unset, .unset]) (hb hby at_34) rfl rfl rfl ?_
        refine Wk.iload X70 hx (hb hby at_36) rfl rfl ?_
        refine Wk.istore X70 hx (Ls' := #[.val (.int p0), .val (.int p1), .val (.int p2), .val (.int p3), .val (.int p4), .val (.int p5), .val (.int (2 : Int32)), .val (.int zz2), .val (.int zz3), .val (.int zz4), .val (.ref x70), .val (.int (2 : Int32)), .unset]) (hb hby at_38) rfl rfl ?_
        refine Wk.iload X70 hx (hb hby at_40) rfl rfl ?_
        refine Wk.iconst X70 hx (v := (2 : Int32)) (hb hby at_42) rfl rfl ?_
        refine Wk.icmpNo X70 hx (hb hby at_43) rfl (flt (by decide : ¬ ((2 : Int32) < (2 : Int32)))).1 ?_
        refine Wk.iload X70 hx (hb hby at_46) rfl rfl ?_
        refine Wk.callS X70 hx hZ hown (w 95 _ rfl) (w 96 _ rfl) (w 2 _ rfl) (w 97 _ rfl) (by decide) (as' := [(.int zz2)]) (backOf (W := 0) (rm_lhi l Z a0 hw [] zz2 h70 O71) hZ (w 97 _ rfl) (w 2 _ rfl) (by decide) (by decide)) e70 (by rw [hml]; rfl) (rest := []) (lenOf pd14 rfl) rfl (Nat.le_of_eq rfl) (hb hby at_48) rfl (by decide) (by decide) ?_
        intro T72 h72 v72 L72 X72 e72 hQ72
        obtain ⟨r72, rfl, Nq72, K72, q72_0⟩ := hQ72
        have KK73 : Keep h0 h70 [] := ((Keep.refl h0 []).trans K70 all0)
        have N72 := Fk.app N70 Nq72 KK73.1 all0
        rw [K72] at e72
        show Wp p e below _ _ T72 (mkF m 51 #[.val (.int p0), .val (.int p1), .val (.int p2), .val (.int p3), .val (.int p4), .val (.int p5), .val (.int (2 : Int32)), .val (.int zz2), .val (.int zz3), .val (.int zz4), .val (.ref x70), .val (.int (2 : Int32)), .unset] [(.int r72)])
        obtain rfl : r72 = 0 := by rcases q72_0 with ⟨_, hh⟩ | ⟨hh, _⟩; exact absurd hh (own_lat hg36).1; exact hh
        refine Wk.ifYes X72 hx (hb hby at_51) (by decide) (q := 68) rfl ((if0 _ _).trans (teq (by decide : (0 : Int32) = (0 : Int32))).1) ?_
        refine Wk.iload X72 hx (hb hby at_68) rfl rfl ?_
        refine Wk.iconst X72 hx (v := (3 : Int32)) (hb hby at_70) rfl rfl ?_
        refine Wk.icmpYes X72 hx (hb hby at_71) (by decide) (q := 96) rfl (tlt (by decide : (2 : Int32) < (3 : Int32))).1 ?_
        refine Wk.iload X72 hx (hb hby at_96) rfl rfl ?_
        refine Wk.iload X72 hx (hb hby at_98) rfl rfl ?_
        by_cases hc75 : (2 : Int32) < p4
        · skip
          refine Wk.icmpYes X72 hx (hb hby at_100) (by decide) (q := 114) rfl (tlt hc75).1 ?_
          refine Wk.iconst X72 hx (v := (0 : Int32)) (hb hby at_114) rfl rfl ?_
          refine Wk.istore X72 hx (Ls' := #[.val (.int p0), .val (.int p1), .val (.int p2), .val (.int p3), .val (.int p4), .val (.int p5), .val (.int (2 : Int32)), .val (.int zz2), .val (.int zz3), .val (.int zz4), .val (.ref x70), .val (.int (2 : Int32)), .val (.int (0 : Int32))]) (hb hby at_115) rfl rfl ?_
          refine Wk.aload X72 hx (hb hby at_117) rfl rfl rfl ?_
          refine Wk.iload X72 hx (hb hby at_119) rfl rfl ?_
          refine Wk.iload X72 hx (hb hby at_121) rfl rfl ?_
          refine Wk.callS X72 hx hZ hown (w 30 _ rfl) (w 31 _ rfl) (w 32 _ rfl) (w 33 _ rfl) (by decide) (as' := [(.ref x70), (.int p4), (.int p5)]) (backOf (W := 0) (rm_wi20 l Z a0 hw [] x70 t70 kb70 G1 lb70 p4 p5 h70 O71 SG1 nG1 q70_0 q70_1 q70_2 q70_3) hZ (w 33 _ rfl) (w 32 _ rfl) (by decide) (by decide)) e72 (by rw [hml]; rfl) (rest := []) (lenOf pd27 rfl) rfl (Nat.le_of_eq rfl) (hb hby at_123) rfl (by decide) (by decide) ?_
          intro T76 h76 v76 L76 X76 e76 hQ76
          obtain ⟨r76, rfl, Nq76, K76, q76_0⟩ := hQ76
          have N76 := Fk.app N72 Nq76 KK73.1 all0
          rw [K76] at e76
          show Wp p e below _ _ T76 (mkF m 126 #[.val (.int p0), .val (.int p1), .val (.int p2), .val (.int p3), .val (.int p4), .val (.int p5), .val (.int (2 : Int32)), .val (.int zz2), .val (.int zz3), .val (.int zz4), .val (.ref x70), .val (.int (2 : Int32)), .val (.int (0 : Int32))] [(.int r76)])
          refine Wk.iload X76 hx (hb hby at_126) rfl rfl ?_
          refine Wk.icmpNo X76 hx (hb hby at_128) rfl (teq (by have hw_ := q76_0; simp [Wth, hc75] at hw_; exact hw_)).2 ?_
          refine Wk.iconst X76 hx (v := (1 : Int32)) (hb hby at_131) rfl rfl ?_
          refine Wk.goto X76 hx (hb hby at_132) (by decide) (q := 136) rfl ?_
          exact Wk.retZW X76 hx hS (Nat.le_trans (Nat.le_refl _) KK73.1) hlk hr (by simp) (hb hby at_136) (by decide) (by decide) (Qc := Q_rm_law Z p0 p1 p2 p3 p4 p5 G1 h0) e76 (fun vm' hw' => ⟨rfl, N76, KK73⟩)
        · skip
          refine Wk.icmpNo X72 hx (hb hby at_100) rfl (flt hc75).1 ?_
          refine Wk.iload X72 hx (hb hby at_103) rfl rfl ?_
          refine Wk.iload X72 hx (hb hby at_105) rfl rfl ?_
          by_cases hc77 : p5 < (2 : Int32)
          · skip
            refine Wk.icmpYes X72 hx (hb hby at_107) (by decide) (q := 114) rfl (tlt hc77).2.2.1 ?_
            refine Wk.iconst X72 hx (v := (0 : Int32)) (hb hby at_114) rfl rfl ?_
            refine Wk.istore X72 hx (Ls' := #[.val (.int p0), .val (.int p1), .val (.int p2), .val (.int p3), .val (.int p4), .val (.int p5), .val (.int (2 : Int32)), .val (.int zz2), .val (.int zz3), .val (.int zz4), .val (.ref x70), .val (.int (2 : Int32)), .val (.int (0 : Int32))]) (hb hby at_115) rfl rfl ?_
            refine Wk.aload X72 hx (hb hby at_117) rfl rfl rfl ?_
            refine Wk.iload X72 hx (hb hby at_119) rfl rfl ?_
            refine Wk.iload X72 hx (hb hby at_121) rfl rfl ?_
            refine Wk.callS X72 hx hZ hown (w 30 _ rfl) (w 31 _ rfl) (w 32 _ rfl) (w 33 _ rfl) (by decide) (as' := [(.ref x70), (.int p4), (.int p5)]) (backOf (W := 0) (rm_wi20 l Z a0 hw [] x70 t70 kb70 G1 lb70 p4 p5 h70 O71 SG1 nG1 q70_0 q70_1 q70_2 q70_3) hZ (w 33 _ rfl) (w 32 _ rfl) (by decide) (by decide)) e72 (by rw [hml]; rfl) (rest := []) (lenOf pd27 rfl) rfl (Nat.le_of_eq rfl) (hb hby at_123) rfl (by decide) (by decide) ?_
            intro T78 h78 v78 L78 X78 e78 hQ78
            obtain ⟨r78, rfl, Nq78, K78, q78_0⟩ := hQ78
            have N78 := Fk.app N72 Nq78 KK73.1 all0
            rw [K78] at e78
            show Wp p e below _ _ T78 (mkF m 126 #[.val (.int p0), .val (.int p1), .val (.int p2), .val (.int p3), .val (.int p4), .val (.int p5), .val (.int (2 : Int32)), .val (.int zz2), .val (.int zz3), .val (.int zz4), .val (.ref x70), .val (.int (2 : Int32)), .val (.int (0 : Int32))] [(.int r78)])
            refine Wk.iload X78 hx (hb hby at_126) rfl rfl ?_
            refine Wk.icmpNo X78 hx (hb hby at_128) rfl (teq (by have hw_ := q78_0; simp [Wth, hc75, hc77] at hw_; exact hw_)).2 ?_
            refine Wk.iconst X78 hx (v := (1 : Int32)) (hb hby at_131) rfl rfl ?_
            refine Wk.goto X78 hx (hb hby at_132) (by decide) (q := 136) rfl ?_
            exact Wk.retZW X78 hx hS (Nat.le_trans (Nat.le_refl _) KK73.1) hlk hr (by simp) (hb hby at_136) (by decide) (by decide) (Qc := Q_rm_law Z p0 p1 p2 p3 p4 p5 G1 h0) e78 (fun vm' hw' => ⟨rfl, N78, KK73⟩)
          · skip
            refine Wk.icmpNo X72 hx (hb hby at_107) rfl (flt hc77).2.2.1 ?_
            refine Wk.iconst X72 hx (v := (1 : Int32)) (hb hby at_110) rfl rfl ?_
            refine Wk.goto X72 hx (hb hby at_111) (by decide) (q := 115) rfl ?_
            refine Wk.istore X72 hx (Ls' := #[.val (.int p0), .val (.int p1), .val (.int p2), .val (.int p3), .val (.int p4), .val (.int p5), .val (.int (2 : Int32)), .val (.int zz2), .val (.int zz3), .val (.int zz4), .val (.ref x70), .val (.int (2 : Int32)), .val (.int (1 : Int32))]) (hb hby at_115) rfl rfl ?_
            refine Wk.aload X72 hx (hb hby at_117) rfl rfl rfl ?_
            refine Wk.iload X72 hx (hb hby at_119) rfl rfl ?_
            refine Wk.iload X72 hx (hb hby at_121) rfl rfl ?_
            refine Wk.callS X72 hx hZ hown (w 30 _ rfl) (w 31 _ rfl) (w 32 _ rfl) (w 33 _ rfl) (by decide) (as' := [(.ref x70), (.int p4), (.int p5)]) (backOf (W := 0) (rm_wi20 l Z a0 hw [] x70 t70 kb70 G1 lb70 p4 p5 h70 O71 SG1 nG1 q70_0 q70_1 q70_2 q70_3) hZ (w 33 _ rfl) (w 32 _ rfl) (by decide) (by decide)) e72 (by rw [hml]; rfl) (rest := []) (lenOf pd27 rfl) rfl (Nat.le_of_eq rfl) (hb hby at_123) rfl (by decide) (by decide) ?_
            intro T79 h79 v79 L79 X79 e79 hQ79
            obtain ⟨r79, rfl, Nq79, K79, q79_0⟩ := hQ79
            have N79 := Fk.app N72 Nq79 KK73.1 all0
            rw [K79] at e79
            show Wp p e below _ _ T79 (mkF m 126 #[.val (.int p0), .val (.int p1), .val (.int p2), .val (.int p3), .val (.int p4), .val (.int p5), .val (.int (2 : Int32)), .val (.int zz2), .val (.int zz3), .val (.int zz4), .val (.ref x70), .val (.int (2 : Int32)), .val (.int (1 : Int32))] [(.int r79)])
            refine Wk.iload X79 hx (hb hby at_126) rfl rfl ?_
            refine Wk.icmpNo X79 hx (hb hby at_128) rfl (teq (by have hw_ := q79_0; simp [Wth, hc75, hc77] at hw_; exact hw_)).2 ?_
            refine Wk.iconst X79 hx (v := (1 : Int32)) (hb hby at_131) rfl rfl ?_
            refine Wk.goto X79 hx (hb hby at_132) (by decide) (q := 136) rfl ?_
            exact Wk.retZW X79 hx hS (Nat.le_trans (Nat.le_refl _) KK73.1) hlk hr (by simp) (hb hby at_136) (by decide) (by decide) (Qc := Q_rm_law Z p0 p1 p2 p3 p4 p5 G1 h0) e79 (fun vm' hw' => ⟨rfl, N79, KK73⟩)
  · skip
    by_cases hg80 : (255 : Int32) < zz2
    · skip
      refine Wk.callS X4 hx hZ hown (w 5 _ rfl) (w 6 _ rfl) (w 2 _ rfl) (w 7 _ rfl) (by decide) (as' := [(.int (3 : Int32)), (.int zz2), (.int zz3), (.int zz4)]) (backOf (W := 0) (rm_mk30 l Z a0 hw [] zz2 zz3 zz4 G1 h0 O0 sH sL sA SG1 nG1 q2_0 q3_0 q4_0 hg80) hZ (w 7 _ rfl) (w 2 _ rfl) (by decide) (by decide)) e4 (by rw [hml]; rfl) (rest := []) (lenOf pd26 rfl) rfl (Nat.le_of_eq rfl) (hb hby at_31) rfl (by decide) (by decide) ?_
      intro T81 h81 v81 L81 X81 e81 hQ81
      obtain ⟨x81, t81, kb81, rfl, Nq81, K81, q81_0, q81_1, q81_2, q81_3⟩ := hQ81
      have N81 := Fk.app N4 Nq81 (Nat.le_refl _) all0
      have O82 : Old Z Z.heap.size h81 := O0.keep K81 all0
      show Wp p e below _ _ T81 (mkF m 34 #[.val (.int p0), .val (.int p1), .val (.int p2), .val (.int p3), .val (.int p4), .val (.int p5), .val (.int (3 : Int32)), .val (.int zz2), .val (.int zz3), .val (.int zz4), .unset, .unset, .unset] [(.ref x81)])
      refine Wk.astore X81 hx (Ls' := #[.val (.int p0), .val (.int p1), .val (.int p2), .val (.int p3), .val (.int p4), .val (.int p5), .val (.int (3 : Int32)), .val (.int zz2), .val (.int zz3), .val (.int zz4), .val (.ref x81), .unset, .unset]) (hb hby at_34) rfl rfl rfl ?_
      refine Wk.iload X81 hx (hb hby at_36) rfl rfl ?_
      refine Wk.istore X81 hx (Ls' := #[.val (.int p0), .val (.int p1), .val (.int p2), .val (.int p3), .val (.int p4), .val (.int p5), .val (.int (3 : Int32)), .val (.int zz2), .val (.int zz3), .val (.int zz4), .val (.ref x81), .val (.int (3 : Int32)), .unset]) (hb hby at_38) rfl rfl ?_
      refine Wk.iload X81 hx (hb hby at_40) rfl rfl ?_
      refine Wk.iconst X81 hx (v := (2 : Int32)) (hb hby at_42) rfl rfl ?_
      refine Wk.icmpNo X81 hx (hb hby at_43) rfl (flt (by decide : ¬ ((3 : Int32) < (2 : Int32)))).1 ?_
      refine Wk.iload X81 hx (hb hby at_46) rfl rfl ?_
      refine Wk.callS X81 hx hZ hown (w 95 _ rfl) (w 96 _ rfl) (w 2 _ rfl) (w 97 _ rfl) (by decide) (as' := [(.int zz2)]) (backOf (W := 0) (rm_lhi l Z a0 hw [] zz2 h81 O82) hZ (w 97 _ rfl) (w 2 _ rfl) (by decide) (by decide)) e81 (by rw [hml]; rfl) (rest := []) (lenOf pd14 rfl) rfl (Nat.le_of_eq rfl) (hb hby at_48) rfl (by decide) (by decide) ?_
      intro T83 h83 v83 L83 X83 e83 hQ83
      obtain ⟨r83, rfl, Nq83, K83, q83_0⟩ := hQ83
      have KK84 : Keep h0 h81 [] := ((Keep.refl h0 []).trans K81 all0)
      have N83 := Fk.app N81 Nq83 KK84.1 all0
      rw [K83] at e83
      show Wp p e below _ _ T83 (mkF m 51 #[.val (.int p0), .val (.int p1), .val (.int p2), .val (.int p3), .val (.int p4), .val (.int p5), .val (.int (3 : Int32)), .val (.int zz2), .val (.int zz3), .val (.int zz4), .val (.ref x81), .val (.int (3 : Int32)), .unset] [(.int r83)])
      rcases q83_0 with ⟨rfl, hh85⟩ | ⟨rfl, hh85⟩
      · skip
        refine Wk.ifNo X83 hx (hb hby at_51) rfl ((if0 _ _).trans (feq (by decide : ¬ ((1 : Int32) = (0 : Int32)))).1) ?_
        refine Wk.iload X83 hx (hb hby at_54) rfl rfl ?_
        refine Wk.callS X83 hx hZ hown (w 110 _ rfl) (w 111 _ rfl) (w 2 _ rfl) (w 112 _ rfl) (by decide) (as' := [(.int zz3)]) (backOf (W := 0) (rm_llo l Z a0 hw [] zz3 h81 O82) hZ (w 112 _ rfl) (w 2 _ rfl) (by decide) (by decide)) e83 (by rw [hml]; rfl) (rest := []) (lenOf pd14 rfl) rfl (Nat.le_of_eq rfl) (hb hby at_56) rfl (by decide) (by decide) ?_
        intro T86 h86 v86 L86 X86 e86 hQ86
        obtain ⟨r86, rfl, Nq86, K86, q86_0⟩ := hQ86
        have N86 := Fk.app N83 Nq86 KK84.1 all0
        rw [K86] at e86
        show Wp p e below _ _ T86 (mkF m 59 #[.val (.int p0), .val (.int p1), .val (.int p2), .val (.int p3), .val (.int p4), .val (.int p5), .val (.int (3 : Int32)), .val (.int zz2), .val (.int zz3), .val (.int zz4), .val (.ref x81), .val (.int (3 : Int32)), .unset] [(.int r86)])
        rcases q86_0 with ⟨rfl, hh87⟩ | ⟨rfl, hh87⟩
        · skip
          refine Wk.ifNo X86 hx (hb hby at_59) rfl ((if0 _ _).trans (feq (by decide : ¬ ((1 : Int32) = (0 : Int32)))).1) ?_
          refine Wk.iload X86 hx (hb hby at_62) rfl rfl ?_
          refine Wk.iconst X86 hx (v := (1 : Int32)) (hb hby at_64) rfl rfl ?_
          refine Wk.isub X86 hx (hb hby at_65) rfl ?_
          rw [(by decide : (((3 : Int32) - (1 : Int32)) : Int32) = (2 : Int32))]
          refine Wk.istore X86 hx (Ls' := #[.val (.int p0), .val (.int p1), .val (.int p2), .val (.int p3), .val (.int p4), .val (.int p5), .val (.int (3 : Int32)), .val (.int zz2), .val (.int zz3), .val (.int zz4), .val (.ref x81), .val (.int (2 : Int32)), .unset]) (hb hby at_66) rfl rfl ?_
          refine Wk.iload X86 hx (hb hby at_68) rfl rfl ?_
          refine Wk.iconst X86 hx (v := (3 : Int32)) (hb hby at_70) rfl rfl ?_
          refine Wk.icmpNo X86 hx (hb hby at_71) rfl (flt (by decide : ¬ ((3 : Int32) < (3 : Int32)))).1 ?_
          refine Wk.iload X86 hx (hb hby at_74) rfl rfl ?_
          refine Wk.callS X86 hx hZ hown (w 95 _ rfl) (w 96 _ rfl) (w 2 _ rfl) (w 97 _ rfl) (by decide) (as' := [(.int zz3)]) (backOf (W := 0) (rm_lhi l Z a0 hw [] zz3 h81 O82) hZ (w 97 _ rfl) (w 2 _ rfl) (by decide) (by decide)) e86 (by rw [hml]; rfl) (rest := []) (lenOf pd14 rfl) rfl (Nat.le_of_eq rfl) (hb hby at_76) rfl (by decide) (by decide) ?_
          intro T88 h88 v88 L88 X88 e88 hQ88
          obtain ⟨r88, rfl, Nq88, K88, q88_0⟩ := hQ88
          have N88 := Fk.app N86 Nq88 KK84.1 all0
          rw [K88] at e88
          show Wp p e below _ _ T88 (mkF m 79 #[.val (.int p0), .val (.int p1), .val (.int p2), .val (.int p3), .val (.int p4), .val (.int p5), .val (.int (3 : Int32)), .val (.int zz2), .val (.int zz3), .val (.int zz4), .val (.ref x81), .val (.int (2 : Int32)), .unset] [(.int r88)])
          obtain rfl : r88 = 0 := by rcases q88_0 with ⟨_, hh⟩ | ⟨hh, _⟩; exact absurd hh (fun q => own_hl q hh87); exact hh
          refine Wk.ifYes X88 hx (hb hby at_79) (by decide) (q := 96) rfl ((if0 _ _).trans (teq (by decide : (0 : Int32) = (0 : Int32))).1) ?_
          refine Wk.iload X88 hx (hb hby at_96) rfl rfl ?_
          refine Wk.iload X88 hx (hb hby at_98) rfl rfl ?_
          by_cases hc90 : (2 : Int32) < p4
          · skip
            refine Wk.icmpYes X88 hx (hb hby at_100) (by decide) (q := 114) rfl (tlt hc90).1 ?_
            refine Wk.iconst X88 hx (v := (0 : Int32)) (hb hby at_114) rfl rfl ?_
            refine Wk.istore X88 hx (Ls' := #[.val (.int p0), .val (.int p1), .val (.int p2), .val (.int p3), .val (.int p4), .val (.int p5), .val (.int (3 : Int32)), .val (.int zz2), .val (.int zz3), .val (.int zz4), .val (.ref x81), .val (.int (2 : Int32)), .val (.int (0 : Int32))]) (hb hby at_115) rfl rfl ?_
            refine Wk.aload X88 hx (hb hby at_117) rfl rfl rfl ?_
            refine Wk.iload X88 hx (hb hby at_119) rfl rfl ?_
            refine Wk.iload X88 hx (hb hby at_121) rfl rfl ?_
            refine Wk.callS X88 hx hZ hown (w 30 _ rfl) (w 31 _ rfl) (w 32 _ rfl) (w 33 _ rfl) (by decide) (as' := [(.ref x81), (.int p4), (.int p5)]) (backOf (W := 0) (rm_wi31 l Z a0 hw [] x81 t81 kb81 G1 zz2 zz3 zz4 p4 p5 h81 O82 sH sL sA SG1 nG1 q81_0 q81_1 q81_2 q81_3 q2_0 q3_0 q4_0) hZ (w 33 _ rfl) (w 32 _ rfl) (by decide) (by decide)) e88 (by rw [hml]; rfl) (rest := []) (lenOf pd27 rfl) rfl (Nat.le_of_eq rfl) (hb hby at_123) rfl (by decide) (by decide) ?_
            intro T91 h91 v91 L91 X91 e91 hQ91
            obtain ⟨r91, rfl, Nq91, K91, q91_0⟩ := hQ91
            have N91 := Fk.app N88 Nq91 KK84.1 all0
            rw [K91] at e91
            show Wp p e below _ _ T91 (mkF m 126 #[.val (.int p0), .val (.int p1), .val (.int p2), .val (.int p3), .val (.int p4), .val (.int p5), .val (.int (3 : Int32)), .val (.int zz2), .val (.int zz3), .val (.int zz4), .val (.ref x81), .val (.int (2 : Int32)), .val (.int (0 : Int32))] [(.int r91)])
            refine Wk.iload X91 hx (hb hby at_126) rfl rfl ?_
            refine Wk.icmpNo X91 hx (hb hby at_128) rfl (teq (by obtain ⟨q_, hq_, hw_⟩ := q91_0; obtain rfl : q_ = (2 : Int32) := Cnt3.uniq hq_ (show Cnt3 zz2 zz3 zz4 (2 : Int32) from by simp [Cnt3, hh85, hh87, (fun q => own_hl q hh87)]); simp [Wth, hc90] at hw_; exact hw_)).2 ?_
            refine Wk.iconst X91 hx (v := (1 : Int32)) (hb hby at_131) rfl rfl ?_
            refine Wk.goto X91 hx (hb hby at_132) (by decide) (q := 136) rfl ?_
            exact Wk.retZW X91 hx hS (Nat.le_trans (Nat.le_refl _) KK84.1) hlk hr (by simp) (hb hby at_136) (by decide) (by decide) (Qc := Q_rm_law Z p0 p1 p2 p3 p4 p5 G1 h0) e91 (fun vm' hw' => ⟨rfl, N91, KK84⟩)
          · skip
            refine Wk.icmpNo X88 hx (hb hby at_100) rfl (flt hc90).1 ?_
            refine Wk.iload X88 hx (hb hby at_103) rfl rfl ?_
            refine Wk.iload X88 hx (hb hby at_105) rfl rfl ?_
            by_cases hc92 : p5 < (2 : Int32)
            · skip
              refine Wk.icmpYes X88 hx (hb hby at_107) (by decide) (q := 114) rfl (tlt hc92).2.2.1 ?_
              refine Wk.iconst X88 hx (v := (0 : Int32)) (hb hby at_114) rfl rfl ?_
              refine Wk.istore X88 hx (Ls' := #[.val (.int p0), .val (.int p1), .val (.int p2), .val (.int p3), .val (.int p4), .val (.int p5), .val (.int (3 : Int32)), .val (.int zz2), .val (.int zz3), .val (.int zz4), .val (.ref x81), .val (.int (2 : Int32)), .val (.int (0 : Int32))]) (hb hby at_115) rfl rfl ?_
              refine Wk.aload X88 hx (hb hby at_117) rfl rfl rfl ?_
              refine Wk.iload X88 hx (hb hby at_119) rfl rfl ?_
              refine Wk.iload X88 hx (hb hby at_121) rfl rfl ?_
              refine Wk.callS X88 hx hZ hown (w 30 _ rfl) (w 31 _ rfl) (w 32 _ rfl) (w 33 _ rfl) (by decide) (as' := [(.ref x81), (.int p4), (.int p5)]) (backOf (W := 0) (rm_wi31 l Z a0 hw [] x81 t81 kb81 G1 zz2 zz3 zz4 p4 p5 h81 O82 sH sL sA SG1 nG1 q81_0 q81_1 q81_2 q81_3 q2_0 q3_0 q4_0) hZ (w 33 _ rfl) (w 32 _ rfl) (by decide) (by decide)) e88 (by rw [hml]; rfl) (rest := []) (lenOf pd27 rfl) rfl (Nat.le_of_eq rfl) (hb hby at_123) rfl (by decide) (by decide) ?_
              intro T93 h93 v93 L93 X93 e93 hQ93
              obtain ⟨r93, rfl, Nq93, K93, q93_0⟩ := hQ93
              have N93 := Fk.app N88 Nq93 KK84.1 all0
              rw [K93] at e93
              show Wp p e below _ _ T93 (mkF m 126 #[.val (.int p0), .val (.int p1), .val (.int p2), .val (.int p3), .val (.int p4), .val (.int p5), .val (.int (3 : Int32)), .val (.int zz2), .val (.int zz3), .val (.int zz4), .val (.ref x81), .val (.int (2 : Int32)), .val (.int (0 : Int32))] [(.int r93)])
              refine Wk.iload X93 hx (hb hby at_126) rfl rfl ?_
              refine Wk.icmpNo X93 hx (hb hby at_128) rfl (teq (by obtain ⟨q_, hq_, hw_⟩ := q93_0; obtain rfl : q_ = (2 : Int32) := Cnt3.uniq hq_ (show Cnt3 zz2 zz3 zz4 (2 : Int32) from by simp [Cnt3, hh85, hh87, (fun q => own_hl q hh87)]); simp [Wth, hc90, hc92] at hw_; exact hw_)).2 ?_
              refine Wk.iconst X93 hx (v := (1 : Int32)) (hb hby at_131) rfl rfl ?_
              refine Wk.goto X93 hx (hb hby at_132) (by decide) (q := 136) rfl ?_
              exact Wk.retZW X93 hx hS (Nat.le_trans (Nat.le_refl _) KK84.1) hlk hr (by simp) (hb hby at_136) (by decide) (by decide) (Qc := Q_rm_law Z p0 p1 p2 p3 p4 p5 G1 h0) e93 (fun vm' hw' => ⟨rfl, N93, KK84⟩)
            · skip
              refine Wk.icmpNo X88 hx (hb hby at_107) rfl (flt hc92).2.2.1 ?_
              refine Wk.iconst X88 hx (v := (1 : Int32)) (hb hby at_110) rfl rfl ?_
              refine Wk.goto X88 hx (hb hby at_111) (by decide) (q := 115) rfl ?_
              refine Wk.istore X88 hx (Ls' := #[.val (.int p0), .val (.int p1), .val (.int p2), .val (.int p3), .val (.int p4), .val (.int p5), .val (.int (3 : Int32)), .val (.int zz2), .val (.int zz3), .val (.int zz4), .val (.ref x81), .val (.int (2 : Int32)), .val (.int (1 : Int32))]) (hb hby at_115) rfl rfl ?_
              refine Wk.aload X88 hx (hb hby at_117) rfl rfl rfl ?_
              refine Wk.iload X88 hx (hb hby at_119) rfl rfl ?_
              refine Wk.iload X88 hx (hb hby at_121) rfl rfl ?_
              refine Wk.callS X88 hx hZ hown (w 30 _ rfl) (w 31 _ rfl) (w 32 _ rfl) (w 33 _ rfl) (by decide) (as' := [(.ref x81), (.int p4), (.int p5)]) (backOf (W := 0) (rm_wi31 l Z a0 hw [] x81 t81 kb81 G1 zz2 zz3 zz4 p4 p5 h81 O82 sH sL sA SG1 nG1 q81_0 q81_1 q81_2 q81_3 q2_0 q3_0 q4_0) hZ (w 33 _ rfl) (w 32 _ rfl) (by decide) (by decide)) e88 (by rw [hml]; rfl) (rest := []) (lenOf pd27 rfl) rfl (Nat.le_of_eq rfl) (hb hby at_123) rfl (by decide) (by decide) ?_
              intro T94 h94 v94 L94 X94 e94 hQ94
              obtain ⟨r94, rfl, Nq94, K94, q94_0⟩ := hQ94
              have N94 := Fk.app N88 Nq94 KK84.1 all0
              rw [K94] at e94
              show Wp p e below _ _ T94 (mkF m 126 #[.val (.int p0), .val (.int p1), .val (.int p2), .val (.int p3), .val (.int p4), .val (.int p5), .val (.int (3 : Int32)), .val (.int zz2), .val (.int zz3), .val (.int zz4), .val (.ref x81), .val (.int (2 : Int32)), .val (.int (1 : Int32))] [(.int r94)])
              refine Wk.iload X94 hx (hb hby at_126) rfl rfl ?_
              refine Wk.icmpNo X94 hx (hb hby at_128) rfl (teq (by obtain ⟨q_, hq_, hw_⟩ := q94_0; obtain rfl : q_ = (2 : Int32) := Cnt3.uniq hq_ (show Cnt3 zz2 zz3 zz4 (2 : Int32) from by simp [Cnt3, hh85, hh87, (fun q => own_hl q hh87)]); simp [Wth, hc90, hc92] at hw_; exact hw_)).2 ?_
              refine Wk.iconst X94 hx (v := (1 : Int32)) (hb hby at_131) rfl rfl ?_
              refine Wk.goto X94 hx (hb hby at_132) (by decide) (q := 136) rfl ?_
              exact Wk.retZW X94 hx hS (Nat.le_trans (Nat.le_refl _) KK84.1) hlk hr (by simp) (hb hby at_136) (by decide) (by decide) (Qc := Q_rm_law Z p0 p1 p2 p3 p4 p5 G1 h0) e94 (fun vm' hw' => ⟨rfl, N94, KK84⟩)
        · skip
          refine Wk.ifYes X86 hx (hb hby at_59) (by decide) (q := 68) rfl ((if0 _ _).trans (teq (by decide : (0 : Int32) = (0 : Int32))).1) ?_
          refine Wk.iload X86 hx (hb hby at_68) rfl rfl ?_
          refine Wk.iconst X86 hx (v := (3 : Int32)) (hb hby at_70) rfl rfl ?_
          refine Wk.icmpNo X86 hx (hb hby at_71) rfl (flt (by decide : ¬ ((3 : Int32) < (3 : Int32)))).1 ?_
          refine Wk.iload X86 hx (hb hby at_74) rfl rfl ?_
          refine Wk.callS X86 hx hZ hown (w 95 _ rfl) (w 96 _ rfl) (w 2 _ rfl) (w 97 _ rfl) (by decide) (as' := [(.int zz3)]) (backOf (W := 0) (rm_lhi l Z a0 hw [] zz3 h81 O82) hZ (w 97 _ rfl) (w 2 _ rfl) (by decide) (by decide)) e86 (by rw [hml]; rfl) (rest := []) (lenOf pd14 rfl) rfl (Nat.le_of_eq rfl) (hb hby at_76) rfl (by decide) (by decide) ?_
          intro T95 h95 v95 L95 X95 e95 hQ95
          obtain ⟨r95, rfl, Nq95, K95, q95_0⟩ := hQ95
          have N95 := Fk.app N86 Nq95 KK84.1 all0
          rw [K95] at e95
          show Wp p e below _ _ T95 (mkF m 79 #[.val (.int p0), .val (.int p1), .val (.int p2), .val (.int p3), .val (.int p4), .val (.int p5), .val (.int (3 : Int32)), .val (.int zz2), .val (.int zz3), .val (.int zz4), .val (.ref x81), .val (.int (3 : Int32)), .unset] [(.int r95)])
          rcases q95_0 with ⟨rfl, hh96⟩ | ⟨rfl, hh96⟩
          · skip
            refine Wk.ifNo X95 hx (hb hby at_79) rfl ((if0 _ _).trans (feq (by decide : ¬ ((1 : Int32) = (0 : Int32)))).1) ?_
            refine Wk.iload X95 hx (hb hby at_82) rfl rfl ?_
            refine Wk.callS X95 hx hZ hown (w 110 _ rfl) (w 111 _ rfl) (w 2 _ rfl) (w 112 _ rfl) (by decide) (as' := [(.int zz4)]) (backOf (W := 0) (rm_llo l Z a0 hw [] zz4 h81 O82) hZ (w 112 _ rfl) (w 2 _ rfl) (by decide) (by decide)) e95 (by rw [hml]; rfl) (rest := []) (lenOf pd14 rfl) rfl (Nat.le_of_eq rfl) (hb hby at_84) rfl (by decide) (by decide) ?_
            intro T97 h97 v97 L97 X97 e97 hQ97
            obtain ⟨r97, rfl, Nq97, K97, q97_0⟩ := hQ97
            have N97 := Fk.app N95 Nq97 KK84.1 all0
            rw [K97] at e97
            show Wp p e below _ _ T97 (mkF m 87 #[.val (.int p0), .val (.int p1), .val (.int p2), .val (.int p3), .val (.int p4), .val (.int p5), .val (.int (3 : Int32)), .val (.int zz2), .val (.int zz3), .val (.int zz4), .val (.ref x81), .val (.int (3 : Int32)), .unset] [(.int r97)])
            rcases q97_0 with ⟨rfl, hh98⟩ | ⟨rfl, hh98⟩
            · skip
              refine Wk.ifNo X97 hx (hb hby at_87) rfl ((if0 _ _).trans (feq (by decide : ¬ ((1 : Int32) = (0 : Int32)))).1) ?_
              refine Wk.iload X97 hx (hb hby at_90) rfl rfl ?_
              refine Wk.iconst X97 hx (v := (1 : Int32)) (hb hby at_92) rfl rfl ?_
              refine Wk.isub X97 hx (hb hby at_93) rfl ?_
              rw [(by decide : (((3 : Int32) - (1 : Int32)) : Int32) = (2 : Int32))]
              refine Wk.istore X97 hx (Ls' := #[.val (.int p0), .val (.int p1), .val (.int p2), .val (.int p3), .val (.int p4), .val (.int p5), .val (.int (3 : Int32)), .val (.int zz2), .val (.int zz3), .val (.int zz4), .val (.ref x81), .val (.int (2 : Int32)), .unset]) (hb hby at_94) rfl rfl ?_
              refine Wk.iload X97 hx (hb hby at_96) rfl rfl ?_
              refine Wk.iload X97 hx (hb hby at_98) rfl rfl ?_
              by_cases hc99 : (2 : Int32) < p4
              · skip
                refine Wk.icmpYes X97 hx (hb hby at_100) (by decide) (q := 114) rfl (tlt hc99).1 ?_
                refine Wk.iconst X97 hx (v := (0 : Int32)) (hb hby at_114) rfl rfl ?_
                refine Wk.istore X97 hx (Ls' := #[.val (.int p0), .val (.int p1), .val (.int p2), .val (.int p3), .val (.int p4), .val (.int p5), .val (.int (3 : Int32)), .val (.int zz2), .val (.int zz3), .val (.int zz4), .val (.ref x81), .val (.int (2 : Int32)), .val (.int (0 : Int32))]) (hb hby at_115) rfl rfl ?_
                refine Wk.aload X97 hx (hb hby at_117) rfl rfl rfl ?_
                refine Wk.iload X97 hx (hb hby at_119) rfl rfl ?_
                refine Wk.iload X97 hx (hb hby at_121) rfl rfl ?_
                refine Wk.callS X97 hx hZ hown (w 30 _ rfl) (w 31 _ rfl) (w 32 _ rfl) (w 33 _ rfl) (by decide) (as' := [(.ref x81), (.int p4), (.int p5)]) (backOf (W := 0) (rm_wi31 l Z a0 hw [] x81 t81 kb81 G1 zz2 zz3 zz4 p4 p5 h81 O82 sH sL sA SG1 nG1 q81_0 q81_1 q81_2 q81_3 q2_0 q3_0 q4_0) hZ (w 33 _ rfl) (w 32 _ rfl) (by decide) (by decide)) e97 (by rw [hml]; rfl) (rest := []) (lenOf pd27 rfl) rfl (Nat.le_of_eq rfl) (hb hby at_123) rfl (by decide) (by decide) ?_
                intro T100 h100 v100 L100 X100 e100 hQ100
                obtain ⟨r100, rfl, Nq100, K100, q100_0⟩ := hQ100
                have N100 := Fk.app N97 Nq100 KK84.1 all0
                rw [K100] at e100
                show Wp p e below _ _ T100 (mkF m 126 #[.val (.int p0), .val (.int p1), .val (.int p2), .val (.int p3), .val (.int p4), .val (.int p5), .val (.int (3 : Int32)), .val (.int zz2), .val (.int zz3), .val (.int zz4), .val (.ref x81), .val (.int (2 : Int32)), .val (.int (0 : Int32))] [(.int r100)])
                refine Wk.iload X100 hx (hb hby at_126) rfl rfl ?_
                refine Wk.icmpNo X100 hx (hb hby at_128) rfl (teq (by obtain ⟨q_, hq_, hw_⟩ := q100_0; obtain rfl : q_ = (2 : Int32) := Cnt3.uniq hq_ (show Cnt3 zz2 zz3 zz4 (2 : Int32) from by simp [Cnt3, hh85, hh87, hh96, hh98]); simp [Wth, hc99] at hw_; exact hw_)).2 ?_
                refine Wk.iconst X100 hx (v := (1 : Int32)) (hb hby at_131) rfl rfl ?_
                refine Wk.goto X100 hx (hb hby at_132) (by decide) (q := 136) rfl ?_
                exact Wk.retZW X100 hx hS (Nat.le_trans (Nat.le_refl _) KK84.1) hlk hr (by simp) (hb hby at_136) (by decide) (by decide) (Qc := Q_rm_law Z p0 p1 p2 p3 p4 p5 G1 h0) e100 (fun vm' hw' => ⟨rfl, N100, KK84⟩)
              · skip
                refine Wk.icmpNo X97 hx (hb hby at_100) rfl (flt hc99).1 ?_
                refine Wk.iload X97 hx (hb hby at_103) rfl rfl ?_
                refine Wk.iload X97 hx (hb hby at_105) rfl rfl ?_
                by_cases hc101 : p5 < (2 : Int32)
                · skip
                  refine Wk.icmpYes X97 hx (hb hby at_107) (by decide) (q := 114) rfl (tlt hc101).2.2.1 ?_
                  refine Wk.iconst X97 hx (v := (0 : Int32)) (hb hby at_114) rfl rfl ?_
                  refine Wk.istore X97 hx (Ls' := #[.val (.int p0), .val (.int p1), .val (.int p2), .val (.int p3), .val (.int p4), .val (.int p5), .val (.int (3 : Int32)), .val (.int zz2), .val (.int zz3), .val (.int zz4), .val (.ref x81), .val (.int (2 : Int32)), .val (.int (0 : Int32))]) (hb hby at_115) rfl rfl ?_
                  refine Wk.aload X97 hx (hb hby at_117) rfl rfl rfl ?_
                  refine Wk.iload X97 hx (hb hby at_119) rfl rfl ?_
                  refine Wk.iload X97 hx (hb hby at_121) rfl rfl ?_
                  refine Wk.callS X97 hx hZ hown (w 30 _ rfl) (w 31 _ rfl) (w 32 _ rfl) (w 33 _ rfl) (by decide) (as' := [(.ref x81), (.int p4), (.int p5)]) (backOf (W := 0) (rm_wi31 l Z a0 hw [] x81 t81 kb81 G1 zz2 zz3 zz4 p4 p5 h81 O82 sH sL sA SG1 nG1 q81_0 q81_1 q81_2 q81_3 q2_0 q3_0 q4_0) hZ (w 33 _ rfl) (w 32 _ rfl) (by decide) (by decide)) e97 (by rw [hml]; rfl) (rest := []) (lenOf pd27 rfl) rfl (Nat.le_of_eq rfl) (hb hby at_123) rfl (by decide) (by decide) ?_
                  intro T102 h102 v102 L102 X102 e102 hQ102
                  obtain ⟨r102, rfl, Nq102, K102, q102_0⟩ := hQ102
                  have N102 := Fk.app N97 Nq102 KK84.1 all0
                  rw [K102] at e102
                  show Wp p e below _ _ T102 (mkF m 126 #[.val (.int p0), .val (.int p1), .val (.int p2), .val (.int p3), .val (.int p4), .val (.int p5), .val (.int (3 : Int32)), .val (.int zz2), .val (.int zz3), .val (.int zz4), .val (.ref x81), .val (.int (2 : Int32)), .val (.int (0 : Int32))] [(.int r102)])
                  refine Wk.iload X102 hx (hb hby at_126) rfl rfl ?_
                  refine Wk.icmpNo X102 hx (hb hby at_128) rfl (teq (by obtain ⟨q_, hq_, hw_⟩ := q102_0; obtain rfl : q_ = (2 : Int32) := Cnt3.uniq hq_ (show Cnt3 zz2 zz3 zz4 (2 : Int32) from by simp [Cnt3, hh85, hh87, hh96, hh98]); simp [Wth, hc99, hc101] at hw_; exact hw_)).2 ?_
                  refine Wk.iconst X102 hx (v := (1 : Int32)) (hb hby at_131) rfl rfl ?_
                  refine Wk.goto X102 hx (hb hby at_132) (by decide) (q := 136) rfl ?_
                  exact Wk.retZW X102 hx hS (Nat.le_trans (Nat.le_refl _) KK84.1) hlk hr (by simp) (hb hby at_136) (by decide) (by decide) (Qc := Q_rm_law Z p0 p1 p2 p3 p4 p5 G1 h0) e102 (fun vm' hw' => ⟨rfl, N102, KK84⟩)
                · skip
                  refine Wk.icmpNo X97 hx (hb hby at_107) rfl (flt hc101).2.2.1 ?_
                  refine Wk.iconst X97 hx (v := (1 : Int32)) (hb hby at_110) rfl rfl ?_
                  refine Wk.goto X97 hx (hb hby at_111) (by decide) (q := 115) rfl ?_
                  refine Wk.istore X97 hx (Ls' := #[.val (.int p0), .val (.int p1), .val (.int p2), .val (.int p3), .val (.int p4), .val (.int p5), .val (.int (3 : Int32)), .val (.int zz2), .val (.int zz3), .val (.int zz4), .val (.ref x81), .val (.int (2 : Int32)), .val (.int (1 : Int32))]) (hb hby at_115) rfl rfl ?_
                  refine Wk.aload X97 hx (hb hby at_117) rfl rfl rfl ?_
                  refine Wk.iload X97 hx (hb hby at_119) rfl rfl ?_
                  refine Wk.iload X97 hx (hb hby at_121) rfl rfl ?_
                  refine Wk.callS X97 hx hZ hown (w 30 _ rfl) (w 31 _ rfl) (w 32 _ rfl) (w 33 _ rfl) (by decide) (as' := [(.ref x81), (.int p4), (.int p5)]) (backOf (W := 0) (rm_wi31 l Z a0 hw [] x81 t81 kb81 G1 zz2 zz3 zz4 p4 p5 h81 O82 sH sL sA SG1 nG1 q81_0 q81_1 q81_2 q81_3 q2_0 q3_0 q4_0) hZ (w 33 _ rfl) (w 32 _ rfl) (by decide) (by decide)) e97 (by rw [hml]; rfl) (rest := []) (lenOf pd27 rfl) rfl (Nat.le_of_eq rfl) (hb hby at_123) rfl (by decide) (by decide) ?_
                  intro T103 h103 v103 L103 X103 e103 hQ103
                  obtain ⟨r103, rfl, Nq103, K103, q103_0⟩ := hQ103
                  have N103 := Fk.app N97 Nq103 KK84.1 all0
                  rw [K103] at e103
                  show Wp p e below _ _ T103 (mkF m 126 #[.val (.int p0), .val (.int p1), .val (.int p2), .val (.int p3), .val (.int p4), .val (.int p5), .val (.int (3 : Int32)), .val (.int zz2), .val (.int zz3), .val (.int zz4), .val (.ref x81), .val (.int (2 : Int32)), .val (.int (1 : Int32))] [(.int r103)])
                  refine Wk.iload X103 hx (hb hby at_126) rfl rfl ?_
                  refine Wk.icmpNo X103 hx (hb hby at_128) rfl (teq (by obtain ⟨q_, hq_, hw_⟩ := q103_0; obtain rfl : q_ = (2 : Int32) := Cnt3.uniq hq_ (show Cnt3 zz2 zz3 zz4 (2 : Int32) from by simp [Cnt3, hh85, hh87, hh96, hh98]); simp [Wth, hc99, hc101] at hw_; exact hw_)).2 ?_
                  refine Wk.iconst X103 hx (v := (1 : Int32)) (hb hby at_131) rfl rfl ?_
                  refine Wk.goto X103 hx (hb hby at_132) (by decide) (q := 136) rfl ?_
                  exact Wk.retZW X103 hx hS (Nat.le_trans (Nat.le_refl _) KK84.1) hlk hr (by simp) (hb hby at_136) (by decide) (by decide) (Qc := Q_rm_law Z p0 p1 p2 p3 p4 p5 G1 h0) e103 (fun vm' hw' => ⟨rfl, N103, KK84⟩)
            · skip
              refine Wk.ifYes X97 hx (hb hby at_87) (by decide) (q := 96) rfl ((if0 _ _).trans (teq (by decide : (0 : Int32) = (0 : Int32))).1) ?_
              refine Wk.iload X97 hx (hb hby at_96) rfl rfl ?_
              refine Wk.iload X97 hx (hb hby at_98) rfl rfl ?_
              by_cases hc104 : (3 : Int32) < p4
              · skip
                refine Wk.icmpYes X97 hx (hb hby at_100) (by decide) (q := 114) rfl (tlt hc104).1 ?_
                refine Wk.iconst X97 hx (v := (0 : Int32)) (hb hby at_114) rfl rfl ?_
                refine Wk.istore X97 hx (Ls' := #[.val (.int p0), .val (.int p1), .val (.int p2), .val (.int p3), .val (.int p4), .val (.int p5), .val (.int (3 : Int32)), .val (.int zz2), .val (.int zz3), .val (.int zz4), .val (.ref x81), .val (.int (3 : Int32)), .val (.int (0 : Int32))]) (hb hby at_115) rfl rfl ?_
                refine Wk.aload X97 hx (hb hby at_117) rfl rfl rfl ?_
                refine Wk.iload X97 hx (hb hby at_119) rfl rfl ?_
                refine Wk.iload X97 hx (hb hby at_121) rfl rfl ?_
                refine Wk.callS X97 hx hZ hown (w 30 _ rfl) (w 31 _ rfl) (w 32 _ rfl) (w 33 _ rfl) (by decide) (as' := [(.ref x81), (.int p4), (.int p5)]) (backOf (W := 0) (rm_wi31 l Z a0 hw [] x81 t81 kb81 G1 zz2 zz3 zz4 p4 p5 h81 O82 sH sL sA SG1 nG1 q81_0 q81_1 q81_2 q81_3 q2_0 q3_0 q4_0) hZ (w 33 _ rfl) (w 32 _ rfl) (by decide) (by decide)) e97 (by rw [hml]; rfl) (rest := []) (lenOf pd27 rfl) rfl (Nat.le_of_eq rfl) (hb hby at_123) rfl (by decide) (by decide) ?_
                intro T105 h105 v105 L105 X105 e105 hQ105
                obtain ⟨r105, rfl, Nq105, K105, q105_0⟩ := hQ105
                have N105 := Fk.app N97 Nq105 KK84.1 all0
                rw [K105] at e105
                show Wp p e below _ _ T105 (mkF m 126 #[.val (.int p0), .val (.int p1), .val (.int p2), .val (.int p3), .val (.int p4), .val (.int p5), .val (.int (3 : Int32)), .val (.int zz2), .val (.int zz3), .val (.int zz4), .val (.ref x81), .val (.int (3 : Int32)), .val (.int (0 : Int32))] [(.int r105)])
                refine Wk.iload X105 hx (hb hby at_126) rfl rfl ?_
                refine Wk.icmpNo X105 hx (hb hby at_128) rfl (teq (by obtain ⟨q_, hq_, hw_⟩ := q105_0; obtain rfl : q_ = (3 : Int32) := Cnt3.uniq hq_ (show Cnt3 zz2 zz3 zz4 (3 : Int32) from by simp [Cnt3, hh85, hh87, hh96, hh98]); simp [Wth, hc104] at hw_; exact hw_)).2 ?_
                refine Wk.iconst X105 hx (v := (1 : Int32)) (hb hby at_131) rfl rfl ?_
                refine Wk.goto X105 hx (hb hby at_132) (by decide) (q := 136) rfl ?_
                exact Wk.retZW X105 hx hS (Nat.le_trans (Nat.le_refl _) KK84.1) hlk hr (by simp) (hb hby at_136) (by decide) (by decide) (Qc := Q_rm_law Z p0 p1 p2 p3 p4 p5 G1 h0) e105 (fun vm' hw' => ⟨rfl, N105, KK84⟩)
              · skip
                refine Wk.icmpNo X97 hx (hb hby at_100) rfl (flt hc104).1 ?_
                refine Wk.iload X97 hx (hb hby at_103) rfl rfl ?_
                refine Wk.iload X97 hx (hb hby at_105) rfl rfl ?_
                by_cases hc106 : p5 < (3 : Int32)
                · skip
                  refine Wk.icmpYes X97 hx (hb hby at_107) (by decide) (q := 114) rfl (tlt hc106).2.2.1 ?_
                  refine Wk.iconst X97 hx (v := (0 : Int32)) (hb hby at_114) rfl rfl ?_
                  refine Wk.istore X97 hx (Ls' := #[.val (.int p0), .val (.int p1), .val (.int p2), .val (.int p3), .val (.int p4), .val (.int p5), .val (.int (3 : Int32)), .val (.int zz2), .val (.int zz3), .val (.int zz4), .val (.ref x81), .val (.int (3 : Int32)), .val (.int (0 : Int32))]) (hb hby at_115) rfl rfl ?_
                  refine Wk.aload X97 hx (hb hby at_117) rfl rfl rfl ?_
                  refine Wk.iload X97 hx (hb hby at_119) rfl rfl ?_
                  refine Wk.iload X97 hx (hb hby at_121) rfl rfl ?_
                  refine Wk.callS X97 hx hZ hown (w 30 _ rfl) (w 31 _ rfl) (w 32 _ rfl) (w 33 _ rfl) (by decide) (as' := [(.ref x81), (.int p4), (.int p5)]) (backOf (W := 0) (rm_wi31 l Z a0 hw [] x81 t81 kb81 G1 zz2 zz3 zz4 p4 p5 h81 O82 sH sL sA SG1 nG1 q81_0 q81_1 q81_2 q81_3 q2_0 q3_0 q4_0) hZ (w 33 _ rfl) (w 32 _ rfl) (by decide) (by decide)) e97 (by rw [hml]; rfl) (rest := []) (lenOf pd27 rfl) rfl (Nat.le_of_eq rfl) (hb hby at_123) rfl (by decide) (by decide) ?_
                  intro T107 h107 v107 L107 X107 e107 hQ107
                  obtain ⟨r107, rfl, Nq107, K107, q107_0⟩ := hQ107
                  have N107 := Fk.app N97 Nq107 KK84.1 all0
                  rw [K107] at e107
                  show Wp p e below _ _ T107 (mkF m 126 #[.val (.int p0), .val (.int p1), .val (.int p2), .val (.int p3), .val (.int p4), .val (.int p5), .val (.int (3 : Int32)), .val (.int zz2), .val (.int zz3), .val (.int zz4), .val (.ref x81), .val (.int (3 : Int32)), .val (.int (0 : Int32))] [(.int r107)])
                  refine Wk.iload X107 hx (hb hby at_126) rfl rfl ?_
                  refine Wk.icmpNo X107 hx (hb hby at_128) rfl (teq (by obtain ⟨q_, hq_, hw_⟩ := q107_0; obtain rfl : q_ = (3 : Int32) := Cnt3.uniq hq_ (show Cnt3 zz2 zz3 zz4 (3 : Int32) from by simp [Cnt3, hh85, hh87, hh96, hh98]); simp [Wth, hc104, hc106] at hw_; exact hw_)).2 ?_
                  refine Wk.iconst X107 hx (v := (1 : Int32)) (hb hby at_131) rfl rfl ?_
                  refine Wk.goto X107 hx (hb hby at_132) (by decide) (q := 136) rfl ?_
                  exact Wk.retZW X107 hx hS (Nat.le_trans (Nat.le_refl _) KK84.1) hlk hr (by simp) (hb hby at_136) (by decide) (by decide) (Qc := Q_rm_law Z p0 p1 p2 p3 p4 p5 G1 h0) e107 (fun vm' hw' => ⟨rfl, N107, KK84⟩)
                · skip
                  refine Wk.icmpNo X97 hx (hb hby at_107) rfl (flt hc106).2.2.1 ?_
                  refine Wk.iconst X97 hx (v := (1 : Int32)) (hb hby at_110) rfl rfl ?_
                  refine Wk.goto X97 hx (hb hby at_111) (by decide) (q := 115) rfl ?_
                  refine Wk.istore X97 hx (Ls' := #[.val (.int p0), .val (.int p1), .val (.int p2), .val (.int p3), .val (.int p4), .val (.int p5), .val (.int (3 : Int32)), .val (.int zz2), .val (.int zz3), .val (.int zz4), .val (.ref x81), .val (.int (3 : Int32)), .val (.int (1 : Int32))]) (hb hby at_115) rfl rfl ?_
                  refine Wk.aload X97 hx (hb hby at_117) rfl rfl rfl ?_
                  refine Wk.iload X97 hx (hb hby at_119) rfl rfl ?_
                  refine Wk.iload X97 hx (hb hby at_121) rfl rfl ?_
                  refine Wk.callS X97 hx hZ hown (w 30 _ rfl) (w 31 _ rfl) (w 32 _ rfl) (w 33 _ rfl) (by decide) (as' := [(.ref x81), (.int p4), (.int p5)]) (backOf (W := 0) (rm_wi31 l Z a0 hw [] x81 t81 kb81 G1 zz2 zz3 zz4 p4 p5 h81 O82 sH sL sA SG1 nG1 q81_0 q81_1 q81_2 q81_3 q2_0 q3_0 q4_0) hZ (w 33 _ rfl) (w 32 _ rfl) (by decide) (by decide)) e97 (by rw [hml]; rfl) (rest := []) (lenOf pd27 rfl) rfl (Nat.le_of_eq rfl) (hb hby at_123) rfl (by decide) (by decide) ?_
                  intro T108 h108 v108 L108 X108 e108 hQ108
                  obtain ⟨r108, rfl, Nq108, K108, q108_0⟩ := hQ108
                  have N108 := Fk.app N97 Nq108 KK84.1 all0
                  rw [K108] at e108
                  show Wp p e below _ _ T108 (mkF m 126 #[.val (.int p0), .val (.int p1), .val (.int p2), .val (.int p3), .val (.int p4), .val (.int p5), .val (.int (3 : Int32)), .val (.int zz2), .val (.int zz3), .val (.int zz4), .val (.ref x81), .val (.int (3 : Int32)), .val (.int (1 : Int32))] [(.int r108)])
                  refine Wk.iload X108 hx (hb hby at_126) rfl rfl ?_
                  refine Wk.icmpNo X108 hx (hb hby at_128) rfl (teq (by obtain ⟨q_, hq_, hw_⟩ := q108_0; obtain rfl : q_ = (3 : Int32) := Cnt3.uniq hq_ (show Cnt3 zz2 zz3 zz4 (3 : Int32) from by simp [Cnt3, hh85, hh87, hh96, hh98]); simp [Wth, hc104, hc106] at hw_; exact hw_)).2 ?_
                  refine Wk.iconst X108 hx (v := (1 : Int32)) (hb hby at_131) rfl rfl ?_
                  refine Wk.goto X108 hx (hb hby at_132) (by decide) (q := 136) rfl ?_
                  exact Wk.retZW X108 hx hS (Nat.le_trans (Nat.le_refl _) KK84.1) hlk hr (by simp) (hb hby at_136) (by decide) (by decide) (Qc := Q_rm_law Z p0 p1 p2 p3 p4 p5 G1 h0) e108 (fun vm' hw' => ⟨rfl, N108, KK84⟩)
          · skip
            refine Wk.ifYes X95 hx (hb hby at_79) (by decide) (q := 96) rfl ((if0 _ _).trans (teq (by decide : (0 : Int32) = (0 : Int32))).1) ?_
            refine Wk.iload X95 hx (hb hby at_96) rfl rfl ?_
            refine Wk.iload X95 hx (hb hby at_98) rfl rfl ?_
            by_cases hc109 : (3 : Int32) < p4
            · skip
              refine Wk.icmpYes X95 hx (hb hby at_100) (by decide) (q := 114) rfl (tlt hc109).1 ?_
              refine Wk.iconst X95 hx (v := (0 : Int32)) (hb hby at_114) rfl rfl ?_
              refine Wk.istore X95 hx (Ls' := #[.val (.int p0), .val (.int p1), .val (.int p2), .val (.int p3), .val (.int p4), .val (.int p5), .val (.int (3 : Int32)), .val (.int zz2), .val (.int zz3), .val (.int zz4), .val (.ref x81), .val (.int (3 : Int32)), .val (.int (0 : Int32))]) (hb hby at_115) rfl rfl ?_
              refine Wk.aload X95 hx (hb hby at_117) rfl rfl rfl ?_
              refine Wk.iload X95 hx (hb hby at_119) rfl rfl ?_
              refine Wk.iload X95 hx (hb hby at_121) rfl rfl ?_
              refine Wk.callS X95 hx hZ hown (w 30 _ rfl) (w 31 _ rfl) (w 32 _ rfl) (w 33 _ rfl) (by decide) (as' := [(.ref x81), (.int p4), (.int p5)]) (backOf (W := 0) (rm_wi31 l Z a0 hw [] x81 t81 kb81 G1 zz2 zz3 zz4 p4 p5 h81 O82 sH sL sA SG1 nG1 q81_0 q81_1 q81_2 q81_3 q2_0 q3_0 q4_0) hZ (w 33 _ rfl) (w 32 _ rfl) (by decide) (by decide)) e95 (by rw [hml]; rfl) (rest := []) (lenOf pd27 rfl) rfl (Nat.le_of_eq rfl) (hb hby at_123) rfl (by decide) (by decide) ?_
              intro T110 h110 v110 L110 X110 e110 hQ110
              obtain ⟨r110, rfl, Nq110, K110, q110_0⟩ := hQ110
              have N110 := Fk.app N95 Nq110 KK84.1 all0
              rw [K110] at e110
              show Wp p e below _ _ T110 (mkF m 126 #[.val (.int p0), .val (.int p1), .val (.int p2), .val (.int p3), .val (.int p4), .val (.int p5), .val (.int (3 : Int32)), .val (.int zz2), .val (.int zz3), .val (.int zz4), .val (.ref x81), .val (.int (3 : Int32)), .val (.int (0 : Int32))] [(.int r110)])
              refine Wk.iload X110 hx (hb hby at_126) rfl rfl ?_
              refine Wk.icmpNo X110 hx (hb hby at_128) rfl (teq (by obtain ⟨q_, hq_, hw_⟩ := q110_0; obtain rfl : q_ = (3 : Int32) := Cnt3.uniq hq_ (show Cnt3 zz2 zz3 zz4 (3 : Int32) from by simp [Cnt3, hh85, hh87, hh96]); simp [Wth, hc109] at hw_; exact hw_)).2 ?_
              refine Wk.iconst X110 hx (v := (1 : Int32)) (hb hby at_131) rfl rfl ?_
              refine Wk.goto X110 hx (hb hby at_132) (by decide) (q := 136) rfl ?_
              exact Wk.retZW X110 hx hS (Nat.le_trans (Nat.le_refl _) KK84.1) hlk hr (by simp) (hb hby at_136) (by decide) (by decide) (Qc := Q_rm_law Z p0 p1 p2 p3 p4 p5 G1 h0) e110 (fun vm' hw' => ⟨rfl, N110, KK84⟩)
            · skip
              refine Wk.icmpNo X95 hx (hb hby at_100) rfl (flt hc109).1 ?_
              refine Wk.iload X95 hx (hb hby at_103) rfl rfl ?_
              refine Wk.iload X95 hx (hb hby at_105) rfl rfl ?_
              by_cases hc111 : p5 < (3 : Int32)
              · skip
                refine Wk.icmpYes X95 hx (hb hby at_107) (by decide) (q := 114) rfl (tlt hc111).2.2.1 ?_
                refine Wk.iconst X95 hx (v := (0 : Int32)) (hb hby at_114) rfl rfl ?_
                refine Wk.istore X95 hx (Ls' := #[.val (.int p0), .val (.int p1), .val (.int p2), .val (.int p3), .val (.int p4), .val (.int p5), .val (.int (3 : Int32)), .val (.int zz2), .val (.int zz3), .val (.int zz4), .val (.ref x81), .val (.int (3 : Int32)), .val (.int (0 : Int32))]) (hb hby at_115) rfl rfl ?_
                refine Wk.aload X95 hx (hb hby at_117) rfl rfl rfl ?_
                refine Wk.iload X95 hx (hb hby at_119) rfl rfl ?_
                refine Wk.iload X95 hx (hb hby at_121) rfl rfl ?_
                refine Wk.callS X95 hx hZ hown (w 30 _ rfl) (w 31 _ rfl) (w 32 _ rfl) (w 33 _ rfl) (by decide) (as' := [(.ref x81), (.int p4), (.int p5)]) (backOf (W := 0) (rm_wi31 l Z a0 hw [] x81 t81 kb81 G1 zz2 zz3 zz4 p4 p5 h81 O82 sH sL sA SG1 nG1 q81_0 q81_1 q81_2 q81_3 q2_0 q3_0 q4_0) hZ (w 33 _ rfl) (w 32 _ rfl) (by decide) (by decide)) e95 (by rw [hml]; rfl) (rest := []) (lenOf pd27 rfl) rfl (Nat.le_of_eq rfl) (hb hby at_123) rfl (by decide) (by decide) ?_
                intro T112 h112 v112 L112 X112 e112 hQ112
                obtain ⟨r112, rfl, Nq112, K112, q112_0⟩ := hQ112
                have N112 := Fk.app N95 Nq112 KK84.1 all0
                rw [K112] at e112
                show Wp p e below _ _ T112 (mkF m 126 #[.val (.int p0), .val (.int p1), .val (.int p2), .val (.int p3), .val (.int p4), .val (.int p5), .val (.int (3 : Int32)), .val (.int zz2), .val (.int zz3), .val (.int zz4), .val (.ref x81), .val (.int (3 : Int32)), .val (.int (0 : Int32))] [(.int r112)])
                refine Wk.iload X112 hx (hb hby at_126) rfl rfl ?_
                refine Wk.icmpNo X112 hx (hb hby at_128) rfl (teq (by obtain ⟨q_, hq_, hw_⟩ := q112_0; obtain rfl : q_ = (3 : Int32) := Cnt3.uniq hq_ (show Cnt3 zz2 zz3 zz4 (3 : Int32) from by simp [Cnt3, hh85, hh87, hh96]); simp [Wth, hc109, hc111] at hw_; exact hw_)).2 ?_
                refine Wk.iconst X112 hx (v := (1 : Int32)) (hb hby at_131) rfl rfl ?_
                refine Wk.goto X112 hx (hb hby at_132) (by decide) (q := 136) rfl ?_
                exact Wk.retZW X112 hx hS (Nat.le_trans (Nat.le_refl _) KK84.1) hlk hr (by simp) (hb hby at_136) (by decide) (by decide) (Qc := Q_rm_law Z p0 p1 p2 p3 p4 p5 G1 h0) e112 (fun vm' hw' => ⟨rfl, N112, KK84⟩)
              · skip
                refine Wk.icmpNo X95 hx (hb hby at_107) rfl (flt hc111).2.2.1 ?_
                refine Wk.iconst X95 hx (v := (1 : Int32)) (hb hby at_110) rfl rfl ?_
                refine Wk.goto X95 hx (hb hby at_111) (by decide) (q := 115) rfl ?_
                refine Wk.istore X95 hx (Ls' := #[.val (.int p0), .val (.int p1), .val (.int p2), .val (.int p3), .val (.int p4), .val (.int p5), .val (.int (3 : Int32)), .val (.int zz2), .val (.int zz3), .val (.int zz4), .val (.ref x81), .val (.int (3 : Int32)), .val (.int (1 : Int32))]) (hb hby at_115) rfl rfl ?_
                refine Wk.aload X95 hx (hb hby at_117) rfl rfl rfl ?_
                refine Wk.iload X95 hx (hb hby at_119) rfl rfl ?_
                refine Wk.iload X95 hx (hb hby at_121) rfl rfl ?_
                refine Wk.callS X95 hx hZ hown (w 30 _ rfl) (w 31 _ rfl) (w 32 _ rfl) (w 33 _ rfl) (by decide) (as' := [(.ref x81), (.int p4), (.int p5)]) (backOf (W := 0) (rm_wi31 l Z a0 hw [] x81 t81 kb81 G1 zz2 zz3 zz4 p4 p5 h81 O82 sH sL sA SG1 nG1 q81_0 q81_1 q81_2 q81_3 q2_0 q3_0 q4_0) hZ (w 33 _ rfl) (w 32 _ rfl) (by decide) (by decide)) e95 (by rw [hml]; rfl) (rest := []) (lenOf pd27 rfl) rfl (Nat.le_of_eq rfl) (hb hby at_123) rfl (by decide) (by decide) ?_
                intro T113 h113 v113 L113 X113 e113 hQ113
                obtain ⟨r113, rfl, Nq113, K113, q113_0⟩ := hQ113
                have N113 := Fk.app N95 Nq113 KK84.1 all0
                rw [K113] at e113
                show Wp p e below _ _ T113 (mkF m 126 #[.val (.int p0), .val (.int p1), .val (.int p2), .val (.int p3), .val (.int p4), .val (.int p5), .val (.int (3 : Int32)), .val (.int zz2), .val (.int zz3), .val (.int zz4), .val (.ref x81), .val (.int (3 : Int32)), .val (.int (1 : Int32))] [(.int r113)])
                refine Wk.iload X113 hx (hb hby at_126) rfl rfl ?_
                refine Wk.icmpNo X113 hx (hb hby at_128) rfl (teq (by obtain ⟨q_, hq_, hw_⟩ := q113_0; obtain rfl : q_ = (3 : Int32) := Cnt3.uniq hq_ (show Cnt3 zz2 zz3 zz4 (3 : Int32) from by simp [Cnt3, hh85, hh87, hh96]); simp [Wth, hc109, hc111] at hw_; exact hw_)).2 ?_
                refine Wk.iconst X113 hx (v := (1 : Int32)) (hb hby at_131) rfl rfl ?_
                refine Wk.goto X113 hx (hb hby at_132) (by decide) (q := 136) rfl ?_
                exact Wk.retZW X113 hx hS (Nat.le_trans (Nat.le_refl _) KK84.1) hlk hr (by simp) (hb hby at_136) (by decide) (by decide) (Qc := Q_rm_law Z p0 p1 p2 p3 p4 p5 G1 h0) e113 (fun vm' hw' => ⟨rfl, N113, KK84⟩)
      · skip
        refine Wk.ifYes X83 hx (hb hby at_51) (by decide) (q := 68) rfl ((if0 _ _).trans (teq (by decide : (0 : Int32) = (0 : Int32))).1) ?_
        refine Wk.iload X83 hx (hb hby at_68) rfl rfl ?_
        refine Wk.iconst X83 hx (v := (3 : Int32)) (hb hby at_70) rfl rfl ?_
        refine Wk.icmpNo X83 hx (hb hby at_71) rfl (flt (by decide : ¬ ((3 : Int32) < (3 : Int32)))).1 ?_
        refine Wk.iload X83 hx (hb hby at_74) rfl rfl ?_
        refine Wk.callS X83 hx hZ hown (w 95 _ rfl) (w 96 _ rfl) (w 2 _ rfl) (w 97 _ rfl) (by decide) (as' := [(.int zz3)]) (backOf (W := 0) (rm_lhi l Z a0 hw [] zz3 h81 O82) hZ (w 97 _ rfl) (w 2 _ rfl) (by decide) (by decide)) e83 (by rw [hml]; rfl) (rest := []) (lenOf pd14 rfl) rfl (Nat.le_of_eq rfl) (hb hby at_76) rfl (by decide) (by decide) ?_
        intro T114 h114 v114 L114 X114 e114 hQ114
        obtain ⟨r114, rfl, Nq114, K114, q114_0⟩ := hQ114
        have N114 := Fk.app N83 Nq114 KK84.1 all0
        rw [K114] at e114
        show Wp p e below _ _ T114 (mkF m 79 #[.val (.int p0), .val (.int p1), .val (.int p2), .val (.int p3), .val (.int p4), .val (.int p5), .val (.int (3 : Int32)), .val (.int zz2), .val (.int zz3), .val (.int zz4), .val (.ref x81), .val (.int (3 : Int32)), .unset] [(.int r114)])
        rcases q114_0 with ⟨rfl, hh115⟩ | ⟨rfl, hh115⟩
        · skip
          refine Wk.ifNo X114 hx (hb hby at_79) rfl ((if0 _ _).trans (feq (by decide : ¬ ((1 : Int32) = (0 : Int32)))).1) ?_
          refine Wk.iload X114 hx (hb hby at_82) rfl rfl ?_
          refine Wk.callS X114 hx hZ hown (w 110 _ rfl) (w 111 _ rfl) (w 2 _ rfl) (w 112 _ rfl) (by decide) (as' := [(.int zz4)]) (backOf (W := 0) (rm_llo l Z a0 hw [] zz4 h81 O82) hZ (w 112 _ rfl) (w 2 _ rfl) (by decide) (by decide)) e114 (by rw [hml]; rfl) (rest := []) (lenOf pd14 rfl) rfl (Nat.le_of_eq rfl) (hb hby at_84) rfl (by decide) (by decide) ?_
          intro T116 h116 v116 L116 X116 e116 hQ116
          obtain ⟨r116, rfl, Nq116, K116, q116_0⟩ := hQ116
          have N116 := Fk.app N114 Nq116 KK84.1 all0
          rw [K116] at e116
          show Wp p e below _ _ T116 (mkF m 87 #[.val (.int p0), .val (.int p1), .val (.int p2), .val (.int p3), .val (.int p4), .val (.int p5), .val (.int (3 : Int32)), .val (.int zz2), .val (.int zz3), .val (.int zz4), .val (.ref x81), .val (.int (3 : Int32)), .unset] [(.int r116)])
          rcases q116_0 with ⟨rfl, hh117⟩ | ⟨rfl, hh117⟩
          · skip
            refine Wk.ifNo X116 hx (hb hby at_87) rfl ((if0 _ _).trans (feq (by decide : ¬ ((1 : Int32) = (0 : Int32)))).1) ?_
            refine Wk.iload X116 hx (hb hby at_90) rfl rfl ?_
            refine Wk.iconst X116 hx (v := (1 : Int32)) (hb hby at_92) rfl rfl ?_
            refine Wk.isub X116 hx (hb hby at_93) rfl ?_
            rw [(by decide : (((3 : Int32) - (1 : Int32)) : Int32) = (2 : Int32))]
            refine Wk.istore X116 hx (Ls' := #[.val (.int p0), .val (.int p1), .val (.int p2), .val (.int p3), .val (.int p4), .val (.int p5), .val (.int (3 : Int32)), .val (.int zz2), .val (.int zz3), .val (.int zz4), .val (.ref x81), .val (.int (2 : Int32)), .unset]) (hb hby at_94) rfl rfl ?_
            refine Wk.iload X116 hx (hb hby at_96) rfl rfl ?_
            refine Wk.iload X116 hx (hb hby at_98) rfl rfl ?_
            by_cases hc118 : (2 : Int32) < p4
            · skip
              refine Wk.icmpYes X116 hx (hb hby at_100) (by decide) (q := 114) rfl (tlt hc118).1 ?_
              refine Wk.iconst X116 hx (v := (0 : Int32)) (hb hby at_114) rfl rfl ?_
              refine Wk.istore X116 hx (Ls' := #[.val (.int p0), .val (.int p1), .val (.int p2), .val (.int p3), .val (.int p4), .val (.int p5), .val (.int (3 : Int32)), .val (.int zz2), .val (.int zz3), .val (.int zz4), .val (.ref x81), .val (.int (2 : Int32)), .val (.int (0 : Int32))]) (hb hby at_115) rfl rfl ?_
              refine Wk.aload X116 hx (hb hby at_117) rfl rfl rfl ?_
              refine Wk.iload X116 hx (hb hby at_119) rfl rfl ?_
              refine Wk.iload X116 hx (hb hby at_121) rfl rfl ?_
              refine Wk.callS X116 hx hZ hown (w 30 _ rfl) (w 31 _ rfl) (w 32 _ rfl) (w 33 _ rfl) (by decide) (as' := [(.ref x81), (.int p4), (.int p5)]) (backOf (W := 0) (rm_wi31 l Z a0 hw [] x81 t81 kb81 G1 zz2 zz3 zz4 p4 p5 h81 O82 sH sL sA SG1 nG1 q81_0 q81_1 q81_2 q81_3 q2_0 q3_0 q4_0) hZ (w 33 _ rfl) (w 32 _ rfl) (by decide) (by decide)) e116 (by rw [hml]; rfl) (rest := []) (lenOf pd27 rfl) rfl (Nat.le_of_eq rfl) (hb hby at_123) rfl (by decide) (by decide) ?_
              intro T119 h119 v119 L119 X119 e119 hQ119
              obtain ⟨r119, rfl, Nq119, K119, q119_0⟩ := hQ119
              have N119 := Fk.app N116 Nq119 KK84.1 all0
              rw [K119] at e119
              show Wp p e below _ _ T119 (mkF m 126 #[.val (.int p0), .val (.int p1), .val (.int p2), .val (.int p3), .val (.int p4), .val (.int p5), .val (.int (3 : Int32)), .val (.int zz2), .val (.int zz3), .val (.int zz4), .val (.ref x81), .val (.int (2 : Int32)), .val (.int (0 : Int32))] [(.int r119)])
              refine Wk.iload X119 hx (hb hby at_126) rfl rfl ?_
              refine Wk.icmpNo X119 hx (hb hby at_128) rfl (teq (by obtain ⟨q_, hq_, hw_⟩ := q119_0; obtain rfl : q_ = (2 : Int32) := Cnt3.uniq hq_ (show Cnt3 zz2 zz3 zz4 (2 : Int32) from by simp [Cnt3, hh85, hh115, hh117]); simp [Wth, hc118] at hw_; exact hw_)).2 ?_
              refine Wk.iconst X119 hx (v := (1 : Int32)) (hb hby at_131) rfl rfl ?_
              refine Wk.goto X119 hx (hb hby at_132) (by decide) (q := 136) rfl ?_
              exact Wk.retZW X119 hx hS (Nat.le_trans (Nat.le_refl _) KK84.1) hlk hr (by simp) (hb hby at_136) (by decide) (by decide) (Qc := Q_rm_law Z p0 p1 p2 p3 p4 p5 G1 h0) e119 (fun vm' hw' => ⟨rfl, N119, KK84⟩)
            · skip
              refine Wk.icmpNo X116 hx (hb hby at_100) rfl (flt hc118).1 ?_
              refine Wk.iload X116 hx (hb hby at_103) rfl rfl ?_
              refine Wk.iload X116 hx (hb hby at_105) rfl rfl ?_
              by_cases hc120 : p5 < (2 : Int32)
              · skip
                refine Wk.icmpYes X116 hx (hb hby at_107) (by decide) (q := 114) rfl (tlt hc120).2.2.1 ?_
                refine Wk.iconst X116 hx (v := (0 : Int32)) (hb hby at_114) rfl rfl ?_
                refine Wk.istore X116 hx (Ls' := #[.val (.int p0), .val (.int p1), .val (.int p2), .val (.int p3), .val (.int p4), .val (.int p5), .val (.int (3 : Int32)), .val (.int zz2), .val (.int zz3), .val (.int zz4), .val (.ref x81), .val (.int (2 : Int32)), .val (.int (0 : Int32))]) (hb hby at_115) rfl rfl ?_
                refine Wk.aload X116 hx (hb hby at_117) rfl rfl rfl ?_
                refine Wk.iload X116 hx (hb hby at_119) rfl rfl ?_
                refine Wk.iload X116 hx (hb hby at_121) rfl rfl ?_
                refine Wk.callS X116 hx hZ hown (w 30 _ rfl) (w 31 _ rfl) (w 32 _ rfl) (w 33 _ rfl) (by decide) (as' := [(.ref x81), (.int p4), (.int p5)]) (backOf (W := 0) (rm_wi31 l Z a0 hw [] x81 t81 kb81 G1 zz2 zz3 zz4 p4 p5 h81 O82 sH sL sA SG1 nG1 q81_0 q81_1 q81_2 q81_3 q2_0 q3_0 q4_0) hZ (w 33 _ rfl) (w 32 _ rfl) (by decide) (by decide)) e116 (by rw [hml]; rfl) (rest := []) (lenOf pd27 rfl) rfl (Nat.le_of_eq rfl) (hb hby at_123) rfl (by decide) (by decide) ?_
                intro T121 h121 v121 L121 X121 e121 hQ121
                obtain ⟨r121, rfl, Nq121, K121, q121_0⟩ := hQ121
                have N121 := Fk.app N116 Nq121 KK84.1 all0
                rw [K121] at e121
                show Wp p e below _ _ T121 (mkF m 126 #[.val (.int p0), .val (.int p1), .val (.int p2), .val (.int p3), .val (.int p4), .val (.int p5), .val (.int (3 : Int32)), .val (.int zz2), .val (.int zz3), .val (.int zz4), .val (.ref x81), .val (.int (2 : Int32)), .val (.int (0 : Int32))] [(.int r121)])
                refine Wk.iload X121 hx (hb hby at_126) rfl rfl ?_
                refine Wk.icmpNo X121 hx (hb hby at_128) rfl (teq (by obtain ⟨q_, hq_, hw_⟩ := q121_0; obtain rfl : q_ = (2 : Int32) := Cnt3.uniq hq_ (show Cnt3 zz2 zz3 zz4 (2 : Int32) from by simp [Cnt3, hh85, hh115, hh117]); simp [Wth, hc118, hc120] at hw_; exact hw_)).2 ?_
                refine Wk.iconst X121 hx (v := (1 : Int32)) (hb hby at_131) rfl rfl ?_
                refine Wk.goto X121 hx (hb hby at_132) (by decide) (q := 136) rfl ?_
                exact Wk.retZW X121 hx hS (Nat.le_trans (Nat.le_refl _) KK84.1) hlk hr (by simp) (hb hby at_136) (by decide) (by decide) (Qc := Q_rm_law Z p0 p1 p2 p3 p4 p5 G1 h0) e121 (fun vm' hw' => ⟨rfl, N121, KK84⟩)
              · skip
                refine Wk.icmpNo X116 hx (hb hby at_107) rfl (flt hc120).2.2.1 ?_
                refine Wk.iconst X116 hx (v := (1 : Int32)) (hb hby at_110) rfl rfl ?_
                refine Wk.goto X116 hx (hb hby at_111) (by decide) (q := 115) rfl ?_
                refine Wk.istore X116 hx (Ls' := #[.val (.int p0), .val (.int p1), .val (.int p2), .val (.int p3), .val (.int p4), .val (.int p5), .val (.int (3 : Int32)), .val (.int zz2), .val (.int zz3), .val (.int zz4), .val (.ref x81), .val (.int (2 : Int32)), .val (.int (1 : Int32))]) (hb hby at_115) rfl rfl ?_
                refine Wk.aload X116 hx (hb hby at_117) rfl rfl rfl ?_
                refine Wk.iload X116 hx (hb hby at_119) rfl rfl ?_
                refine Wk.iload X116 hx (hb hby at_121) rfl rfl ?_
                refine Wk.callS X116 hx hZ hown (w 30 _ rfl) (w 31 _ rfl) (w 32 _ rfl) (w 33 _ rfl) (by decide) (as' := [(.ref x81), (.int p4), (.int p5)]) (backOf (W := 0) (rm_wi31 l Z a0 hw [] x81 t81 kb81 G1 zz2 zz3 zz4 p4 p5 h81 O82 sH sL sA SG1 nG1 q81_0 q81_1 q81_2 q81_3 q2_0 q3_0 q4_0) hZ (w 33 _ rfl) (w 32 _ rfl) (by decide) (by decide)) e116 (by rw [hml]; rfl) (rest := []) (lenOf pd27 rfl) rfl (Nat.le_of_eq rfl) (hb hby at_123) rfl (by decide) (by decide) ?_
                intro T122 h122 v122 L122 X122 e122 hQ122
                obtain ⟨r122, rfl, Nq122, K122, q122_0⟩ := hQ122
                have N122 := Fk.app N116 Nq122 KK84.1 all0
                rw [K122] at e122
                show Wp p e below _ _ T122 (mkF m 126 #[.val (.int p0), .val (.int p1), .val (.int p2), .val (.int p3), .val (.int p4), .val (.int p5), .val (.int (3 : Int32)), .val (.int zz2), .val (.int zz3), .val (.int zz4), .val (.ref x81), .val (.int (2 : Int32)), .val (.int (1 : Int32))] [(.int r122)])
                refine Wk.iload X122 hx (hb hby at_126) rfl rfl ?_
                refine Wk.icmpNo X122 hx (hb hby at_128) rfl (teq (by obtain ⟨q_, hq_, hw_⟩ := q122_0; obtain rfl : q_ = (2 : Int32) := Cnt3.uniq hq_ (show Cnt3 zz2 zz3 zz4 (2 : Int32) from by simp [Cnt3, hh85, hh115, hh117]); simp [Wth, hc118, hc120] at hw_; exact hw_)).2 ?_
                refine Wk.iconst X122 hx (v := (1 : Int32)) (hb hby at_131) rfl rfl ?_
                refine Wk.goto X122 hx (hb hby at_132) (by decide) (q := 136) rfl ?_
                exact Wk.retZW X122 hx hS (Nat.le_trans (Nat.le_refl _) KK84.1) hlk hr (by simp) (hb hby at_136) (by decide) (by decide) (Qc := Q_rm_law Z p0 p1 p2 p3 p4 p5 G1 h0) e122 (fun vm' hw' => ⟨rfl, N122, KK84⟩)
          · skip
            refine Wk.ifYes X116 hx (hb hby at_87) (by decide) (q := 96) rfl ((if0 _ _).trans (teq (by decide : (0 : Int32) = (0 : Int32))).1) ?_
            refine Wk.iload X116 hx (hb hby at_96) rfl rfl ?_
            refine Wk.iload X116 hx (hb hby at_98) rfl rfl ?_
            by_cases hc123 : (3 : Int32) < p4
            · skip
              refine Wk.icmpYes X116 hx (hb hby at_100) (by decide) (q := 114) rfl (tlt hc123).1 ?_
              refine Wk.iconst X116 hx (v := (0 : Int32)) (hb hby at_114) rfl rfl ?_
              refine Wk.istore X116 hx (Ls' := #[.val (.int p0), .val (.int p1), .val (.int p2), .val (.int p3), .val (.int p4), .val (.int p5), .val (.int (3 : Int32)), .val (.int zz2), .val (.int zz3), .val (.int zz4), .val (.ref x81), .val (.int (3 : Int32)), .val (.int (0 : Int32))]) (hb hby at_115) rfl rfl ?_
              refine Wk.aload X116 hx (hb hby at_117) rfl rfl rfl ?_
              refine Wk.iload X116 hx (hb hby at_119) rfl rfl ?_
              refine Wk.iload X116 hx (hb hby at_121) rfl rfl ?_
              refine Wk.callS X116 hx hZ hown (w 30 _ rfl) (w 31 _ rfl) (w 32 _ rfl) (w 33 _ rfl) (by decide) (as' := [(.ref x81), (.int p4), (.int p5)]) (backOf (W := 0) (rm_wi31 l Z a0 hw [] x81 t81 kb81 G1 zz2 zz3 zz4 p4 p5 h81 O82 sH sL sA SG1 nG1 q81_0 q81_1 q81_2 q81_3 q2_0 q3_0 q4_0) hZ (w 33 _ rfl) (w 32 _ rfl) (by decide) (by decide)) e116 (by rw [hml]; rfl) (rest := []) (lenOf pd27 rfl) rfl (Nat.le_of_eq rfl) (hb hby at_123) rfl (by decide) (by decide) ?_
              intro T124 h124 v124 L124 X124 e124 hQ124
              obtain ⟨r124, rfl, Nq124, K124, q124_0⟩ := hQ124
              have N124 := Fk.app N116 Nq124 KK84.1 all0
              rw [K124] at e124
              show Wp p e below _ _ T124 (mkF m 126 #[.val (.int p0), .val (.int p1), .val (.int p2), .val (.int p3), .val (.int p4), .val (.int p5), .val (.int (3 : Int32)), .val (.int zz2), .val (.int zz3), .val (.int zz4), .val (.ref x81), .val (.int (3 : Int32)), .val (.int (0 : Int32))] [(.int r124)])
              refine Wk.iload X124 hx (hb hby at_126) rfl rfl ?_
              refine Wk.icmpNo X124 hx (hb hby at_128) rfl (teq (by obtain ⟨q_, hq_, hw_⟩ := q124_0; obtain rfl : q_ = (3 : Int32) := Cnt3.uniq hq_ (show Cnt3 zz2 zz3 zz4 (3 : Int32) from by simp [Cnt3, hh85, hh115, hh117]); simp [Wth, hc123] at hw_; exact hw_)).2 ?_
              refine Wk.iconst X124 hx (v := (1 : Int32)) (hb hby at_131) rfl rfl ?_
              refine Wk.goto X124 hx (hb hby at_132) (by decide) (q := 136) rfl ?_
              exact Wk.retZW X124 hx hS (Nat.le_trans (Nat.le_refl _) KK84.1) hlk hr (by simp) (hb hby at_136) (by decide) (by decide) (Qc := Q_rm_law Z p0 p1 p2 p3 p4 p5 G1 h0) e124 (fun vm' hw' => ⟨rfl, N124, KK84⟩)
            · skip
              refine Wk.icmpNo X116 hx (hb hby at_100) rfl (flt hc123).1 ?_
              refine Wk.iload X116 hx (hb hby at_103) rfl rfl ?_
              refine Wk.iload X116 hx (hb hby at_105) rfl rfl ?_
              by_cases hc125 : p5 < (3 : Int32)
              · skip
                refine Wk.icmpYes X116 hx (hb hby at_107) (by decide) (q := 114) rfl (tlt hc125).2.2.1 ?_
                refine Wk.iconst X116 hx (v := (0 : Int32)) (hb hby at_114) rfl rfl ?_
                refine Wk.istore X116 hx (Ls' := #[.val (.int p0), .val (.int p1), .val (.int p2), .val (.int p3), .val (.int p4), .val (.int p5), .val (.int (3 : Int32)), .val (.int zz2), .val (.int zz3), .val (.int zz4), .val (.ref x81), .val (.int (3 : Int32)), .val (.int (0 : Int32))]) (hb hby at_115) rfl rfl ?_
                refine Wk.aload X116 hx (hb hby at_117) rfl rfl rfl ?_
                refine Wk.iload X116 hx (hb hby at_119) rfl rfl ?_
                refine Wk.iload X116 hx (hb hby at_121) rfl rfl ?_
                refine Wk.callS X116 hx hZ hown (w 30 _ rfl) (w 31 _ rfl) (w 32 _ rfl) (w 33 _ rfl) (by decide) (as' := [(.ref x81), (.int p4), (.int p5)]) (backOf (W := 0) (rm_wi31 l Z a0 hw [] x81 t81 kb81 G1 zz2 zz3 zz4 p4 p5 h81 O82 sH sL sA SG1 nG1 q81_0 q81_1 q81_2 q81_3 q2_0 q3_0 q4_0) hZ (w 33 _ rfl) (w 32 _ rfl) (by decide) (by decide)) e116 (by rw [hml]; rfl) (rest := []) (lenOf pd27 rfl) rfl (Nat.le_of_eq rfl) (hb hby at_123) rfl (by decide) (by decide) ?_
                intro T126 h126 v126 L126 X126 e126 hQ126
                obtain ⟨r126, rfl, Nq126, K126, q126_0⟩ := hQ126
                have N126 := Fk.app N116 Nq126 KK84.1 all0
                rw [K126] at e126
                show Wp p e below _ _ T126 (mkF m 126 #[.val (.int p0), .val (.int p1), .val (.int p2), .val (.int p3), .val (.int p4), .val (.int p5), .val (.int (3 : Int32)), .val (.int zz2), .val (.int zz3), .val (.int zz4), .val (.ref x81), .val (.int (3 : Int32)), .val (.int (0 : Int32))] [(.int r126)])
                refine Wk.iload X126 hx (hb hby at_126) rfl rfl ?_
                refine Wk.icmpNo X126 hx (hb hby at_128) rfl (teq (by obtain ⟨q_, hq_, hw_⟩ := q126_0; obtain rfl : q_ = (3 : Int32) := Cnt3.uniq hq_ (show Cnt3 zz2 zz3 zz4 (3 : Int32) from by simp [Cnt3, hh85, hh115, hh117]); simp [Wth, hc123, hc125] at hw_; exact hw_)).2 ?_
                refine Wk.iconst X126 hx (v := (1 : Int32)) (hb hby at_131) rfl rfl ?_
                refine Wk.goto X126 hx (hb hby at_132) (by decide) (q := 136) rfl ?_
                exact Wk.retZW X126 hx hS (Nat.le_trans (Nat.le_refl _) KK84.1) hlk hr (by simp) (hb hby at_136) (by decide) (by decide) (Qc := Q_rm_law Z p0 p1 p2 p3 p4 p5 G1 h0) e126 (fun vm' hw' => ⟨rfl, N126, KK84⟩)
              · skip
                refine Wk.icmpNo X116 hx (hb hby at_107) rfl (flt hc125).2.2.1 ?_
                refine Wk.iconst X116 hx (v := (1 : Int32)) (hb hby at_110) rfl rfl ?_
                refine Wk.goto X116 hx (hb hby at_111) (by decide) (q := 115) rfl ?_
                refine Wk.istore X116 hx (Ls' := #[.val (.int p0), .val (.int p1), .val (.int p2), .val (.int p3), .val (.int p4), .val (.int p5), .val (.int (3 : Int32)), .val (.int zz2), .val (.int zz3), .val (.int zz4), .val (.ref x81), .val (.int (3 : Int32)), .val (.int (1 : Int32))]) (hb hby at_115) rfl rfl ?_
                refine Wk.aload X116 hx (hb hby at_117) rfl rfl rfl ?_
                refine Wk.iload X116 hx (hb hby at_119) rfl rfl ?_
                refine Wk.iload X116 hx (hb hby at_121) rfl rfl ?_
                refine Wk.callS X116 hx hZ hown (w 30 _ rfl) (w 31 _ rfl) (w 32 _ rfl) (w 33 _ rfl) (by decide) (as' := [(.ref x81), (.int p4), (.int p5)]) (backOf (W := 0) (rm_wi31 l Z a0 hw [] x81 t81 kb81 G1 zz2 zz3 zz4 p4 p5 h81 O82 sH sL sA SG1 nG1 q81_0 q81_1 q81_2 q81_3 q2_0 q3_0 q4_0) hZ (w 33 _ rfl) (w 32 _ rfl) (by decide) (by decide)) e116 (by rw [hml]; rfl) (rest := []) (lenOf pd27 rfl) rfl (Nat.le_of_eq rfl) (hb hby at_123) rfl (by decide) (by decide) ?_
                intro T127 h127 v127 L127 X127 e127 hQ127
                obtain ⟨r127, rfl, Nq127, K127, q127_0⟩ := hQ127
                have N127 := Fk.app N116 Nq127 KK84.1 all0
                rw [K127] at e127
                show Wp p e below _ _ T127 (mkF m 126 #[.val (.int p0), .val (.int p1), .val (.int p2), .val (.int p3), .val (.int p4), .val (.int p5), .val (.int (3 : Int32)), .val (.int zz2), .val (.int zz3), .val (.int zz4), .val (.ref x81), .val (.int (3 : Int32)), .val (.int (1 : Int32))] [(.int r127)])
                refine Wk.iload X127 hx (hb hby at_126) rfl rfl ?_
                refine Wk.icmpNo X127 hx (hb hby at_128) rfl (teq (by obtain ⟨q_, hq_, hw_⟩ := q127_0; obtain rfl : q_ = (3 : Int32) := Cnt3.uniq hq_ (show Cnt3 zz2 zz3 zz4 (3 : Int32) from by simp [Cnt3, hh85, hh115, hh117]); simp [Wth, hc123, hc125] at hw_; exact hw_)).2 ?_
                refine Wk.iconst X127 hx (v := (1 : Int32)) (hb hby at_131) rfl rfl ?_
                refine Wk.goto X127 hx (hb hby at_132) (by decide) (q := 136) rfl ?_
                exact Wk.retZW X127 hx hS (Nat.le_trans (Nat.le_refl _) KK84.1) hlk hr (by simp) (hb hby at_136) (by decide) (by decide) (Qc := Q_rm_law Z p0 p1 p2 p3 p4 p5 G1 h0) e127 (fun vm' hw' => ⟨rfl, N127, KK84⟩)
        · skip
          refine Wk.ifYes X114 hx (hb hby at_79) (by decide) (q := 96) rfl ((if0 _ _).trans (teq (by decide : (0 : Int32) = (0 : Int32))).1) ?_
          refine Wk.iload X114 hx (hb hby at_96) rfl rfl ?_
          refine Wk.iload X114 hx (hb hby at_98) rfl rfl ?_
          by_cases hc128 : (3 : Int32) < p4
          · skip
            refine Wk.icmpYes X114 hx (hb hby at_100) (by decide) (q := 114) rfl (tlt hc128).1 ?_
            refine Wk.iconst X114 hx (v := (0 : Int32)) (hb hby at_114) rfl rfl ?_
            refine Wk.istore X114 hx (Ls' := #[.val (.int p0), .val (.int p1), .val (.int p2), .val (.int p3), .val (.int p4), .val (.int p5), .val (.int (3 : Int32)), .val (.int zz2), .val (.int zz3), .val (.int zz4), .val (.ref x81), .val (.int (3 : Int32)), .val (.int (0 : Int32))]) (hb hby at_115) rfl rfl ?_
            refine Wk.aload X114 hx (hb hby at_117) rfl rfl rfl ?_
            refine Wk.iload X114 hx (hb hby at_119) rfl rfl ?_
            refine Wk.iload X114 hx (hb hby at_121) rfl rfl ?_
            refine Wk.callS X114 hx hZ hown (w 30 _ rfl) (w 31 _ rfl) (w 32 _ rfl) (w 33 _ rfl) (by decide) (as' := [(.ref x81), (.int p4), (.int p5)]) (backOf (W := 0) (rm_wi31 l Z a0 hw [] x81 t81 kb81 G1 zz2 zz3 zz4 p4 p5 h81 O82 sH sL sA SG1 nG1 q81_0 q81_1 q81_2 q81_3 q2_0 q3_0 q4_0) hZ (w 33 _ rfl) (w 32 _ rfl) (by decide) (by decide)) e114 (by rw [hml]; rfl) (rest := []) (lenOf pd27 rfl) rfl (Nat.le_of_eq rfl) (hb hby at_123) rfl (by decide) (by decide) ?_
            intro T129 h129 v129 L129 X129 e129 hQ129
            obtain ⟨r129, rfl, Nq129, K129, q129_0⟩ := hQ129
            have N129 := Fk.app N114 Nq129 KK84.1 all0
            rw [K129] at e129
            show Wp p e below _ _ T129 (mkF m 126 #[.val (.int p0), .val (.int p1), .val (.int p2), .val (.int p3), .val (.int p4), .val (.int p5), .val (.int (3 : Int32)), .val (.int zz2), .val (.int zz3), .val (.int zz4), .val (.ref x81), .val (.int (3 : Int32)), .val (.int (0 : Int32))] [(.int r129)])
            refine Wk.iload X129 hx (hb hby at_126) rfl rfl ?_
            refine Wk.icmpNo X129 hx (hb hby at_128) rfl (teq (by obtain ⟨q_, hq_, hw_⟩ := q129_0; obtain rfl : q_ = (3 : Int32) := Cnt3.uniq hq_ (show Cnt3 zz2 zz3 zz4 (3 : Int32) from by simp [Cnt3, hh85, hh115]); simp [Wth, hc128] at hw_; exact hw_)).2 ?_
            refine Wk.iconst X129 hx (v := (1 : Int32)) (hb hby at_131) rfl rfl ?_
            refine Wk.goto X129 hx (hb hby at_132) (by decide) (q := 136) rfl ?_
            exact Wk.retZW X129 hx hS (Nat.le_trans (Nat.le_refl _) KK84.1) hlk hr (by simp) (hb hby at_136) (by decide) (by decide) (Qc := Q_rm_law Z p0 p1 p2 p3 p4 p5 G1 h0) e129 (fun vm' hw' => ⟨rfl, N129, KK84⟩)
          · skip
            refine Wk.icmpNo X114 hx (hb hby at_100) rfl (flt hc128).1 ?_
            refine Wk.iload X114 hx (hb hby at_103) rfl rfl ?_
            refine Wk.iload X114 hx (hb hby at_105) rfl rfl ?_
            by_cases hc130 : p5 < (3 : Int32)
            · skip
              refine Wk.icmpYes X114 hx (hb hby at_107) (by decide) (q := 114) rfl (tlt hc130).2.2.1 ?_
              refine Wk.iconst X114 hx (v := (0 : Int32)) (hb hby at_114) rfl rfl ?_
              refine Wk.istore X114 hx (Ls' := #[.val (.int p0), .val (.int p1), .val (.int p2), .val (.int p3), .val (.int p4), .val (.int p5), .val (.int (3 : Int32)), .val (.int zz2), .val (.int zz3), .val (.int zz4), .val (.ref x81), .val (.int (3 : Int32)), .val (.int (0 : Int32))]) (hb hby at_115) rfl rfl ?_
              refine Wk.aload X114 hx (hb hby at_117) rfl rfl rfl ?_
              refine Wk.iload X114 hx (hb hby at_119) rfl rfl ?_
              refine Wk.iload X114 hx (hb hby at_121) rfl rfl ?_
              refine Wk.callS X114 hx hZ hown (w 30 _ rfl) (w 31 _ rfl) (w 32 _ rfl) (w 33 _ rfl) (by decide) (as' := [(.ref x81), (.int p4), (.int p5)]) (backOf (W := 0) (rm_wi31 l Z a0 hw [] x81 t81 kb81 G1 zz2 zz3 zz4 p4 p5 h81 O82 sH sL sA SG1 nG1 q81_0 q81_1 q81_2 q81_3 q2_0 q3_0 q4_0) hZ (w 33 _ rfl) (w 32 _ rfl) (by decide) (by decide)) e114 (by rw [hml]; rfl) (rest := []) (lenOf pd27 rfl) rfl (Nat.le_of_eq rfl) (hb hby at_123) rfl (by decide) (by decide) ?_
              intro T131 h131 v131 L131 X131 e131 hQ131
              obtain ⟨r131, rfl, Nq131, K131, q131_0⟩ := hQ131
              have N131 := Fk.app N114 Nq131 KK84.1 all0
              rw [K131] at e131
              show Wp p e below _ _ T131 (mkF m 126 #[.val (.int p0), .val (.int p1), .val (.int p2), .val (.int p3), .val (.int p4), .val (.int p5), .val (.int (3 : Int32)), .val (.int zz2), .val (.int zz3), .val (.int zz4), .val (.ref x81), .val (.int (3 : Int32)), .val (.int (0 : Int32))] [(.int r131)])
              refine Wk.iload X131 hx (hb hby at_126) rfl rfl ?_
              refine Wk.icmpNo X131 hx (hb hby at_128) rfl (teq (by obtain ⟨q_, hq_, hw_⟩ := q131_0; obtain rfl : q_ = (3 : Int32) := Cnt3.uniq hq_ (show Cnt3 zz2 zz3 zz4 (3 : Int32) from by simp [Cnt3, hh85, hh115]); simp [Wth, hc128, hc130] at hw_; exact hw_)).2 ?_
              refine Wk.iconst X131 hx (v := (1 : Int32)) (hb hby at_131) rfl rfl ?_
              refine Wk.goto X131 hx (hb hby at_132) (by decide) (q := 136) rfl ?_
              exact Wk.retZW X131 hx hS (Nat.le_trans (Nat.le_refl _) KK84.1) hlk hr (by simp) (hb hby at_136) (by decide) (by decide) (Qc := Q_rm_law Z p0 p1 p2 p3 p4 p5 G1 h0) e131 (fun vm' hw' => ⟨rfl, N131, KK84⟩)
            · skip
              refine Wk.icmpNo X114 hx (hb hby at_107) rfl (flt hc130).2.2.1 ?_
              refine Wk.iconst X114 hx (v := (1 : Int32)) (hb hby at_110) rfl rfl ?_
              refine Wk.goto X114 hx (hb hby at_111) (by decide) (q := 115) rfl ?_
              refine Wk.istore X114 hx (Ls' := #[.val (.int p0), .val (.int p1), .val (.int p2), .val (.int p3), .val (.int p4), .val (.int p5), .val (.int (3 : Int32)), .val (.int zz2), .val (.int zz3), .val (.int zz4), .val (.ref x81), .val (.int (3 : Int32)), .val (.int (1 : Int32))]) (hb hby at_115) rfl rfl ?_
              refine Wk.aload X114 hx (hb hby at_117) rfl rfl rfl ?_
              refine Wk.iload X114 hx (hb hby at_119) rfl rfl ?_
              refine Wk.iload X114 hx (hb hby at_121) rfl rfl ?_
              refine Wk.callS X114 hx hZ hown (w 30 _ rfl) (w 31 _ rfl) (w 32 _ rfl) (w 33 _ rfl) (by decide) (as' := [(.ref x81), (.int p4), (.int p5)]) (backOf (W := 0) (rm_wi31 l Z a0 hw [] x81 t81 kb81 G1 zz2 zz3 zz4 p4 p5 h81 O82 sH sL sA SG1 nG1 q81_0 q81_1 q81_2 q81_3 q2_0 q3_0 q4_0) hZ (w 33 _ rfl) (w 32 _ rfl) (by decide) (by decide)) e114 (by rw [hml]; rfl) (rest := []) (lenOf pd27 rfl) rfl (Nat.le_of_eq rfl) (hb hby at_123) rfl (by decide) (by decide) ?_
              intro T132 h132 v132 L132 X132 e132 hQ132
              obtain ⟨r132, rfl, Nq132, K132, q132_0⟩ := hQ132
              have N132 := Fk.app N114 Nq132 KK84.1 all0
              rw [K132] at e132
              show Wp p e below _ _ T132 (mkF m 126 #[.val (.int p0), .val (.int p1), .val (.int p2), .val (.int p3), .val (.int p4), .val (.int p5), .val (.int (3 : Int32)), .val (.int zz2), .val (.int zz3), .val (.int zz4), .val (.ref x81), .val (.int (3 : Int32)), .val (.int (1 : Int32))] [(.int r132)])
              refine Wk.iload X132 hx (hb hby at_126) rfl rfl ?_
              refine Wk.icmpNo X132 hx (hb hby at_128) rfl (teq (by obtain ⟨q_, hq_, hw_⟩ := q132_0; obtain rfl : q_ = (3 : Int32) := Cnt3.uniq hq_ (show Cnt3 zz2 zz3 zz4 (3 : Int32) from by simp [Cnt3, hh85, hh115]); simp [Wth, hc128, hc130] at hw_; exact hw_)).2 ?_
              refine Wk.iconst X132 hx (v := (1 : Int32)) (hb hby at_131) rfl rfl ?_
              refine Wk.goto X132 hx (hb hby at_132) (by decide) (q := 136) rfl ?_
              exact Wk.retZW X132 hx hS (Nat.le_trans (Nat.le_refl _) KK84.1) hlk hr (by simp) (hb hby at_136) (by decide) (by decide) (Qc := Q_rm_law Z p0 p1 p2 p3 p4 p5 G1 h0) e132 (fun vm' hw' => ⟨rfl, N132, KK84⟩)
    · skip
      have Ltzz2 : Lat zz2 := ⟨q2_0.1, hg80⟩
      by_cases hg133 : (255 : Int32) < zz3
      · skip
        refine Wk.callS X4 hx hZ hown (w 5 _ rfl) (w 6 _ rfl) (w 2 _ rfl) (w 7 _ rfl) (by decide) (as' := [(.int (3 : Int32)), (.int zz2), (.int zz3), (.int zz4)]) (backOf (W := 0) (rm_mk31 l Z a0 hw [] zz2 zz3 zz4 G1 h0 O0 sH sL sA SG1 nG1 q2_0 q3_0 q4_0 hg80 hg133) hZ (w 7 _ rfl) (w 2 _ rfl) (by decide) (by decide)) e4 (by rw [hml]; rfl) (rest := []) (lenOf pd26 rfl) rfl (Nat.le_of_eq rfl) (hb hby at_31) rfl (by decide) (by decide) ?_
        intro T134 h134 v134 L134 X134 e134 hQ134
        obtain ⟨x134, t134, kb134, rfl, Nq134, K134, q134_0, q134_1, q134_2, q134_3⟩ := hQ134
        have N134 := Fk.app N4 Nq134 (Nat.le_refl _) all0
        have O135 : Old Z Z.heap.size h134 := O0.keep K134 all0
        show Wp p e below _ _ T134 (mkF m 34 #[.val (.int p0), .val (.int p1), .val (.int p2), .val (.int p3), .val (.int p4), .val (.int p5), .val (.int (3 : Int32)), .val (.int zz2), .val (.int zz3), .val (.int zz4), .unset, .unset, .unset] [(.ref x134)])
        refine Wk.astore X134 hx (Ls' := #[.val (.int p0), .val (.int p1), .val (.int p2), .val (.int p3), .val (.int p4), .val (.int p5), .val (.int (3 : Int32)), .val (.int zz2), .val (.int zz3), .val (.int zz4), .val (.ref x134), .unset, .unset]) (hb hby at_34) rfl rfl rfl ?_
        refine Wk.iload X134 hx (hb hby at_36) rfl rfl ?_
        refine Wk.istore X134 hx (Ls' := #[.val (.int p0), .val (.int p1), .val (.int p2), .val (.int p3), .val (.int p4), .val (.int p5), .val (.int (3 : Int32)), .val (.int zz2), .val (.int zz3), .val (.int zz4), .val (.ref x134), .val (.int (3 : Int32)), .unset]) (hb hby at_38) rfl rfl ?_
        refine Wk.iload X134 hx (hb hby at_40) rfl rfl ?_
        refine Wk.iconst X134 hx (v := (2 : Int32)) (hb hby at_42) rfl rfl ?_
        refine Wk.icmpNo X134 hx (hb hby at_43) rfl (flt (by decide : ¬ ((3 : Int32) < (2 : Int32)))).1 ?_
        refine Wk.iload X134 hx (hb hby at_46) rfl rfl ?_
        refine Wk.callS X134 hx hZ hown (w 95 _ rfl) (w 96 _ rfl) (w 2 _ rfl) (w 97 _ rfl) (by decide) (as' := [(.int zz2)]) (backOf (W := 0) (rm_lhi l Z a0 hw [] zz2 h134 O135) hZ (w 97 _ rfl) (w 2 _ rfl) (by decide) (by decide)) e134 (by rw [hml]; rfl) (rest := []) (lenOf pd14 rfl) rfl (Nat.le_of_eq rfl) (hb hby at_48) rfl (by decide) (by decide) ?_
        intro T136 h136 v136 L136 X136 e136 hQ136
        obtain ⟨r136, rfl, Nq136, K136, q136_0⟩ := hQ136
        have KK137 : Keep h0 h134 [] := ((Keep.refl h0 []).trans K134 all0)
        have N136 := Fk.app N134 Nq136 KK137.1 all0
        rw [K136] at e136
        show Wp p e below _ _ T136 (mkF m 51 #[.val (.int p0), .val (.int p1), .val (.int p2), .val (.int p3), .val (.int p4), .val (.int p5), .val (.int (3 : Int32)), .val (.int zz2), .val (.int zz3), .val (.int zz4), .val (.ref x134), .val (.int (3 : Int32)), .unset] [(.int r136)])
        obtain rfl : r136 = 0 := by rcases q136_0 with ⟨_, hh⟩ | ⟨hh, _⟩; exact absurd hh (own_lat hg80).1; exact hh
        refine Wk.ifYes X136 hx (hb hby at_51) (by decide) (q := 68) rfl ((if0 _ _).trans (teq (by decide : (0 : Int32) = (0 : Int32))).1) ?_
        refine Wk.iload X136 hx (hb hby at_68) rfl rfl ?_
        refine Wk.iconst X136 hx (v := (3 : Int32)) (hb hby at_70) rfl rfl ?_
        refine Wk.icmpNo X136 hx (hb hby at_71) rfl (flt (by decide : ¬ ((3 : Int32) < (3 : Int32)))).1 ?_
        refine Wk.iload X136 hx (hb hby at_74) rfl rfl ?_
        refine Wk.callS X136 hx hZ hown (w 95 _ rfl) (w 96 _ rfl) (w 2 _ rfl) (w 97 _ rfl) (by decide) (as' := [(.int zz3)]) (backOf (W := 0) (rm_lhi l Z a0 hw [] zz3 h134 O135) hZ (w 97 _ rfl) (w 2 _ rfl) (by decide) (by decide)) e136 (by rw [hml]; rfl) (rest := []) (lenOf pd14 rfl) rfl (Nat.le_of_eq rfl) (hb hby at_76) rfl (by decide) (by decide) ?_
        intro T139 h139 v139 L139 X139 e139 hQ139
        obtain ⟨r139, rfl, Nq139, K139, q139_0⟩ := hQ139
        have N139 := Fk.app N136 Nq139 KK137.1 all0
        rw [K139] at e139
        show Wp p e below _ _ T139 (mkF m 79 #[.val (.int p0), .val (.int p1), .val (.int p2), .val (.int p3), .val (.int p4), .val (.int p5), .val (.int (3 : Int32)), .val (.int zz2), .val (.int zz3), .val (.int zz4), .val (.ref x134), .val (.int (3 : Int32)), .unset] [(.int r139)])
        rcases q139_0 with ⟨rfl, hh140⟩ | ⟨rfl, hh140⟩
        · skip
          refine Wk.ifNo X139 hx (hb hby at_79) rfl ((if0 _ _).trans (feq (by decide : ¬ ((1 : Int32) = (0 : Int32)))).1) ?_
          refine Wk.iload X139 hx (hb hby at_82) rfl rfl ?_
          refine Wk.callS X139 hx hZ hown (w 110 _ rfl) (w 111 _ rfl) (w 2 _ rfl) (w 112 _ rfl) (by decide) (as' := [(.int zz4)]) (backOf (W := 0) (rm_llo l Z a0 hw [] zz4 h134 O135) hZ (w 112 _ rfl) (w 2 _ rfl) (by decide) (by decide)) e139 (by rw [hml]; rfl) (rest := []) (lenOf pd14 rfl) rfl (Nat.le_of_eq rfl) (hb hby at_84) rfl (by decide) (by decide) ?_
          intro T141 h141 v141 L141 X141 e141 hQ141
          obtain ⟨r141, rfl, Nq141, K141, q141_0⟩ := hQ141
          have N141 := Fk.app N139 Nq141 KK137.1 all0
          rw [K141] at e141
          show Wp p e below _ _ T141 (mkF m 87 #[.val (.int p0), .val (.int p1), .val (.int p2), .val (.int p3), .val (.int p4), .val (.int p5), .val (.int (3 : Int32)), .val (.int zz2), .val (.int zz3), .val (.int zz4), .val (.ref x134), .val (.int (3 : Int32)), .unset] [(.int r141)])
          rcases q141_0 with ⟨rfl, hh142⟩ | ⟨rfl, hh142⟩
          · skip
            refine Wk.ifNo X141 hx (hb hby at_87) rfl ((if0 _ _).trans (feq (by decide : ¬ ((1 : Int32) = (0 : Int32)))).1) ?_
            refine Wk.iload X141 hx (hb hby at_90) rfl rfl ?_
            refine Wk.iconst X141 hx (v := (1 : Int32)) (hb hby at_92) rfl rfl ?_
            refine Wk.isub X141 hx (hb hby at_93) rfl ?_
            rw [(by decide : (((3 : Int32) - (1 : Int32)) : Int32) = (2 : Int32))]
            refine Wk.istore X141 hx (Ls' := #[.val (.int p0), .val (.int p1), .val (.int p2), .val (.int p3), .val (.int p4), .val (.int p5), .val (.int (3 : Int32)), .val (.int zz2), .val (.int zz3), .val (.int zz4), .val (.ref x134), .val (.int (2 : Int32)), .unset]) (hb hby at_94) rfl rfl ?_
            refine Wk.iload X141 hx (hb hby at_96) rfl rfl ?_
            refine Wk.iload X141 hx (hb hby at_98) rfl rfl ?_
            by_cases hc143 : (2 : Int32) < p4
            · skip
              refine Wk.icmpYes X141 hx (hb hby at_100) (by decide) (q := 114) rfl (tlt hc143).1 ?_
              refine Wk.iconst X141 hx (v := (0 : Int32)) (hb hby at_114) rfl rfl ?_
              refine Wk.istore X141 hx (Ls' := #[.val (.int p0), .val (.int p1), .val (.int p2), .val (.int p3), .val (.int p4), .val (.int p5), .val (.int (3 : Int32)), .val (.int zz2), .val (.int zz3), .val (.int zz4), .val (.ref x134), .val (.int (2 : Int32)), .val (.int (0 : Int32))]) (hb hby at_115) rfl rfl ?_
              refine Wk.aload X141 hx (hb hby at_117) rfl rfl rfl ?_
              refine Wk.iload X141 hx (hb hby at_119) rfl rfl ?_
              refine Wk.iload X141 hx (hb hby at_121) rfl rfl ?_
              refine Wk.callS X141 hx hZ hown (w 30 _ rfl) (w 31 _ rfl) (w 32 _ rfl) (w 33 _ rfl) (by decide) (as' := [(.ref x134), (.int p4), (.int p5)]) (backOf (W := 0) (rm_wi31 l Z a0 hw [] x134 t134 kb134 G1 zz2 zz3 zz4 p4 p5 h134 O135 sH sL sA SG1 nG1 q134_0 q134_1 q134_2 q134_3 q2_0 q3_0 q4_0) hZ (w 33 _ rfl) (w 32 _ rfl) (by decide) (by decide)) e141 (by rw [hml]; rfl) (rest := []) (lenOf pd27 rfl) rfl (Nat.le_of_eq rfl) (hb hby at_123) rfl (by decide) (by decide) ?_
              intro T144 h144 v144 L144 X144 e144 hQ144
              obtain ⟨r144, rfl, Nq144, K144, q144_0⟩ := hQ144
              have N144 := Fk.app N141 Nq144 KK137.1 all0
              rw [K144] at e144
              show Wp p e below _ _ T144 (mkF m 126 #[.val (.int p0), .val (.int p1), .val (.int p2), .val (.int p3), .val (.int p4), .val (.int p5), .val (.int (3 : Int32)), .val (.int zz2), .val (.int zz3), .val (.int zz4), .val (.ref x134), .val (.int (2 : Int32)), .val (.int (0 : Int32))] [(.int r144)])
              refine Wk.iload X144 hx (hb hby at_126) rfl rfl ?_
              refine Wk.icmpNo X144 hx (hb hby at_128) rfl (teq (by obtain ⟨q_, hq_, hw_⟩ := q144_0; obtain rfl : q_ = (2 : Int32) := Cnt3.uniq hq_ (show Cnt3 zz2 zz3 zz4 (2 : Int32) from by simp [Cnt3, (own_lat hg80).1, hh140, hh142, (own_lat hg80).1, (own_lat hg80).2]); simp [Wth, hc143] at hw_; exact hw_)).2 ?_
              refine Wk.iconst X144 hx (v := (1 : Int32)) (hb hby at_131) rfl rfl ?_
              refine Wk.goto X144 hx (hb hby at_132) (by decide) (q := 136) rfl ?_
              exact Wk.retZW X144 hx hS (Nat.le_trans (Nat.le_refl _) KK137.1) hlk hr (by simp) (hb hby at_136) (by decide) (by decide) (Qc := Q_rm_law Z p0 p1 p2 p3 p4 p5 G1 h0) e144 (fun vm' hw' => ⟨rfl, N144, KK137⟩)
            · skip
              refine Wk.icmpNo X141 hx (hb hby at_100) rfl (flt hc143).1 ?_
              refine Wk.iload X141 hx (hb hby at_103) rfl rfl ?_
              refine Wk.iload X141 hx (hb hby at_105) rfl rfl ?_
              by_cases hc145 : p5 < (2 : Int32)
              · skip
                refine Wk.icmpYes X141 hx (hb hby at_107) (by decide) (q := 114) rfl (tlt hc145).2.2.1 ?_
                refine Wk.iconst X141 hx (v := (0 : Int32)) (hb hby at_114) rfl rfl ?_
                refine Wk.istore X141 hx (Ls' := #[.val (.int p0), .val (.int p1), .val (.int p2), .val (.int p3), .val (.int p4), .val (.int p5), .val (.int (3 : Int32)), .val (.int zz2), .val (.int zz3), .val (.int zz4), .val (.ref x134), .val (.int (2 : Int32)), .val (.int (0 : Int32))]) (hb hby at_115) rfl rfl ?_
                refine Wk.aload X141 hx (hb hby at_117) rfl rfl rfl ?_
                refine Wk.iload X141 hx (hb hby at_119) rfl rfl ?_
                refine Wk.iload X141 hx (hb hby at_121) rfl rfl ?_
                refine Wk.callS X141 hx hZ hown (w 30 _ rfl) (w 31 _ rfl) (w 32 _ rfl) (w 33 _ rfl) (by decide) (as' := [(.ref x134), (.int p4), (.int p5)]) (backOf (W := 0) (rm_wi31 l Z a0 hw [] x134 t134 kb134 G1 zz2 zz3 zz4 p4 p5 h134 O135 sH sL sA SG1 nG1 q134_0 q134_1 q134_2 q134_3 q2_0 q3_0 q4_0) hZ (w 33 _ rfl) (w 32 _ rfl) (by decide) (by decide)) e141 (by rw [hml]; rfl) (rest := []) (lenOf pd27 rfl) rfl (Nat.le_of_eq rfl) (hb hby at_123) rfl (by decide) (by decide) ?_
                intro T146 h146 v146 L146 X146 e146 hQ146
                obtain ⟨r146, rfl, Nq146, K146, q146_0⟩ := hQ146
                have N146 := Fk.app N141 Nq146 KK137.1 all0
                rw [K146] at e146
                show Wp p e below _ _ T146 (mkF m 126 #[.val (.int p0), .val (.int p1), .val (.int p2), .val (.int p3), .val (.int p4), .val (.int p5), .val (.int (3 : Int32)), .val (.int zz2), .val (.int zz3), .val (.int zz4), .val (.ref x134), .val (.int (2 : Int32)), .val (.int (0 : Int32))] [(.int r146)])
                refine Wk.iload X146 hx (hb hby at_126) rfl rfl ?_
                refine Wk.icmpNo X146 hx (hb hby at_128) rfl (teq (by obtain ⟨q_, hq_, hw_⟩ := q146_0; obtain rfl : q_ = (2 : Int32) := Cnt3.uniq hq_ (show Cnt3 zz2 zz3 zz4 (2 : Int32) from by simp [Cnt3, (own_lat hg80).1, hh140, hh142, (own_lat hg80).1, (own_lat hg80).2]); simp [Wth, hc143, hc145] at hw_; exact hw_)).2 ?_
                refine Wk.iconst X146 hx (v := (1 : Int32)) (hb hby at_131) rfl rfl ?_
                refine Wk.goto X146 hx (hb hby at_132) (by decide) (q := 136) rfl ?_
                exact Wk.retZW X146 hx hS (Nat.le_trans (Nat.le_refl _) KK137.1) hlk hr (by simp) (hb hby at_136) (by decide) (by decide) (Qc := Q_rm_law Z p0 p1 p2 p3 p4 p5 G1 h0) e146 (fun vm' hw' => ⟨rfl, N146, KK137⟩)
              · skip
                refine Wk.icmpNo X141 hx (hb hby at_107) rfl (flt hc145).2.2.1 ?_
                refine Wk.iconst X141 hx (v := (1 : Int32)) (hb hby at_110) rfl rfl ?_
                refine Wk.goto X141 hx (hb hby at_111) (by decide) (q := 115) rfl ?_
                refine Wk.istore X141 hx (Ls' := #[.val (.int p0), .val (.int p1), .val (.int p2), .val (.int p3), .val (.int p4), .val (.int p5), .val (.int (3 : Int32)), .val (.int zz2), .val (.int zz3), .val (.int zz4), .val (.ref x134), .val (.int (2 : Int32)), .val (.int (1 : Int32))]) (hb hby at_115) rfl rfl ?_
                refine Wk.aload X141 hx (hb hby at_117) rfl rfl rfl ?_
                refine Wk.iload X141 hx (hb hby at_119) rfl rfl ?_
                refine Wk.iload X141 hx (hb hby at_121) rfl rfl ?_
                refine Wk.callS X141 hx hZ hown (w 30 _ rfl) (w 31 _ rfl) (w 32 _ rfl) (w 33 _ rfl) (by decide) (as' := [(.ref x134), (.int p4), (.int p5)]) (backOf (W := 0) (rm_wi31 l Z a0 hw [] x134 t134 kb134 G1 zz2 zz3 zz4 p4 p5 h134 O135 sH sL sA SG1 nG1 q134_0 q134_1 q134_2 q134_3 q2_0 q3_0 q4_0) hZ (w 33 _ rfl) (w 32 _ rfl) (by decide) (by decide)) e141 (by rw [hml]; rfl) (rest := []) (lenOf pd27 rfl) rfl (Nat.le_of_eq rfl) (hb hby at_123) rfl (by decide) (by decide) ?_
                intro T147 h147 v147 L147 X147 e147 hQ147
                obtain ⟨r147, rfl, Nq147, K147, q147_0⟩ := hQ147
                have N147 := Fk.app N141 Nq147 KK137.1 all0
                rw [K147] at e147
                show Wp p e below _ _ T147 (mkF m 126 #[.val (.int p0), .val (.int p1), .val (.int p2), .val (.int p3), .val (.int p4), .val (.int p5), .val (.int (3 : Int32)), .val (.int zz2), .val (.int zz3), .val (.int zz4), .val (.ref x134), .val (.int (2 : Int32)), .val (.int (1 : Int32))] [(.int r147)])
                refine Wk.iload X147 hx (hb hby at_126) rfl rfl ?_
                refine Wk.icmpNo X147 hx (hb hby at_128) rfl (teq (by obtain ⟨q_, hq_, hw_⟩ := q147_0; obtain rfl : q_ = (2 : Int32) := Cnt3.uniq hq_ (show Cnt3 zz2 zz3 zz4 (2 : Int32) from by simp [Cnt3, (own_lat hg80).1, hh140, hh142, (own_lat hg80).1, (own_lat hg80).2]); simp [Wth, hc143, hc145] at hw_; exact hw_)).2 ?_
                refine Wk.iconst X147 hx (v := (1 : Int32)) (hb hby at_131) rfl rfl ?_
                refine Wk.goto X147 hx (hb hby at_132) (by decide) (q := 136) rfl ?_
                exact Wk.retZW X147 hx hS (Nat.le_trans (Nat.le_refl _) KK137.1) hlk hr (by simp) (hb hby at_136) (by decide) (by decide) (Qc := Q_rm_law Z p0 p1 p2 p3 p4 p5 G1 h0) e147 (fun vm' hw' => ⟨rfl, N147, KK137⟩)
          · skip
            refine Wk.ifYes X141 hx (hb hby at_87) (by decide) (q := 96) rfl ((if0 _ _).trans (teq (by decide : (0 : Int32) = (0 : Int32))).1) ?_
            refine Wk.iload X141 hx (hb hby at_96) rfl rfl ?_
            refine Wk.iload X141 hx (hb hby at_98) rfl rfl ?_
            by_cases hc148 : (3 : Int32) < p4
            · skip
              refine Wk.icmpYes X141 hx (hb hby at_100) (by decide) (q := 114) rfl (tlt hc148).1 ?_
              refine Wk.iconst X141 hx (v := (0 : Int32)) (hb hby at_114) rfl rfl ?_
              refine Wk.istore X141 hx (Ls' := #[.val (.int p0), .val (.int p1), .val (.int p2), .val (.int p3), .val (.int p4), .val (.int p5), .val (.int (3 : Int32)), .val (.int zz2), .val (.int zz3), .val (.int zz4), .val (.ref x134), .val (.int (3 : Int32)), .val (.int (0 : Int32))]) (hb hby at_115) rfl rfl ?_
              refine Wk.aload X141 hx (hb hby at_117) rfl rfl rfl ?_
              refine Wk.iload X141 hx (hb hby at_119) rfl rfl ?_
              refine Wk.iload X141 hx (hb hby at_121) rfl rfl ?_
              refine Wk.callS X141 hx hZ hown (w 30 _ rfl) (w 31 _ rfl) (w 32 _ rfl) (w 33 _ rfl) (by decide) (as' := [(.ref x134), (.int p4), (.int p5)]) (backOf (W := 0) (rm_wi31 l Z a0 hw [] x134 t134 kb134 G1 zz2 zz3 zz4 p4 p5 h134 O135 sH sL sA SG1 nG1 q134_0 q134_1 q134_2 q134_3 q2_0 q3_0 q4_0) hZ (w 33 _ rfl) (w 32 _ rfl) (by decide) (by decide)) e141 (by rw [hml]; rfl) (rest := []) (lenOf pd27 rfl) rfl (Nat.le_of_eq rfl) (hb hby at_123) rfl (by decide) (by decide) ?_
              intro T149 h149 v149 L149 X149 e149 hQ149
              obtain ⟨r149, rfl, Nq149, K149, q149_0⟩ := hQ149
              have N149 := Fk.app N141 Nq149 KK137.1 all0
              rw [K149] at e149
              show Wp p e below _ _ T149 (mkF m 126 #[.val (.int p0), .val (.int p1), .val (.int p2), .val (.int p3), .val (.int p4), .val (.int p5), .val (.int (3 : Int32)), .val (.int zz2), .val (.int zz3), .val (.int zz4), .val (.ref x134), .val (.int (3 : Int32)), .val (.int (0 : Int32))] [(.int r149)])
              refine Wk.iload X149 hx (hb hby at_126) rfl rfl ?_
              refine Wk.icmpNo X149 hx (hb hby at_128) rfl (teq (by obtain ⟨q_, hq_, hw_⟩ := q149_0; obtain rfl : q_ = (3 : Int32) := Cnt3.uniq hq_ (show Cnt3 zz2 zz3 zz4 (3 : Int32) from by simp [Cnt3, (own_lat hg80).1, hh140, hh142, (own_lat hg80).1, (own_lat hg80).2]); simp [Wth, hc148] at hw_; exact hw_)).2 ?_
              refine Wk.iconst X149 hx (v := (1 : Int32)) (hb hby at_131) rfl rfl ?_
              refine Wk.goto X149 hx (hb hby at_132) (by decide) (q := 136) rfl ?_
              exact Wk.retZW X149 hx hS (Nat.le_trans (Nat.le_refl _) KK137.1) hlk hr (by simp) (hb hby at_136) (by decide) (by decide) (Qc := Q_rm_law Z p0 p1 p2 p3 p4 p5 G1 h0) e149 (fun vm' hw' => ⟨rfl, N149, KK137⟩)
            · skip
              refine Wk.icmpNo X141 hx (hb hby at_100) rfl (flt hc148).1 ?_
              refine Wk.iload X141 hx (hb hby at_103) rfl rfl ?_
              refine Wk.iload X141 hx (hb hby at_105) rfl rfl ?_
              by_cases hc150 : p5 < (3 : Int32)
              · skip
                refine Wk.icmpYes X141 hx (hb hby at_107) (by decide) (q := 114) rfl (tlt hc150).2.2.1 ?_
                refine Wk.iconst X141 hx (v := (0 : Int32)) (hb hby at_114) rfl rfl ?_
                refine Wk.istore X141 hx (Ls' := #[.val (.int p0), .val (.int p1), .val (.int p2), .val (.int p3), .val (.int p4), .val (.int p5), .val (.int (3 : Int32)), .val (.int zz2), .val (.int zz3), .val (.int zz4), .val (.ref x134), .val (.int (3 : Int32)), .val (.int (0 : Int32))]) (hb hby at_115) rfl rfl ?_
                refine Wk.aload X141 hx (hb hby at_117) rfl rfl rfl ?_
                refine Wk.iload X141 hx (hb hby at_119) rfl rfl ?_
                refine Wk.iload X141 hx (hb hby at_121) rfl rfl ?_
                refine Wk.callS X141 hx hZ hown (w 30 _ rfl) (w 31 _ rfl) (w 32 _ rfl) (w 33 _ rfl) (by decide) (as' := [(.ref x134), (.int p4), (.int p5)]) (backOf (W := 0) (rm_wi31 l Z a0 hw [] x134 t134 kb134 G1 zz2 zz3 zz4 p4 p5 h134 O135 sH sL sA SG1 nG1 q134_0 q134_1 q134_2 q134_3 q2_0 q3_0 q4_0) hZ (w 33 _ rfl) (w 32 _ rfl) (by decide) (by decide)) e141 (by rw [hml]; rfl) (rest := []) (lenOf pd27 rfl) rfl (Nat.le_of_eq rfl) (hb hby at_123) rfl (by decide) (by decide) ?_
                intro T151 h151 v151 L151 X151 e151 hQ151
                obtain ⟨r151, rfl, Nq151, K151, q151_0⟩ := hQ151
                have N151 := Fk.app N141 Nq151 KK137.1 all0
                rw [K151] at e151
                show Wp p e below _ _ T151 (mkF m 126 #[.val (.int p0), .val (.int p1), .val (.int p2), .val (.int p3), .val (.int p4), .val (.int p5), .val (.int (3 : Int32)), .val (.int zz2), .val (.int zz3), .val (.int zz4), .val (.ref x134), .val (.int (3 : Int32)), .val (.int (0 : Int32))] [(.int r151)])
                refine Wk.iload X151 hx (hb hby at_126) rfl rfl ?_
                refine Wk.icmpNo X151 hx (hb hby at_128) rfl (teq (by obtain ⟨q_, hq_, hw_⟩ := q151_0; obtain rfl : q_ = (3 : Int32) := Cnt3.uniq hq_ (show Cnt3 zz2 zz3 zz4 (3 : Int32) from by simp [Cnt3, (own_lat hg80).1, hh140, hh142, (own_lat hg80).1, (own_lat hg80).2]); simp [Wth, hc148, hc150] at hw_; exact hw_)).2 ?_
                refine Wk.iconst X151 hx (v := (1 : Int32)) (hb hby at_131) rfl rfl ?_
                refine Wk.goto X151 hx (hb hby at_132) (by decide) (q := 136) rfl ?_
                exact Wk.retZW X151 hx hS (Nat.le_trans (Nat.le_refl _) KK137.1) hlk hr (by simp) (hb hby at_136) (by decide) (by decide) (Qc := Q_rm_law Z p0 p1 p2 p3 p4 p5 G1 h0) e151 (fun vm' hw' => ⟨rfl, N151, KK137⟩)
              · skip
                refine Wk.icmpNo X141 hx (hb hby at_107) rfl (flt hc150).2.2.1 ?_
                refine Wk.iconst X141 hx (v := (1 : Int32)) (hb hby at_110) rfl rfl ?_
                refine Wk.goto X141 hx (hb hby at_111) (by decide) (q := 115) rfl ?_
                refine Wk.istore X141 hx (Ls' := #[.val (.int p0), .val (.int p1), .val (.int p2), .val (.int p3), .val (.int p4), .val (.int p5), .val (.int (3 : Int32)), .val (.int zz2), .val (.int zz3), .val (.int zz4), .val (.ref x134), .val (.int (3 : Int32)), .val (.int (1 : Int32))]) (hb hby at_115) rfl rfl ?_
                refine Wk.aload X141 hx (hb hby at_117) rfl rfl rfl ?_
                refine Wk.iload X141 hx (hb hby at_119) rfl rfl ?_
                refine Wk.iload X141 hx (hb hby at_121) rfl rfl ?_
                refine Wk.callS X141 hx hZ hown (w 30 _ rfl) (w 31 _ rfl) (w 32 _ rfl) (w 33 _ rfl) (by decide) (as' := [(.ref x134), (.int p4), (.int p5)]) (backOf (W := 0) (rm_wi31 l Z a0 hw [] x134 t134 kb134 G1 zz2 zz3 zz4 p4 p5 h134 O135 sH sL sA SG1 nG1 q134_0 q134_1 q134_2 q134_3 q2_0 q3_0 q4_0) hZ (w 33 _ rfl) (w 32 _ rfl) (by decide) (by decide)) e141 (by rw [hml]; rfl) (rest := []) (lenOf pd27 rfl) rfl (Nat.le_of_eq rfl) (hb hby at_123) rfl (by decide) (by decide) ?_
                intro T152 h152 v152 L152 X152 e152 hQ152
                obtain ⟨r152, rfl, Nq152, K152, q152_0⟩ := hQ152
                have N152 := Fk.app N141 Nq152 KK137.1 all0
                rw [K152] at e152
                show Wp p e below _ _ T152 (mkF m 126 #[.val (.int p0), .val (.int p1), .val (.int p2), .val (.int p3), .val (.int p4), .val (.int p5), .val (.int (3 : Int32)), .val (.int zz2), .val (.int zz3), .val (.int zz4), .val (.ref x134), .val (.int (3 : Int32)), .val (.int (1 : Int32))] [(.int r152)])
                refine Wk.iload X152 hx (hb hby at_126) rfl rfl ?_
                refine Wk.icmpNo X152 hx (hb hby at_128) rfl (teq (by obtain ⟨q_, hq_, hw_⟩ := q152_0; obtain rfl : q_ = (3 : Int32) := Cnt3.uniq hq_ (show Cnt3 zz2 zz3 zz4 (3 : Int32) from by simp [Cnt3, (own_lat hg80).1, hh140, hh142, (own_lat hg80).1, (own_lat hg80).2]); simp [Wth, hc148, hc150] at hw_; exact hw_)).2 ?_
                refine Wk.iconst X152 hx (v := (1 : Int32)) (hb hby at_131) rfl rfl ?_
                refine Wk.goto X152 hx (hb hby at_132) (by decide) (q := 136) rfl ?_
                exact Wk.retZW X152 hx hS (Nat.le_trans (Nat.le_refl _) KK137.1) hlk hr (by simp) (hb hby at_136) (by decide) (by decide) (Qc := Q_rm_law Z p0 p1 p2 p3 p4 p5 G1 h0) e152 (fun vm' hw' => ⟨rfl, N152, KK137⟩)
        · skip
          refine Wk.ifYes X139 hx (hb hby at_79) (by decide) (q := 96) rfl ((if0 _ _).trans (teq (by decide : (0 : Int32) = (0 : Int32))).1) ?_
          refine Wk.iload X139 hx (hb hby at_96) rfl rfl ?_
          refine Wk.iload X139 hx (hb hby at_98) rfl rfl ?_
          by_cases hc153 : (3 : Int32) < p4
          · skip
            refine Wk.icmpYes X139 hx (hb hby at_100) (by decide) (q := 114) rfl (tlt hc153).1 ?_
            refine Wk.iconst X139 hx (v := (0 : Int32)) (hb hby at_114) rfl rfl ?_
            refine Wk.istore X139 hx (Ls' := #[.val (.int p0), .val (.int p1), .val (.int p2), .val (.int p3), .val (.int p4), .val (.int p5), .val (.int (3 : Int32)), .val (.int zz2), .val (.int zz3), .val (.int zz4), .val (.ref x134), .val (.int (3 : Int32)), .val (.int (0 : Int32))]) (hb hby at_115) rfl rfl ?_
            refine Wk.aload X139 hx (hb hby at_117) rfl rfl rfl ?_
            refine Wk.iload X139 hx (hb hby at_119) rfl rfl ?_
            refine Wk.iload X139 hx (hb hby at_121) rfl rfl ?_
            refine Wk.callS X139 hx hZ hown (w 30 _ rfl) (w 31 _ rfl) (w 32 _ rfl) (w 33 _ rfl) (by decide) (as' := [(.ref x134), (.int p4), (.int p5)]) (backOf (W := 0) (rm_wi31 l Z a0 hw [] x134 t134 kb134 G1 zz2 zz3 zz4 p4 p5 h134 O135 sH sL sA SG1 nG1 q134_0 q134_1 q134_2 q134_3 q2_0 q3_0 q4_0) hZ (w 33 _ rfl) (w 32 _ rfl) (by decide) (by decide)) e139 (by rw [hml]; rfl) (rest := []) (lenOf pd27 rfl) rfl (Nat.le_of_eq rfl) (hb hby at_123) rfl (by decide) (by decide) ?_
            intro T154 h154 v154 L154 X154 e154 hQ154
            obtain ⟨r154, rfl, Nq154, K154, q154_0⟩ := hQ154
            have N154 := Fk.app N139 Nq154 KK137.1 all0
            rw [K154] at e154
            show Wp p e below _ _ T154 (mkF m 126 #[.val (.int p0), .val (.int p1), .val (.int p2), .val (.int p3), .val (.int p4), .val (.int p5), .val (.int (3 : Int32)), .val (.int zz2), .val (.int zz3), .val (.int zz4), .val (.ref x134), .val (.int (3 : Int32)), .val (.int (0 : Int32))] [(.int r154)])
            refine Wk.iload X154 hx (hb hby at_126) rfl rfl ?_
            refine Wk.icmpNo X154 hx (hb hby at_128) rfl (teq (by obtain ⟨q_, hq_, hw_⟩ := q154_0; obtain rfl : q_ = (3 : Int32) := Cnt3.uniq hq_ (show Cnt3 zz2 zz3 zz4 (3 : Int32) from by simp [Cnt3, (own_lat hg80).1, hh140, (own_lat hg80).1, (own_lat hg80).2]); simp [Wth, hc153] at hw_; exact hw_)).2 ?_
            refine Wk.iconst X154 hx (v := (1 : Int32)) (hb hby at_131) rfl rfl ?_
            refine Wk.goto X154 hx (hb hby at_132) (by decide) (q := 136) rfl ?_
            exact Wk.retZW X154 hx hS (Nat.le_trans (Nat.le_refl _) KK137.1) hlk hr (by simp) (hb hby at_136) (by decide) (by decide) (Qc := Q_rm_law Z p0 p1 p2 p3 p4 p5 G1 h0) e154 (fun vm' hw' => ⟨rfl, N154, KK137⟩)
          · skip
            refine Wk.icmpNo X139 hx (hb hby at_100) rfl (flt hc153).1 ?_
            refine Wk.iload X139 hx (hb hby at_103) rfl rfl ?_
            refine Wk.iload X139 hx (hb hby at_105) rfl rfl ?_
            by_cases hc155 : p5 < (3 : Int32)
            · skip
              refine Wk.icmpYes X139 hx (hb hby at_107) (by decide) (q := 114) rfl (tlt hc155).2.2.1 ?_
              refine Wk.iconst X139 hx (v := (0 : Int32)) (hb hby at_114) rfl rfl ?_
              refine Wk.istore X139 hx (Ls' := #[.val (.int p0), .val (.int p1), .val (.int p2), .val (.int p3), .val (.int p4), .val (.int p5), .val (.int (3 : Int32)), .val (.int zz2), .val (.int zz3), .val (.int zz4), .val (.ref x134), .val (.int (3 : Int32)), .val (.int (0 : Int32))]) (hb hby at_115) rfl rfl ?_
              refine Wk.aload X139 hx (hb hby at_117) rfl rfl rfl ?_
              refine Wk.iload X139 hx (hb hby at_119) rfl rfl ?_
              refine Wk.iload X139 hx (hb hby at_121) rfl rfl ?_
              refine Wk.callS X139 hx hZ hown (w 30 _ rfl) (w 31 _ rfl) (w 32 _ rfl) (w 33 _ rfl) (by decide) (as' := [(.ref x134), (.int p4), (.int p5)]) (backOf (W := 0) (rm_wi31 l Z a0 hw [] x134 t134 kb134 G1 zz2 zz3 zz4 p4 p5 h134 O135 sH sL sA SG1 nG1 q134_0 q134_1 q134_2 q134_3 q2_0 q3_0 q4_0) hZ (w 33 _ rfl) (w 32 _ rfl) (by decide) (by decide)) e139 (by rw [hml]; rfl) (rest := []) (lenOf pd27 rfl) rfl (Nat.le_of_eq rfl) (hb hby at_123) rfl (by decide) (by decide) ?_
              intro T156 h156 v156 L156 X156 e156 hQ156
              obtain ⟨r156, rfl, Nq156, K156, q156_0⟩ := hQ156
              have N156 := Fk.app N139 Nq156 KK137.1 all0
              rw [K156] at e156
              show Wp p e below _ _ T156 (mkF m 126 #[.val (.int p0), .val (.int p1), .val (.int p2), .val (.int p3), .val (.int p4), .val (.int p5), .val (.int (3 : Int32)), .val (.int zz2), .val (.int zz3), .val (.int zz4), .val (.ref x134), .val (.int (3 : Int32)), .val (.int (0 : Int32))] [(.int r156)])
              refine Wk.iload X156 hx (hb hby at_126) rfl rfl ?_
              refine Wk.icmpNo X156 hx (hb hby at_128) rfl (teq (by obtain ⟨q_, hq_, hw_⟩ := q156_0; obtain rfl : q_ = (3 : Int32) := Cnt3.uniq hq_ (show Cnt3 zz2 zz3 zz4 (3 : Int32) from by simp [Cnt3, (own_lat hg80).1, hh140, (own_lat hg80).1, (own_lat hg80).2]); simp [Wth, hc153, hc155] at hw_; exact hw_)).2 ?_
              refine Wk.iconst X156 hx (v := (1 : Int32)) (hb hby at_131) rfl rfl ?_
              refine Wk.goto X156 hx (hb hby at_132) (by decide) (q := 136) rfl ?_
              exact Wk.retZW X156 hx hS (Nat.le_trans (Nat.le_refl _) KK137.1) hlk hr (by simp) (hb hby at_136) (by decide) (by decide) (Qc := Q_rm_law Z p0 p1 p2 p3 p4 p5 G1 h0) e156 (fun vm' hw' => ⟨rfl, N156, KK137⟩)
            · skip
              refine Wk.icmpNo X139 hx (hb hby at_107) rfl (flt hc155).2.2.1 ?_
              refine Wk.iconst X139 hx (v := (1 : Int32)) (hb hby at_110) rfl rfl ?_
              refine Wk.goto X139 hx (hb hby at_111) (by decide) (q := 115) rfl ?_
              refine Wk.istore X139 hx (Ls' := #[.val (.int p0), .val (.int p1), .val (.int p2), .val (.int p3), .val (.int p4), .val (.int p5), .val (.int (3 : Int32)), .val (.int zz2), .val (.int zz3), .val (.int zz4), .val (.ref x134), .val (.int (3 : Int32)), .val (.int (1 : Int32))]) (hb hby at_115) rfl rfl ?_
              refine Wk.aload X139 hx (hb hby at_117) rfl rfl rfl ?_
              refine Wk.iload X139 hx (hb hby at_119) rfl rfl ?_
              refine Wk.iload X139 hx (hb hby at_121) rfl rfl ?_
              refine Wk.callS X139 hx hZ hown (w 30 _ rfl) (w 31 _ rfl) (w 32 _ rfl) (w 33 _ rfl) (by decide) (as' := [(.ref x134), (.int p4), (.int p5)]) (backOf (W := 0) (rm_wi31 l Z a0 hw [] x134 t134 kb134 G1 zz2 zz3 zz4 p4 p5 h134 O135 sH sL sA SG1 nG1 q134_0 q134_1 q134_2 q134_3 q2_0 q3_0 q4_0) hZ (w 33 _ rfl) (w 32 _ rfl) (by decide) (by decide)) e139 (by rw [hml]; rfl) (rest := []) (lenOf pd27 rfl) rfl (Nat.le_of_eq rfl) (hb hby at_123) rfl (by decide) (by decide) ?_
              intro T157 h157 v157 L157 X157 e157 hQ157
              obtain ⟨r157, rfl, Nq157, K157, q157_0⟩ := hQ157
              have N157 := Fk.app N139 Nq157 KK137.1 all0
              rw [K157] at e157
              show Wp p e below _ _ T157 (mkF m 126 #[.val (.int p0), .val (.int p1), .val (.int p2), .val (.int p3), .val (.int p4), .val (.int p5), .val (.int (3 : Int32)), .val (.int zz2), .val (.int zz3), .val (.int zz4), .val (.ref x134), .val (.int (3 : Int32)), .val (.int (1 : Int32))] [(.int r157)])
              refine Wk.iload X157 hx (hb hby at_126) rfl rfl ?_
              refine Wk.icmpNo X157 hx (hb hby at_128) rfl (teq (by obtain ⟨q_, hq_, hw_⟩ := q157_0; obtain rfl : q_ = (3 : Int32) := Cnt3.uniq hq_ (show Cnt3 zz2 zz3 zz4 (3 : Int32) from by simp [Cnt3, (own_lat hg80).1, hh140, (own_lat hg80).1, (own_lat hg80).2]); simp [Wth, hc153, hc155] at hw_; exact hw_)).2 ?_
              refine Wk.iconst X157 hx (v := (1 : Int32)) (hb hby at_131) rfl rfl ?_
              refine Wk.goto X157 hx (hb hby at_132) (by decide) (q := 136) rfl ?_
              exact Wk.retZW X157 hx hS (Nat.le_trans (Nat.le_refl _) KK137.1) hlk hr (by simp) (hb hby at_136) (by decide) (by decide) (Qc := Q_rm_law Z p0 p1 p2 p3 p4 p5 G1 h0) e157 (fun vm' hw' => ⟨rfl, N157, KK137⟩)
      · skip
        have Ltzz3 : Lat zz3 := ⟨q3_0.1, hg133⟩
        by_cases hg158 : (255 : Int32) < zz4
        · skip
          refine Wk.callS X4 hx hZ hown (w 5 _ rfl) (w 6 _ rfl) (w 2 _ rfl) (w 7 _ rfl) (by decide) (as' := [(.int (3 : Int32)), (.int zz2), (.int zz3), (.int zz4)]) (backOf (W := 0) (rm_mk32 l Z a0 hw [] zz2 zz3 zz4 G1 h0 O0 sH sL sA SG1 nG1 q2_0 q3_0 q4_0 hg80 hg133 hg158) hZ (w 7 _ rfl) (w 2 _ rfl) (by decide) (by decide)) e4 (by rw [hml]; rfl) (rest := []) (lenOf pd26 rfl) rfl (Nat.le_of_eq rfl) (hb hby at_31) rfl (by decide) (by decide) ?_
          intro T159 h159 v159 L159 X159 e159 hQ159
          obtain ⟨x159, t159, kb159, rfl, Nq159, K159, q159_0, q159_1, q159_2, q159_3⟩ := hQ159
          have N159 := Fk.app N4 Nq159 (Nat.le_refl _) all0
          have O160 : Old Z Z.heap.size h159 := O0.keep K159 all0
          show Wp p e below _ _ T159 (mkF m 34 #[.val (.int p0), .val (.int p1), .val (.int p2), .val (.int p3), .val (.int p4), .val (.int p5), .val (.int (3 : Int32)), .val (.int zz2), .val (.int zz3), .val (.int zz4), .unset, .unset, .unset] [(.ref x159)])
          refine Wk.astore X159 hx (Ls' := #[.val (.int p0), .val (.int p1), .val (.int p2), .val (.int p3), .val (.int p4), .val (.int p5), .val (.int (3 : Int32)), .val (.int zz2), .val (.int zz3), .val (.int zz4), .val (.ref x159), .unset, .unset]) (hb hby at_34) rfl rfl rfl ?_
          refine Wk.iload X159 hx (hb hby at_36) rfl rfl ?_
          refine Wk.istore X159 hx (Ls' := #[.val (.int p0), .val (.int p1), .val (.int p2), .val (.int p3), .val (.int p4), .val (.int p5), .val (.int (3 : Int32)), .val (.int zz2), .val (.int zz3), .val (.int zz4), .val (.ref x159), .val (.int (3 : Int32)), .unset]) (hb hby at_38) rfl rfl ?_
          refine Wk.iload X159 hx (hb hby at_40) rfl rfl ?_
          refine Wk.iconst X159 hx (v := (2 : Int32)) (hb hby at_42) rfl rfl ?_
          refine Wk.icmpNo X159 hx (hb hby at_43) rfl (flt (by decide : ¬ ((3 : Int32) < (2 : Int32)))).1 ?_
          refine Wk.iload X159 hx (hb hby at_46) rfl rfl ?_
          refine Wk.callS X159 hx hZ hown (w 95 _ rfl) (w 96 _ rfl) (w 2 _ rfl) (w 97 _ rfl) (by decide) (as' := [(.int zz2)]) (backOf (W := 0) (rm_lhi l Z a0 hw [] zz2 h159 O160) hZ (w 97 _ rfl) (w 2 _ rfl) (by decide) (by decide)) e159 (by rw [hml]; rfl) (rest := []) (lenOf pd14 rfl) rfl (Nat.le_of_eq rfl) (hb hby at_48) rfl (by decide) (by decide) ?_
          intro T161 h161 v161 L161 X161 e161 hQ161
          obtain ⟨r161, rfl, Nq161, K161, q161_0⟩ := hQ161
          have KK162 : Keep h0 h159 [] := ((Keep.refl h0 []).trans K159 all0)
          have N161 := Fk.app N159 Nq161 KK162.1 all0
          rw [K161] at e161
          show Wp p e below _ _ T161 (mkF m 51 #[.val (.int p0), .val (.int p1), .val (.int p2), .val (.int p3), .val (.int p4), .val (.int p5), .val (.int (3 : Int32)), .val (.int zz2), .val (.int zz3), .val (.int zz4), .val (.ref x159), .val (.int (3 : Int32)), .unset] [(.int r161)])
          obtain rfl : r161 = 0 := by rcases q161_0 with ⟨_, hh⟩ | ⟨hh, _⟩; exact absurd hh (own_lat hg80).1; exact hh
          refine Wk.ifYes X161 hx (hb hby at_51) (by decide) (q := 68) rfl ((if0 _ _).trans (teq (by decide : (0 : Int32) = (0 : Int32))).1) ?_
          refine Wk.iload X161 hx (hb hby at_68) rfl rfl ?_
          refine Wk.iconst X161 hx (v := (3 : Int32)) (hb hby at_70) rfl rfl ?_
          refine Wk.icmpNo X161 hx (hb hby at_71) rfl (flt (by decide : ¬ ((3 : Int32) < (3 : Int32)))).1 ?_
          refine Wk.iload X161 hx (hb hby at_74) rfl rfl ?_
          refine Wk.callS X161 hx hZ hown (w 95 _ rfl) (w 96 _ rfl) (w 2 _ rfl) (w 97 _ rfl) (by decide) (as' := [(.int zz3)]) (backOf (W := 0) (rm_lhi l Z a0 hw [] zz3 h159 O160) hZ (w 97 _ rfl) (w 2 _ rfl) (by decide) (by decide)) e161 (by rw [hml]; rfl) (rest := []) (lenOf pd14 rfl) rfl (Nat.le_of_eq rfl) (hb hby at_76) rfl (by decide) (by decide) ?_
          intro T164 h164 v164 L164 X164 e164 hQ164
          obtain ⟨r164, rfl, Nq164, K164, q164_0⟩ := hQ164
          have N164 := Fk.app N161 Nq164 KK162.1 all0
          rw [K164] at e164
          show Wp p e below _ _ T164 (mkF m 79 #[.val (.int p0), .val (.int p1), .val (.int p2), .val (.int p3), .val (.int p4), .val (.int p5), .val (.int (3 : Int32)), .val (.int zz2), .val (.int zz3), .val (.int zz4), .val (.ref x159), .val (.int (3 : Int32)), .unset] [(.int r164)])
          obtain rfl : r164 = 0 := by rcases q164_0 with ⟨_, hh⟩ | ⟨hh, _⟩; exact absurd hh (own_lat hg133).1; exact hh
          refine Wk.ifYes X164 hx (hb hby at_79) (by decide) (q := 96) rfl ((if0 _ _).trans (teq (by decide : (0 : Int32) = (0 : Int32))).1) ?_
          refine Wk.iload X164 hx (hb hby at_96) rfl rfl ?_
          refine Wk.iload X164 hx (hb hby at_98) rfl rfl ?_
          by_cases hc166 : (3 : Int32) < p4
          · skip
            refine Wk.icmpYes X164 hx (hb hby at_100) (by decide) (q := 114) rfl (tlt hc166).1 ?_
            refine Wk.iconst X164 hx (v := (0 : Int32)) (hb hby at_114) rfl rfl ?_
            refine Wk.istore X164 hx (Ls' := #[.val (.int p0), .val (.int p1), .val (.int p2), .val (.int p3), .val (.int p4), .val (.int p5), .val (.int (3 : Int32)), .val (.int zz2), .val (.int zz3), .val (.int zz4), .val (.ref x159), .val (.int (3 : Int32)), .val (.int (0 : Int32))]) (hb hby at_115) rfl rfl ?_
            refine Wk.aload X164 hx (hb hby at_117) rfl rfl rfl ?_
            refine Wk.iload X164 hx (hb hby at_119) rfl rfl ?_
            refine Wk.iload X164 hx (hb hby at_121) rfl rfl ?_
            refine Wk.callS X164 hx hZ hown (w 30 _ rfl) (w 31 _ rfl) (w 32 _ rfl) (w 33 _ rfl) (by decide) (as' := [(.ref x159), (.int p4), (.int p5)]) (backOf (W := 0) (rm_wi31 l Z a0 hw [] x159 t159 kb159 G1 zz2 zz3 zz4 p4 p5 h159 O160 sH sL sA SG1 nG1 q159_0 q159_1 q159_2 q159_3 q2_0 q3_0 q4_0) hZ (w 33 _ rfl) (w 32 _ rfl) (by decide) (by decide)) e164 (by rw [hml]; rfl) (rest := []) (lenOf pd27 rfl) rfl (Nat.le_of_eq rfl) (hb hby at_123) rfl (by decide) (by decide) ?_
            intro T167 h167 v167 L167 X167 e167 hQ167
            obtain ⟨r167, rfl, Nq167, K167, q167_0⟩ := hQ167
            have N167 := Fk.app N164 Nq167 KK162.1 all0
            rw [K167] at e167
            show Wp p e below _ _ T167 (mkF m 126 #[.val (.int p0), .val (.int p1), .val (.int p2), .val (.int p3), .val (.int p4), .val (.int p5), .val (.int (3 : Int32)), .val (.int zz2), .val (.int zz3), .val (.int zz4), .val (.ref x159), .val (.int (3 : Int32)), .val (.int (0 : Int32))] [(.int r167)])
            refine Wk.iload X167 hx (hb hby at_126) rfl rfl ?_
            refine Wk.icmpNo X167 hx (hb hby at_128) rfl (teq (by obtain ⟨q_, hq_, hw_⟩ := q167_0; obtain rfl : q_ = (3 : Int32) := Cnt3.uniq hq_ (show Cnt3 zz2 zz3 zz4 (3 : Int32) from by simp [Cnt3, (own_lat hg80).1, (own_lat hg133).1, (own_lat hg80).1, (own_lat hg80).2, (own_lat hg133).1, (own_lat hg133).2]); simp [Wth, hc166] at hw_; exact hw_)).2 ?_
            refine Wk.iconst X167 hx (v := (1 : Int32)) (hb hby at_131) rfl rfl ?_
            refine Wk.goto X167 hx (hb hby at_132) (by decide) (q := 136) rfl ?_
            exact Wk.retZW X167 hx hS (Nat.le_trans (Nat.le_refl _) KK162.1) hlk hr (by simp) (hb hby at_136) (by decide) (by decide) (Qc := Q_rm_law Z p0 p1 p2 p3 p4 p5 G1 h0) e167 (fun vm' hw' => ⟨rfl, N167, KK162⟩)
          · skip
            refine Wk.icmpNo X164 hx (hb hby at_100) rfl (flt hc166).1 ?_
            refine Wk.iload X164 hx (hb hby at_103) rfl rfl ?_
            refine Wk.iload X164 hx (hb hby at_105) rfl rfl ?_
            by_cases hc168 : p5 < (3 : Int32)
            · skip
              refine Wk.icmpYes X164 hx (hb hby at_107) (by decide) (q := 114) rfl (tlt hc168).2.2.1 ?_
              refine Wk.iconst X164 hx (v := (0 : Int32)) (hb hby at_114) rfl rfl ?_
              refine Wk.istore X164 hx (Ls' := #[.val (.int p0), .val (.int p1), .val (.int p2), .val (.int p3), .val (.int p4), .val (.int p5), .val (.int (3 : Int32)), .val (.int zz2), .val (.int zz3), .val (.int zz4), .val (.ref x159), .val (.int (3 : Int32)), .val (.int (0 : Int32))]) (hb hby at_115) rfl rfl ?_
              refine Wk.aload X164 hx (hb hby at_117) rfl rfl rfl ?_
              refine Wk.iload X164 hx (hb hby at_119) rfl rfl ?_
              refine Wk.iload X164 hx (hb hby at_121) rfl rfl ?_
              refine Wk.callS X164 hx hZ hown (w 30 _ rfl) (w 31 _ rfl) (w 32 _ rfl) (w 33 _ rfl) (by decide) (as' := [(.ref x159), (.int p4), (.int p5)]) (backOf (W := 0) (rm_wi31 l Z a0 hw [] x159 t159 kb159 G1 zz2 zz3 zz4 p4 p5 h159 O160 sH sL sA SG1 nG1 q159_0 q159_1 q159_2 q159_3 q2_0 q3_0 q4_0) hZ (w 33 _ rfl) (w 32 _ rfl) (by decide) (by decide)) e164 (by rw [hml]; rfl) (rest := []) (lenOf pd27 rfl) rfl (Nat.le_of_eq rfl) (hb hby at_123) rfl (by decide) (by decide) ?_
              intro T169 h169 v169 L169 X169 e169 hQ169
              obtain ⟨r169, rfl, Nq169, K169, q169_0⟩ := hQ169
              have N169 := Fk.app N164 Nq169 KK162.1 all0
              rw [K169] at e169
              show Wp p e below _ _ T169 (mkF m 126 #[.val (.int p0), .val (.int p1), .val (.int p2), .val (.int p3), .val (.int p4), .val (.int p5), .val (.int (3 : Int32)), .val (.int zz2), .val (.int zz3), .val (.int zz4), .val (.ref x159), .val (.int (3 : Int32)), .val (.int (0 : Int32))] [(.int r169)])
              refine Wk.iload X169 hx (hb hby at_126) rfl rfl ?_
              refine Wk.icmpNo X169 hx (hb hby at_128) rfl (teq (by obtain ⟨q_, hq_, hw_⟩ := q169_0; obtain rfl : q_ = (3 : Int32) := Cnt3.uniq hq_ (show Cnt3 zz2 zz3 zz4 (3 : Int32) from by simp [Cnt3, (own_lat hg80).1, (own_lat hg133).1, (own_lat hg80).1, (own_lat hg80).2, (own_lat hg133).1, (own_lat hg133).2]); simp [Wth, hc166, hc168] at hw_; exact hw_)).2 ?_
              refine Wk.iconst X169 hx (v := (1 : Int32)) (hb hby at_131) rfl rfl ?_
              refine Wk.goto X169 hx (hb hby at_132) (by decide) (q := 136) rfl ?_
              exact Wk.retZW X169 hx hS (Nat.le_trans (Nat.le_refl _) KK162.1) hlk hr (by simp) (hb hby at_136) (by decide) (by decide) (Qc := Q_rm_law Z p0 p1 p2 p3 p4 p5 G1 h0) e169 (fun vm' hw' => ⟨rfl, N169, KK162⟩)
            · skip
              refine Wk.icmpNo X164 hx (hb hby at_107) rfl (flt hc168).2.2.1 ?_
              refine Wk.iconst X164 hx (v := (1 : Int32)) (hb hby at_110) rfl rfl ?_
              refine Wk.goto X164 hx (hb hby at_111) (by decide) (q := 115) rfl ?_
              refine Wk.istore X164 hx (Ls' := #[.val (.int p0), .val (.int p1), .val (.int p2), .val (.int p3), .val (.int p4), .val (.int p5), .val (.int (3 : Int32)), .val (.int zz2), .val (.int zz3), .val (.int zz4), .val (.ref x159), .val (.int (3 : Int32)), .val (.int (1 : Int32))]) (hb hby at_115) rfl rfl ?_
              refine Wk.aload X164 hx (hb hby at_117) rfl rfl rfl ?_
              refine Wk.iload X164 hx (hb hby at_119) rfl rfl ?_
              refine Wk.iload X164 hx (hb hby at_121) rfl rfl ?_
              refine Wk.callS X164 hx hZ hown (w 30 _ rfl) (w 31 _ rfl) (w 32 _ rfl) (w 33 _ rfl) (by decide) (as' := [(.ref x159), (.int p4), (.int p5)]) (backOf (W := 0) (rm_wi31 l Z a0 hw [] x159 t159 kb159 G1 zz2 zz3 zz4 p4 p5 h159 O160 sH sL sA SG1 nG1 q159_0 q159_1 q159_2 q159_3 q2_0 q3_0 q4_0) hZ (w 33 _ rfl) (w 32 _ rfl) (by decide) (by decide)) e164 (by rw [hml]; rfl) (rest := []) (lenOf pd27 rfl) rfl (Nat.le_of_eq rfl) (hb hby at_123) rfl (by decide) (by decide) ?_
              intro T170 h170 v170 L170 X170 e170 hQ170
              obtain ⟨r170, rfl, Nq170, K170, q170_0⟩ := hQ170
              have N170 := Fk.app N164 Nq170 KK162.1 all0
              rw [K170] at e170
              show Wp p e below _ _ T170 (mkF m 126 #[.val (.int p0), .val (.int p1), .val (.int p2), .val (.int p3), .val (.int p4), .val (.int p5), .val (.int (3 : Int32)), .val (.int zz2), .val (.int zz3), .val (.int zz4), .val (.ref x159), .val (.int (3 : Int32)), .val (.int (1 : Int32))] [(.int r170)])
              refine Wk.iload X170 hx (hb hby at_126) rfl rfl ?_
              refine Wk.icmpNo X170 hx (hb hby at_128) rfl (teq (by obtain ⟨q_, hq_, hw_⟩ := q170_0; obtain rfl : q_ = (3 : Int32) := Cnt3.uniq hq_ (show Cnt3 zz2 zz3 zz4 (3 : Int32) from by simp [Cnt3, (own_lat hg80).1, (own_lat hg133).1, (own_lat hg80).1, (own_lat hg80).2, (own_lat hg133).1, (own_lat hg133).2]); simp [Wth, hc166, hc168] at hw_; exact hw_)).2 ?_
              refine Wk.iconst X170 hx (v := (1 : Int32)) (hb hby at_131) rfl rfl ?_
              refine Wk.goto X170 hx (hb hby at_132) (by decide) (q := 136) rfl ?_
              exact Wk.retZW X170 hx hS (Nat.le_trans (Nat.le_refl _) KK162.1) hlk hr (by simp) (hb hby at_136) (by decide) (by decide) (Qc := Q_rm_law Z p0 p1 p2 p3 p4 p5 G1 h0) e170 (fun vm' hw' => ⟨rfl, N170, KK162⟩)
        · skip
          have Ltzz4 : Lat zz4 := ⟨q4_0.1, hg158⟩
          refine Wk.callS X4 hx hZ hown (w 5 _ rfl) (w 6 _ rfl) (w 2 _ rfl) (w 7 _ rfl) (by decide) (as' := [(.int (3 : Int32)), (.int zz2), (.int zz3), (.int zz4)]) (backOf (W := 0) (rm_mk3L l Z a0 hw [] zz2 zz3 zz4 G1 h0 O0 SG1 nG1 Ltzz2 Ltzz3 Ltzz4) hZ (w 7 _ rfl) (w 2 _ rfl) (by decide) (by decide)) e4 (by rw [hml]; rfl) (rest := []) (lenOf pd26 rfl) rfl (Nat.le_of_eq rfl) (hb hby at_31) rfl (by decide) (by decide) ?_
          intro T171 h171 v171 L171 X171 e171 hQ171
          obtain ⟨x171, t171, kb171, lb171, rfl, Nq171, K171, q171_0, q171_1, q171_2, q171_3⟩ := hQ171
          have N171 := Fk.app N4 Nq171 (Nat.le_refl _) all0
          have O172 : Old Z Z.heap.size h171 := O0.keep K171 all0
          show Wp p e below _ _ T171 (mkF m 34 #[.val (.int p0), .val (.int p1), .val (.int p2), .val (.int p3), .val (.int p4), .val (.int p5), .val (.int (3 : Int32)), .val (.int zz2), .val (.int zz3), .val (.int zz4), .unset, .unset, .unset] [(.ref x171)])
          refine Wk.astore X171 hx (Ls' := #[.val (.int p0), .val (.int p1), .val (.int p2), .val (.int p3), .val (.int p4), .val (.int p5), .val (.int (3 : Int32)), .val (.int zz2), .val (.int zz3), .val (.int zz4), .val (.ref x171), .unset, .unset]) (hb hby at_34) rfl rfl rfl ?_
          refine Wk.iload X171 hx (hb hby at_36) rfl rfl ?_
          refine Wk.istore X171 hx (Ls' := #[.val (.int p0), .val (.int p1), .val (.int p2), .val (.int p3), .val (.int p4), .val (.int p5), .val (.int (3 : Int32)), .val (.int zz2), .val (.int zz3), .val (.int zz4), .val (.ref x171), .val (.int (3 : Int32)), .unset]) (hb hby at_38) rfl rfl ?_
          refine Wk.iload X171 hx (hb hby at_40) rfl rfl ?_
          refine Wk.iconst X171 hx (v := (2 : Int32)) (hb hby at_42) rfl rfl ?_
          refine Wk.icmpNo X171 hx (hb hby at_43) rfl (flt (by decide : ¬ ((3 : Int32) < (2 : Int32)))).1 ?_
          refine Wk.iload X171 hx (hb hby at_46) rfl rfl ?_
          refine Wk.callS X171 hx hZ hown (w 95 _ rfl) (w 96 _ rfl) (w 2 _ rfl) (w 97 _ rfl) (by decide) (as' := [(.int zz2)]) (backOf (W := 0) (rm_lhi l Z a0 hw [] zz2 h171 O172) hZ (w 97 _ rfl) (w 2 _ rfl) (by decide) (by decide)) e171 (by rw [hml]; rfl) (rest := []) (lenOf pd14 rfl) rfl (Nat.le_of_eq rfl) (hb hby at_48) rfl (by decide) (by decide) ?_
          intro T173 h173 v173 L173 X173 e173 hQ173
          obtain ⟨r173, rfl, Nq173, K173, q173_0⟩ := hQ173
          have KK174 : Keep h0 h171 [] := ((Keep.refl h0 []).trans K171 all0)
          have N173 := Fk.app N171 Nq173 KK174.1 all0
          rw [K173] at e173
          show Wp p e below _ _ T173 (mkF m 51 #[.val (.int p0), .val (.int p1), .val (.int p2), .val (.int p3), .val (.int p4), .val (.int p5), .val (.int (3 : Int32)), .val (.int zz2), .val (.int zz3), .val (.int zz4), .val (.ref x171), .val (.int (3 : Int32)), .unset] [(.int r173)])
          obtain rfl : r173 = 0 := by rcases q173_0 with ⟨_, hh⟩ | ⟨hh, _⟩; exact absurd hh (own_lat hg80).1; exact hh
          refine Wk.ifYes X173 hx (hb hby at_51) (by decide) (q := 68) rfl ((if0 _ _).trans (teq (by decide : (0 : Int32) = (0 : Int32))).1) ?_
          refine Wk.iload X173 hx (hb hby at_68) rfl rfl ?_
          refine Wk.iconst X173 hx (v := (3 : Int32)) (hb hby at_70) rfl rfl ?_
          refine Wk.icmpNo X173 hx (hb hby at_71) rfl (flt (by decide : ¬ ((3 : Int32) < (3 : Int32)))).1 ?_
          refine Wk.iload X173 hx (hb hby at_74) rfl rfl ?_
          refine Wk.callS X173 hx hZ hown (w 95 _ rfl) (w 96 _ rfl) (w 2 _ rfl) (w 97 _ rfl) (by decide) (as' := [(.int zz3)]) (backOf (W := 0) (rm_lhi l Z a0 hw [] zz3 h171 O172) hZ (w 97 _ rfl) (w 2 _ rfl) (by decide) (by decide)) e173 (by rw [hml]; rfl) (rest := []) (lenOf pd14 rfl) rfl (Nat.le_of_eq rfl) (hb hby at_76) rfl (by decide) (by decide) ?_
          intro T176 h176 v176 L176 X176 e176 hQ176
          obtain ⟨r176, rfl, Nq176, K176, q176_0⟩ := hQ176
          have N176 := Fk.app N173 Nq176 KK174.1 all0
          rw [K176] at e176
          show Wp p e below _ _ T176 (mkF m 79 #[.val (.int p0), .val (.int p1), .val (.int p2), .val (.int p3), .val (.int p4), .val (.int p5), .val (.int (3 : Int32)), .val (.int zz2), .val (.int zz3), .val (.int zz4), .val (.ref x171), .val (.int (3 : Int32)), .unset] [(.int r176)])
          obtain rfl : r176 = 0 := by rcases q176_0 with ⟨_, hh⟩ | ⟨hh, _⟩; exact absurd hh (own_lat hg133).1; exact hh
          refine Wk.ifYes X176 hx (hb hby at_79) (by decide) (q := 96) rfl ((if0 _ _).trans (teq (by decide : (0 : Int32) = (0 : Int32))).1) ?_
          refine Wk.iload X176 hx (hb hby at_96) rfl rfl ?_
          refine Wk.iload X176 hx (hb hby at_98) rfl rfl ?_
          by_cases hc178 : (3 : Int32) < p4
          · skip
            refine Wk.icmpYes X176 hx (hb hby at_100) (by decide) (q := 114) rfl (tlt hc178).1 ?_
            refine Wk.iconst X176 hx (v := (0 : Int32)) (hb hby at_114) rfl rfl ?_
            refine Wk.istore X176 hx (Ls' := #[.val (.int p0), .val (.int p1), .val (.int p2), .val (.int p3), .val (.int p4), .val (.int p5), .val (.int (3 : Int32)), .val (.int zz2), .val (.int zz3), .val (.int zz4), .val (.ref x171), .val (.int (3 : Int32)), .val (.int (0 : Int32))]) (hb hby at_115) rfl rfl ?_
            refine Wk.aload X176 hx (hb hby at_117) rfl rfl rfl ?_
            refine Wk.iload X176 hx (hb hby at_119) rfl rfl ?_
            refine Wk.iload X176 hx (hb hby at_121) rfl rfl ?_
            refine Wk.callS X176 hx hZ hown (w 30 _ rfl) (w 31 _ rfl) (w 32 _ rfl) (w 33 _ rfl) (by decide) (as' := [(.ref x171), (.int p4), (.int p5)]) (backOf (W := 0) (rm_wi30 l Z a0 hw [] x171 t171 kb171 G1 lb171 p4 p5 h171 O172 SG1 nG1 q171_0 q171_1 q171_2 q171_3) hZ (w 33 _ rfl) (w 32 _ rfl) (by decide) (by decide)) e176 (by rw [hml]; rfl) (rest := []) (lenOf pd27 rfl) rfl (Nat.le_of_eq rfl) (hb hby at_123) rfl (by decide) (by decide) ?_
            intro T179 h179 v179 L179 X179 e179 hQ179
            obtain ⟨r179, rfl, Nq179, K179, q179_0⟩ := hQ179
            have N179 := Fk.app N176 Nq179 KK174.1 all0
            rw [K179] at e179
            show Wp p e below _ _ T179 (mkF m 126 #[.val (.int p0), .val (.int p1), .val (.int p2), .val (.int p3), .val (.int p4), .val (.int p5), .val (.int (3 : Int32)), .val (.int zz2), .val (.int zz3), .val (.int zz4), .val (.ref x171), .val (.int (3 : Int32)), .val (.int (0 : Int32))] [(.int r179)])
            refine Wk.iload X179 hx (hb hby at_126) rfl rfl ?_
            refine Wk.icmpNo X179 hx (hb hby at_128) rfl (teq (by have hw_ := q179_0; simp [Wth, hc178] at hw_; exact hw_)).2 ?_
            refine Wk.iconst X179 hx (v := (1 : Int32)) (hb hby at_131) rfl rfl ?_
            refine Wk.goto X179 hx (hb hby at_132) (by decide) (q := 136) rfl ?_
            exact Wk.retZW X179 hx hS (Nat.le_trans (Nat.le_refl _) KK174.1) hlk hr (by simp) (hb hby at_136) (by decide) (by decide) (Qc := Q_rm_law Z p0 p1 p2 p3 p4 p5 G1 h0) e179 (fun vm' hw' => ⟨rfl, N179, KK174⟩)
          · skip
            refine Wk.icmpNo X176 hx (hb hby at_100) rfl (flt hc178).1 ?_
            refine Wk.iload X176 hx (hb hby at_103) rfl rfl ?_
            refine Wk.iload X176 hx (hb hby at_105) rfl rfl ?_
            by_cases hc180 : p5 < (3 : Int32)
            · skip
              refine Wk.icmpYes X176 hx (hb hby at_107) (by decide) (q := 114) rfl (tlt hc180).2.2.1 ?_
              refine Wk.iconst X176 hx (v := (0 : Int32)) (hb hby at_114) rfl rfl ?_
              refine Wk.istore X176 hx (Ls' := #[.val (.int p0), .val (.int p1), .val (.int p2), .val (.int p3), .val (.int p4), .val (.int p5), .val (.int (3 : Int32)), .val (.int zz2), .val (.int zz3), .val (.int zz4), .val (.ref x171), .val (.int (3 : Int32)), .val (.int (0 : Int32))]) (hb hby at_115) rfl rfl ?_
              refine Wk.aload X176 hx (hb hby at_117) rfl rfl rfl ?_
              refine Wk.iload X176 hx (hb hby at_119) rfl rfl ?_
              refine Wk.iload X176 hx (hb hby at_121) rfl rfl ?_
              refine Wk.callS X176 hx hZ hown (w 30 _ rfl) (w 31 _ rfl) (w 32 _ rfl) (w 33 _ rfl) (by decide) (as' := [(.ref x171), (.int p4), (.int p5)]) (backOf (W := 0) (rm_wi30 l Z a0 hw [] x171 t171 kb171 G1 lb171 p4 p5 h171 O172 SG1 nG1 q171_0 q171_1 q171_2 q171_3) hZ (w 33 _ rfl) (w 32 _ rfl) (by decide) (by decide)) e176 (by rw [hml]; rfl) (rest := []) (lenOf pd27 rfl) rfl (Nat.le_of_eq rfl) (hb hby at_123) rfl (by decide) (by decide) ?_
              intro T181 h181 v181 L181 X181 e181 hQ181
              obtain ⟨r181, rfl, Nq181, K181, q181_0⟩ := hQ181
              have N181 := Fk.app N176 Nq181 KK174.1 all0
              rw [K181] at e181
              show Wp p e below _ _ T181 (mkF m 126 #[.val (.int p0), .val (.int p1), .val (.int p2), .val (.int p3), .val (.int p4), .val (.int p5), .val (.int (3 : Int32)), .val (.int zz2), .val (.int zz3), .val (.int zz4), .val (.ref x171), .val (.int (3 : Int32)), .val (.int (0 : Int32))] [(.int r181)])
              refine Wk.iload X181 hx (hb hby at_126) rfl rfl ?_
              refine Wk.icmpNo X181 hx (hb hby at_128) rfl (teq (by have hw_ := q181_0; simp [Wth, hc178, hc180] at hw_; exact hw_)).2 ?_
              refine Wk.iconst X181 hx (v := (1 : Int32)) (hb hby at_131) rfl rfl ?_
              refine Wk.goto X181 hx (hb hby at_132) (by decide) (q := 136) rfl ?_
              exact Wk.retZW X181 hx hS (Nat.le_trans (Nat.le_refl _) KK174.1) hlk hr (by simp) (hb hby at_136) (by decide) (by decide) (Qc := Q_rm_law Z p0 p1 p2 p3 p4 p5 G1 h0) e181 (fun vm' hw' => ⟨rfl, N181, KK174⟩)
            · skip
              refine Wk.icmpNo X176 hx (hb hby at_107) rfl (flt hc180).2.2.1 ?_
              refine Wk.iconst X176 hx (v := (1 : Int32)) (hb hby at_110) rfl rfl ?_
              refine Wk.goto X176 hx (hb hby at_111) (by decide) (q := 115) rfl ?_
              refine Wk.istore X176 hx (Ls' := #[.val (.int p0), .val (.int p1), .val (.int p2), .val (.int p3), .val (.int p4), .val (.int p5), .val (.int (3 : Int32)), .val (.int zz2), .val (.int zz3), .val (.int zz4), .val (.ref x171), .val (.int (3 : Int32)), .val (.int (1 : Int32))]) (hb hby at_115) rfl rfl ?_
              refine Wk.aload X176 hx (hb hby at_117) rfl rfl rfl ?_
              refine Wk.iload X176 hx (hb hby at_119) rfl rfl ?_
              refine Wk.iload X176 hx (hb hby at_121) rfl rfl ?_
              refine Wk.callS X176 hx hZ hown (w 30 _ rfl) (w 31 _ rfl) (w 32 _ rfl) (w 33 _ rfl) (by decide) (as' := [(.ref x171), (.int p4), (.int p5)]) (backOf (W := 0) (rm_wi30 l Z a0 hw [] x171 t171 kb171 G1 lb171 p4 p5 h171 O172 SG1 nG1 q171_0 q171_1 q171_2 q171_3) hZ (w 33 _ rfl) (w 32 _ rfl) (by decide) (by decide)) e176 (by rw [hml]; rfl) (rest := []) (lenOf pd27 rfl) rfl (Nat.le_of_eq rfl) (hb hby at_123) rfl (by decide) (by decide) ?_
              intro T182 h182 v182 L182 X182 e182 hQ182
              obtain ⟨r182, rfl, Nq182, K182, q182_0⟩ := hQ182
              have N182 := Fk.app N176 Nq182 KK174.1 all0
              rw [K182] at e182
              show Wp p e below _ _ T182 (mkF m 126 #[.val (.int p0), .val (.int p1), .val (.int p2), .val (.int p3), .val (.int p4), .val (.int p5), .val (.int (3 : Int32)), .val (.int zz2), .val (.int zz3), .val (.int zz4), .val (.ref x171), .val (.int (3 : Int32)), .val (.int (1 : Int32))] [(.int r182)])
              refine Wk.iload X182 hx (hb hby at_126) rfl rfl ?_
              refine Wk.icmpNo X182 hx (hb hby at_128) rfl (teq (by have hw_ := q182_0; simp [Wth, hc178, hc180] at hw_; exact hw_)).2 ?_
              refine Wk.iconst X182 hx (v := (1 : Int32)) (hb hby at_131) rfl rfl ?_
              refine Wk.goto X182 hx (hb hby at_132) (by decide) (q := 136) rfl ?_
              exact Wk.retZW X182 hx hS (Nat.le_trans (Nat.le_refl _) KK174.1) hlk hr (by simp) (hb hby at_136) (by decide) (by decide) (Qc := Q_rm_law Z p0 p1 p2 p3 p4 p5 G1 h0) e182 (fun vm' hw' => ⟨rfl, N182, KK174⟩)
set_option maxRecDepth 65536 in
set_option maxHeartbeats 40000000 in
theorem comes_1 {Post : Tables → Env → Array Value → State → Outcome → State → Prop} (hpost : ∀ tb e args s v u, (limb_1_1.after args s (.returned v) u = true ∧ limb_1_2.after args s (.returned v) u = true ∧ True) → ReturnedEndW s (.returned v) u (Jvm.fieldLocs frame_1_writes args s ++ Jvm.arrayLocs frame_1_arrays args s ++ Jvm.staticLocs frame_1_statics s) 24 1152 → Post tb e args s (.returned v) u) :
    ArmFor flags0 classFile x code maxLocals ret World_1 tables_1 room_1 Calls_1 rest_1 Pre_1 Post := by
  intro l hfl _ _ p e ha hc hk s m args below hf hA hF happ hP
  obtain ⟨hcalls, hrest, hpre⟩ := hP
  obtain ⟨-, -, -, hnamed, -, -, -, hat⟩ := (Spec.applies_iff hf).mp happ
  obtain ⟨hg, hn⟩ := and_e (Cond.before_iff.mp (show (Jvm.Cond.and given_1 narrow_1).before args s = true from hpre))
  obtain ⟨hcount, hk0⟩ := and_e hg
  obtain ⟨ha0, hk1⟩ := and_e hk0
  obtain ⟨ha1, hk2⟩ := and_e hk1
  obtain ⟨ha2, hk3⟩ := and_e hk2
  obtain ⟨ha3, hk4⟩ := and_e hk3
  obtain ⟨ha4, hk5⟩ := and_e hk4
  have ha5 := hk5
  obtain ⟨w0, w1, w2, w3, w4, w5, rfl⟩ : ∃ w0 w1 w2 w3 w4 w5 : Value, args = #[w0, w1, w2, w3, w4, w5] := by
    have hs : args.size = 6 := by simpa [Cond.value, given_1] using hcount
    obtain ⟨L⟩ := args
    match L, hs with
    | [w0, w1, w2, w3, w4, w5], _ => exact ⟨w0, w1, w2, w3, w4, w5, rfl⟩
  have hw := fun d (hd : d ∈ tables_1) => atoms_spec (ws := Jvm.Cond.code x code maxLocals ret :: tables_1) hat d (List.mem_cons_of_mem _ hd)
  have hfit : Fit s := fun {y c} hc i hi => by
    obtain ⟨ha, rfl⟩ := Array.getElem?_eq_some_iff.mp hc
    have q := List.all_eq_true.mp ((Array.all_eq_true_iff_forall_mem.mp hF) _ (Array.getElem_mem ha)) i (List.mem_range.mpr hi)
    simpa [Array.getElem?_eq_getElem hi] using q
  obtain ⟨hsets, hown0⟩ := atoms_of _ (rest_1_c_eq ▸ (show rest_1_c.before _ s = true from hrest))
  obtain ⟨i0, ei0⟩ := is_v ha0
  obtain rfl : w0 = (.int i0) := Option.some.inj ei0
  obtain ⟨i1, ei1⟩ := is_v ha1
  obtain rfl : w1 = (.int i1) := Option.some.inj ei1
  obtain ⟨i2, ei2⟩ := is_v ha2
  obtain rfl : w2 = (.int i2) := Option.some.inj ei2
  obtain ⟨i3, ei3⟩ := is_v ha3
  obtain rfl : w3 = (.int i3) := Option.some.inj ei3
  obtain ⟨i4, ei4⟩ := is_v ha4
  obtain rfl : w4 = (.int i4) := Option.some.inj ei4
  obtain ⟨i5, ei5⟩ := is_v ha5
  obtain rfl : w5 = (.int i5) := Option.some.inj ei5
  have n3 := not_v (Cond.before_iff.mp (hsets _ (List.mem_of_getElem? (i := 2) rfl)))
  obtain ⟨G1, eG1⟩ := is_v (Cond.before_iff.mp (hsets _ (List.mem_of_getElem? (i := 1) rfl)))
  have SG1 : Sta s s.heap "java/lang/String" "COMPACT_STRINGS" "Z" (.int G1) := Sta.start eG1 (Or.inl (hsets _ (List.mem_of_getElem? (i := 0) rfl)))
  have nG1 : ¬ (G1 = (0 : Int32)) := gotF (Cond.eq_ints eG1 (Term.int_eval (0))) n3
  have sH : Sta s s.heap "java/lang/StringUTF16" "HI_BYTE_SHIFT" "I" (.int (0 : Int32)) := Sta.start (fieldI (Cond.before_iff.mp (hsets _ (List.mem_of_getElem? (i := 15) rfl)))) (Or.inl (hsets _ (List.mem_of_getElem? (i := 14) rfl)))
  have sL : Sta s s.heap "java/lang/StringUTF16" "LO_BYTE_SHIFT" "I" (.int (8 : Int32)) := Sta.start (fieldI (Cond.before_iff.mp (hsets _ (List.mem_of_getElem? (i := 18) rfl)))) (Or.inl (hsets _ (List.mem_of_getElem? (i := 17) rfl)))
  have sA : Sta s s.heap "java/lang/StringUTF16" "$assertionsDisabled" "Z" (.int (1 : Int32)) := Sta.start (fieldI (Cond.before_iff.mp (hsets _ (List.mem_of_getElem? (i := 12) rfl)))) (Or.inl (hsets _ (List.mem_of_getElem? (i := 11) rfl)))
  obtain ⟨n, o, h1, h2, h3, _, L, rfl, ⟨rfl, N', -⟩, hq⟩ := rm_law l s _ hw tables_1 i0 i1 i2 i3 i4 i5 G1 s.heap (Old.start s) (hsets _ (List.mem_of_getElem? (i := 2) rfl)) (fun d hd => hcalls.1 d hd) sH sL sA SG1 nG1 p e ha hc hk s m _ below hf ((Spec.applies_iff_loose hf).mp happ).1 ⟨rfl, State.Warmed39.refl s, rfl, IB.start⟩ trivial
  have N := Fk.fr N'
  refine ⟨n, _, h1, h2, h3, hpost _ _ _ _ _ _ ⟨Cond.after_iff.mpr rfl, Cond.after_iff.mpr (eq_i res_at (Term.int_eval (1)) rfl), trivial⟩ ⟨hq.1, hq.2.1, hq.2.2.1, (hq.2.2.2.sift fun y hy => Or.inr (N y hy)).mono (by decide) (by decide)⟩⟩
theorem main_1_1 : Claimed_1_1 := comes_1 fun _ _ _ _ _ _ h hF => ⟨h.1, hF⟩
theorem main_1_2 : Claimed_1_2 := comes_1 fun _ _ _ _ _ _ h hF => ⟨h.2.1, hF⟩
end Jvm.Pilot.@@N@@
namespace Jvm.Pilot.@@N@@
open Jvm Jvm.ClassFile Sem Op Lib Jvm.Free Jvm.Stand Jvm.Pilot.@@N@@.Jvm.D
/-! MADE BY PROGRAM (witnessworld.py) out of the Statement's table words and the real class files: 22 classes; the members and pool entries that the words name. The judged class is class 1, her method 5. -/
namespace start1
open Jvm.ClassFile
def u (s : String) : CpInfo := .utf8 (stringToUtf16 s)
/-- a pool by its gaps: so many unusable entries, then the entry; so many at the end -/
def gap : Nat → List CpInfo → List CpInfo
  | 0, r => r
  | n + 1, r => .unusable :: gap n r
def poolList (es : List (Nat × CpInfo)) (last : Nat) : List CpInfo := es.foldr (fun e r => gap e.1 (e.2 :: r)) (gap last [])
def pool (es : List (Nat × CpInfo)) (last : Nat) : Array CpInfo := ⟨poolList es last⟩
def fileOf (pool : Array CpInfo) (this : Nat) (attrs : Array Attribute := #[]) (ms : Array MethodInfo := #[]) (fl : Nat := 33) (sup : Nat := 0) (ifs : Array Nat := #[]) (fds : Array FieldInfo := #[]) : ClassFile where
  minorVersion := 0
  majorVersion := 65
  constantPool := pool
  accessFlags := fl
  thisClass := this
  superClass := sup
  interfaces := ifs
  fields := fds
  methods := ms
  attributes := attrs
def plain (name : String) (sup : Option ClassId) : Class where
  name := name
  kind := .ordinary
  loader := none
  accessFlags := 33
  super := sup
  interfaces := #[]
  cf := none
  fields := #[]
  methods := #[]
  instanceTypes := #[]
  staticTypes := #[]
  resolved := #[]
  callSites := []
  init := .initialized
  statics := none
  mirror := none

def pool0 : Array CpInfo := pool [(5, u "<init>"), (0, u "()V"), (1, .class_ 10), (1, u "java/lang/Object")] 113

def k0c0 : Code := { maxStack := 0, maxLocals := 1, code := object_method_1_code, exceptionTable := #[], attributes := #[] }
def k0m0 : Method := { name := "<init>", desc := "()V", sig := { parameters := [], returnType := none }, accessFlags := 1, code := some k0c0 }
/-- java/lang/Object -/
def k0 : Class := { plain "java/lang/Object" none with
  accessFlags := 33
  interfaces := #[]
  cf := some (fileOf pool0 8 #[] #[{ accessFlags := 1, nameIndex := 5, descriptorIndex := 6, attributes := #[] }] 33 0 #[] #[])
  fields := #[]
  methods := #[k0m0]
  instanceTypes := #[]
  staticTypes := #[]
  resolved := Array.replicate 124 none
  statics := none }

def pool1 : Array CpInfo := pool [(2, .class_ 4), (1, u "java/lang/Object"), (0, u "<init>"), (0, u "()V"), (0, .integer 65535), (0, .integer 55296), (0, .integer 56320), (0, .integer 56319), (0, .integer 57343), (0, .class_ 13), (0, u "java/lang/String"), (0, .methodref 12 15), (0, .nameAndType 5 16), (0, u "([C)V"), (0, .methodref 18 19), (0, .class_ 20), (0, .nameAndType 21 22), (0, u "com/example/visad/visad/identity/CharactersWithinPinLaw"), (0, u "draw"), (0, u "(I)C"), (0, .methodref 18 24), (0, .nameAndType 25 26), (0, u "make"), (0, u "(ICCC)Ljava/lang/String;"), (0, .methodref 18 28), (0, .nameAndType 29 30), (0, u "isHigh"), (0, u "(C)Z"), (0, .methodref 18 32), (0, .nameAndType 33 30), (0, u "isLow"), (0, .methodref 35 36), (0, .class_ 37), (0, .nameAndType 38 39), (0, u "com/example/visad/visad/identity/Characters"), (0, u "within"), (0, u "(Ljava/lang/String;II)Z"), (3, u "law"), (0, u "(IIIIII)Z")] 2

def k1m0 : Method := { name := "<init>", desc := "()V", sig := { parameters := [], returnType := none }, accessFlags := 2, code := none }
def k1c1 : Code := { maxStack := 3, maxLocals := 2, code := method_2_code, exceptionTable := #[], attributes := #[] }
def k1m1 : Method := { name := "draw", desc := "(I)C", sig := { parameters := [.int], returnType := some .char }, accessFlags := 10, code := some k1c1 }
def k1c2 : Code := { maxStack := 2, maxLocals := 1, code := method_3_code, exceptionTable := #[], attributes := #[] }
def k1m2 : Method := { name := "isHigh", desc := "(C)Z", sig := { parameters := [.char], returnType := some .boolean }, accessFlags := 10, code := some k1c2 }
def k1c3 : Code := { maxStack := 2, maxLocals := 1, code := method_4_code, exceptionTable := #[], attributes := #[] }
def k1m3 : Method := { name := "isLow", desc := "(C)Z", sig := { parameters := [.char], returnType := some .boolean }, accessFlags := 10, code := some k1c3 }
def k1c4 : Code := { maxStack := 6, maxLocals := 4, code := method_5_code, exceptionTable := #[], attributes := #[] }
def k1m4 : Method := { name := "make", desc := "(ICCC)Ljava/lang/String;", sig := { parameters := [.int, .char, .char, .char], returnType := some (.object "java/lang/String") }, accessFlags := 10, code := some k1c4 }
def k1c5 : Code := { maxStack := 4, maxLocals := 13, code := code, exceptionTable := #[], attributes := #[] }
def k1m5 : Method := { name := "law", desc := "(IIIIII)Z", sig := { parameters := [.int, .int, .int, .int, .int, .int], returnType := some .boolean }, accessFlags := 9, code := some k1c5 }
/-- com/example/visad/visad/identity/CharactersWithinPinLaw -/
def k1 : Class := { plain "com/example/visad/visad/identity/CharactersWithinPinLaw" (some 0) with
  accessFlags := 49
  interfaces := #[]
  cf := some (fileOf pool1 18 #[] #[{ accessFlags := 2, nameIndex := 5, descriptorIndex := 6, attributes := #[] }, { accessFlags := 10, nameIndex := 21, descriptorIndex := 22, attributes := #[] }, { accessFlags := 10, nameIndex := 29, descriptorIndex := 30, attributes := #[] }, { accessFlags := 10, nameIndex := 33, descriptorIndex := 30, attributes := #[] }, { accessFlags := 10, nameIndex := 25, descriptorIndex := 26, attributes := #[] }, { accessFlags := 9, nameIndex := 43, descriptorIndex := 44, attributes := #[] }] 49 2 #[] #[])
  fields := #[]
  methods := #[k1m0, k1m1, k1m2, k1m3, k1m4, k1m5]
  instanceTypes := #[]
  staticTypes := #[]
  resolved := Array.replicate 47 none
  statics := none }

def pool2 : Array CpInfo := pool [(1, .class_ 2), (0, u "java/io/Serializable"), (0, .class_ 4), (0, u "java/lang/Object")] 2

/-- java/io/Serializable -/
def k2 : Class := { plain "java/io/Serializable" (some 0) with
  accessFlags := 1537
  interfaces := #[]
  cf := some (fileOf pool2 1 #[] #[] 1537 3 #[] #[])
  fields := #[]
  methods := #[]
  instanceTypes := #[]
  staticTypes := #[]
  resolved := Array.replicate 7 none
  statics := none }

def pool3 : Array CpInfo := pool [(1, .class_ 2), (0, u "java/lang/Comparable"), (0, .class_ 4), (0, u "java/lang/Object")] 7

/-- java/lang/Comparable -/
def k3 : Class := { plain "java/lang/Comparable" (some 0) with
  accessFlags := 1537
  interfaces := #[]
  cf := some (fileOf pool3 1 #[] #[] 1537 3 #[] #[])
  fields := #[]
  methods := #[]
  instanceTypes := #[]
  staticTypes := #[]
  resolved := Array.replicate 12 none
  statics := none }

def pool4 : Array CpInfo := pool [(2, .class_ 4), (1, u "java/lang/CharSequence"), (42, .class_ 48), (0, u "java/lang/CharSequence$1CodePointIterator"), (10, .class_ 60), (0, u "java/lang/CharSequence$1CharIterator"), (5, .class_ 67), (0, u "java/lang/Object")] 63

/-- java/lang/CharSequence -/
def k4 : Class := { plain "java/lang/CharSequence" (some 0) with
  accessFlags := 1537
  interfaces := #[]
  cf := some (fileOf pool4 2 #[.nestMembers #[47, 59]] #[] 1537 66 #[] #[])
  fields := #[]
  methods := #[]
  instanceTypes := #[]
  staticTypes := #[]
  resolved := Array.replicate 131 none
  statics := none }

def pool5 : Array CpInfo := pool [(1, .class_ 2), (0, u "java/lang/constant/Constable"), (0, .class_ 4), (0, u "java/lang/Object")] 6

/-- java/lang/constant/Constable -/
def k5 : Class := { plain "java/lang/constant/Constable" (some 0) with
  accessFlags := 1537
  interfaces := #[]
  cf := some (fileOf pool5 1 #[] #[] 1537 3 #[] #[])
  fields := #[]
  methods := #[]
  instanceTypes := #[]
  staticTypes := #[]
  resolved := Array.replicate 11 none
  statics := none }

def pool6 : Array CpInfo := pool [(1, .class_ 2), (0, u "java/lang/constant/ConstantDesc"), (0, .class_ 4), (0, u "java/lang/Object")] 32

/-- java/lang/constant/ConstantDesc -/
def k6 : Class := { plain "java/lang/constant/ConstantDesc" (some 0) with
  accessFlags := 1537
  interfaces := #[]
  cf := some (fileOf pool6 1 #[] #[] 1537 3 #[] #[])
  fields := #[]
  methods := #[]
  instanceTypes := #[]
  staticTypes := #[]
  resolved := Array.replicate 37 none
  statics := none }

def pool7 : Array CpInfo := pool [(1, .methodref 2 3), (0, .class_ 4), (0, .nameAndType 5 6), (0, u "java/lang/Object"), (0, u "<init>"), (0, u "()V"), (0, .string 8), (0, u ""), (0, .fieldref 10 11), (0, .class_ 12), (0, .nameAndType 13 14), (0, u "java/lang/String"), (0, u "value"), (0, u "[B"), (0, .fieldref 10 16), (0, .nameAndType 17 18), (0, u "coder"), (0, u "B"), (2, u "hash"), (0, u "I"), (2, u "hashIsZero"), (0, u "Z"), (0, .methodref 10 28), (0, .nameAndType 5 29), (0, u "([CIILjava/lang/Void;)V"), (7, u "(III)I"), (0, .fieldref 10 39), (0, .nameAndType 40 26), (0, u "COMPACT_STRINGS"), (1, .class_ 44), (1, u "java/lang/StringUTF16"), (0, u "compress"), (1, .methodref 42 48), (0, .nameAndType 49 50), (0, u "coderFromArrayLen"), (0, u "([BI)B"), (28, .class_ 81), (1, u "java/util/Objects"), (15, u "([BII)I"), (44, u "()Z"), (34, .methodref 42 178), (0, .nameAndType 45 179), (0, u "([CII)[B"), (154, u "()I"), (0, .methodref 10 336), (0, .nameAndType 17 337), (0, u "()B"), (154, .methodref 10 493), (0, .nameAndType 494 142), (0, u "isLatin1"), (10, .methodref 10 506), (0, .nameAndType 507 334), (0, u "length"), (3, .methodref 79 512), (0, .nameAndType 513 37), (0, u "checkFromToIndex"), (0, .methodref 42 515), (0, .nameAndType 516 97), (0, u "codePointCount"), (58, .class_ 576), (0, u "java/lang/CharSequence"), (22, u "CASE_INSENSITIVE_ORDER"), (0, u "Ljava/util/Comparator;"), (35, u "(II)I"), (373, u "([C)V"), (90, u "serialPersistentFields"), (0, u "[Ljava/io/ObjectStreamField;"), (0, .class_ 1104), (0, u "java/lang/String$CaseInsensitiveComparator"), (1, .class_ 1107), (0, u "java/io/Serializable"), (0, .class_ 1109), (0, u "java/lang/Comparable"), (0, .class_ 1111), (0, u "java/lang/constant/Constable"), (0, .class_ 1113), (0, u "java/lang/constant/ConstantDesc"), (2, u "serialVersionUID"), (0, u "J"), (3, u "REPL"), (0, u "C"), (2, u "LATIN1"), (1, u "UTF16")] 323

def k7m0 : Method := { name := "<init>", desc := "()V", sig := { parameters := [], returnType := none }, accessFlags := 1, code := none }
def k7c1 : Code := { maxStack := 5, maxLocals := 2, code := jdk_42_method_3_code, exceptionTable := #[], attributes := #[] }
def k7m1 : Method := { name := "<init>", desc := "([C)V", sig := { parameters := [(.array .char)], returnType := none }, accessFlags := 1, code := some k7c1 }
def k7c2 : Code := { maxStack := 2, maxLocals := 1, code := jdk_42_method_54_code, exceptionTable := #[], attributes := #[] }
def k7m2 : Method := { name := "length", desc := "()I", sig := { parameters := [], returnType := some .int }, accessFlags := 1, code := some k7c2 }
def k7c3 : Code := { maxStack := 3, maxLocals := 3, code := jdk_42_method_59_code, exceptionTable := #[], attributes := #[] }
def k7m3 : Method := { name := "codePointCount", desc := "(II)I", sig := { parameters := [.int, .int], returnType := some .int }, accessFlags := 1, code := some k7c3 }
def k7c4 : Code := { maxStack := 4, maxLocals := 6, code := jdk_42_method_149_code, exceptionTable := #[], attributes := #[] }
def k7m4 : Method := { name := "<init>", desc := "([CIILjava/lang/Void;)V", sig := { parameters := [(.array .char), .int, .int, (.object "java/lang/Void")], returnType := none }, accessFlags := 2, code := some k7c4 }
def k7c5 : Code := { maxStack := 1, maxLocals := 1, code := jdk_42_method_152_code, exceptionTable := #[], attributes := #[] }
def k7m5 : Method := { name := "coder", desc := "()B", sig := { parameters := [], returnType := some .byte }, accessFlags := 0, code := some k7c5 }
def k7c6 : Code := { maxStack := 1, maxLocals := 1, code := jdk_42_method_154_code, exceptionTable := #[], attributes := #[] }
def k7m6 : Method := { name := "isLatin1", desc := "()Z", sig := { parameters := [], returnType := some .boolean }, accessFlags := 0, code := some k7c6 }
/-- java/lang/String -/
def k7 : Class := { plain "java/lang/String" (some 0) with
  accessFlags := 49
  interfaces := #[2, 3, 4, 5, 6]
  cf := some (fileOf pool7 10 #[.nestMembers #[1103]] #[{ accessFlags := 1, nameIndex := 5, descriptorIndex := 6, attributes := #[] }, { accessFlags := 1, nameIndex := 5, descriptorIndex := 1010, attributes := #[] }, { accessFlags := 1, nameIndex := 507, descriptorIndex := 334, attributes := #[] }, { accessFlags := 1, nameIndex := 516, descriptorIndex := 636, attributes := #[] }, { accessFlags := 2, nameIndex := 5, descriptorIndex := 29, attributes := #[] }, { accessFlags := 0, nameIndex := 17, descriptorIndex := 337, attributes := #[] }, { accessFlags := 0, nameIndex := 494, descriptorIndex := 142, attributes := #[] }] 49 2 #[1106, 1108, 575, 1110, 1112] #[{ accessFlags := 18, nameIndex := 13, descriptorIndex := 14, attributes := #[] }, { accessFlags := 18, nameIndex := 17, descriptorIndex := 18, attributes := #[] }, { accessFlags := 2, nameIndex := 21, descriptorIndex := 22, attributes := #[] }, { accessFlags := 2, nameIndex := 25, descriptorIndex := 26, attributes := #[] }, { accessFlags := 26, nameIndex := 1116, descriptorIndex := 1117, attributes := #[] }, { accessFlags := 24, nameIndex := 40, descriptorIndex := 26, attributes := #[] }, { accessFlags := 26, nameIndex := 1101, descriptorIndex := 1102, attributes := #[] }, { accessFlags := 26, nameIndex := 1121, descriptorIndex := 1122, attributes := #[] }, { accessFlags := 25, nameIndex := 599, descriptorIndex := 600, attributes := #[] }, { accessFlags := 24, nameIndex := 1125, descriptorIndex := 18, attributes := #[] }, { accessFlags := 24, nameIndex := 1127, descriptorIndex := 18, attributes := #[] }])
  fields := #[{ name := "value", type := (.array .byte), accessFlags := 18, slot := 0, constantValue := 0 }, { name := "coder", type := .byte, accessFlags := 18, slot := 1, constantValue := 0 }, { name := "hash", type := .int, accessFlags := 2, slot := 2, constantValue := 0 }, { name := "hashIsZero", type := .boolean, accessFlags := 2, slot := 3, constantValue := 0 }, { name := "serialVersionUID", type := .long, accessFlags := 26, slot := 0, constantValue := 0 }, { name := "COMPACT_STRINGS", type := .boolean, accessFlags := 24, slot := 1, constantValue := 0 }, { name := "serialPersistentFields", type := (.array (.object "java/io/ObjectStreamField")), accessFlags := 26, slot := 2, constantValue := 0 }, { name := "REPL", type := .char, accessFlags := 26, slot := 3, constantValue := 0 }, { name := "CASE_INSENSITIVE_ORDER", type := (.object "java/util/Comparator"), accessFlags := 25, slot := 4, constantValue := 0 }, { name := "LATIN1", type := .byte, accessFlags := 24, slot := 5, constantValue := 0 }, { name := "UTF16", type := .byte, accessFlags := 24, slot := 6, constantValue := 0 }]
  methods := #[k7m0, k7m1, k7m2, k7m3, k7m4, k7m5, k7m6]
  instanceTypes := #[(.array .byte), .byte, .int, .boolean]
  staticTypes := #[.long, .boolean, (.array (.object "java/io/ObjectStreamField")), .char, (.object "java/util/Comparator"), .byte, .byte]
  resolved := Array.replicate 1451 none
  statics := some 0 }

def pool8 : Array CpInfo := pool [(2, .class_ 4), (1, u "java/lang/Object"), (0, u "<init>"), (0, u "()V"), (0, .methodref 8 9), (0, .class_ 10), (0, .nameAndType 11 12), (0, u "java/lang/String"), (0, u "length"), (0, u "()I"), (0, .methodref 8 14), (0, .nameAndType 15 16), (0, u "codePointCount"), (0, u "(II)I"), (0, .class_ 18), (0, u "com/example/visad/visad/identity/Characters"), (2, u "within"), (0, u "(Ljava/lang/String;II)Z")] 3

def k8m0 : Method := { name := "<init>", desc := "()V", sig := { parameters := [], returnType := none }, accessFlags := 2, code := none }
def k8c1 : Code := { maxStack := 3, maxLocals := 4, code := prog_19_method_2_code, exceptionTable := #[], attributes := #[] }
def k8m1 : Method := { name := "within", desc := "(Ljava/lang/String;II)Z", sig := { parameters := [(.object "java/lang/String"), .int, .int], returnType := some .boolean }, accessFlags := 8, code := some k8c1 }
/-- com/example/visad/visad/identity/Characters -/
def k8 : Class := { plain "com/example/visad/visad/identity/Characters" (some 0) with
  accessFlags := 32
  interfaces := #[]
  cf := some (fileOf pool8 17 #[] #[{ accessFlags := 2, nameIndex := 5, descriptorIndex := 6, attributes := #[] }, { accessFlags := 8, nameIndex := 21, descriptorIndex := 22, attributes := #[] }] 32 2 #[] #[])
  fields := #[]
  methods := #[k8m0, k8m1]
  instanceTypes := #[]
  staticTypes := #[]
  resolved := Array.replicate 26 none
  statics := none }

def pool9 : Array CpInfo := pool [(2, .class_ 4), (1, u "java/lang/Object"), (0, u "<init>"), (0, u "()V"), (35, .class_ 44), (1, u "java/util/Objects"), (61, .class_ 108), (1, u "jdk/internal/util/Preconditions"), (2, .methodref 106 112), (0, .nameAndType 113 114), (0, u "checkFromToIndex"), (0, u "(IIILjava/util/function/BiFunction;)I"), (60, u "(III)I")] 8

def k9m0 : Method := { name := "<init>", desc := "()V", sig := { parameters := [], returnType := none }, accessFlags := 2, code := none }
def k9c1 : Code := { maxStack := 4, maxLocals := 3, code := jdk_31_method_18_code, exceptionTable := #[], attributes := #[] }
def k9m1 : Method := { name := "checkFromToIndex", desc := "(III)I", sig := { parameters := [.int, .int, .int], returnType := some .int }, accessFlags := 9, code := some k9c1 }
/-- java/util/Objects -/
def k9 : Class := { plain "java/util/Objects" (some 0) with
  accessFlags := 49
  interfaces := #[]
  cf := some (fileOf pool9 42 #[] #[{ accessFlags := 2, nameIndex := 5, descriptorIndex := 6, attributes := #[] }, { accessFlags := 9, nameIndex := 113, descriptorIndex := 175, attributes := #[] }] 49 2 #[] #[])
  fields := #[]
  methods := #[k9m0, k9m1]
  instanceTypes := #[]
  staticTypes := #[]
  resolved := Array.replicate 184 none
  statics := none }

def pool10 : Array CpInfo := pool [(2, .class_ 4), (1, u "java/lang/Object"), (0, u "<init>"), (0, u "()V"), (17, .class_ 26), (1, u "jdk/internal/util/Preconditions"), (20, u "checkFromToIndex"), (7, .class_ 56), (0, u "jdk/internal/util/Preconditions$4"), (57, .class_ 115), (0, u "jdk/internal/util/Preconditions$1"), (7, u "SIOOBE_FORMATTER"), (0, u "Ljava/util/function/BiFunction;"), (0, .class_ 126), (0, u "jdk/internal/util/Preconditions$2"), (3, u "AIOOBE_FORMATTER"), (0, .class_ 132), (0, u "jdk/internal/util/Preconditions$3"), (3, u "IOOBE_FORMATTER"), (46, u "(IIILjava/util/function/BiFunction;)I")] 10

def k10m0 : Method := { name := "<init>", desc := "()V", sig := { parameters := [], returnType := none }, accessFlags := 1, code := none }
def k10c1 : Code := { maxStack := 4, maxLocals := 4, code := jdk_41_method_12_code, exceptionTable := #[], attributes := #[] }
def k10m1 : Method := { name := "checkFromToIndex", desc := "(IIILjava/util/function/BiFunction;)I", sig := { parameters := [.int, .int, .int, (.object "java/util/function/BiFunction")], returnType := some .int }, accessFlags := 9, code := some k10c1 }
/-- jdk/internal/util/Preconditions -/
def k10 : Class := { plain "jdk/internal/util/Preconditions" (some 0) with
  accessFlags := 33
  interfaces := #[]
  cf := some (fileOf pool10 24 #[.nestMembers #[55, 131, 125, 114]] #[{ accessFlags := 1, nameIndex := 5, descriptorIndex := 6, attributes := #[] }, { accessFlags := 9, nameIndex := 47, descriptorIndex := 183, attributes := #[] }] 33 2 #[] #[{ accessFlags := 25, nameIndex := 123, descriptorIndex := 124, attributes := #[] }, { accessFlags := 25, nameIndex := 130, descriptorIndex := 124, attributes := #[] }, { accessFlags := 25, nameIndex := 136, descriptorIndex := 124, attributes := #[] }])
  fields := #[{ name := "SIOOBE_FORMATTER", type := (.object "java/util/function/BiFunction"), accessFlags := 25, slot := 0, constantValue := 0 }, { name := "AIOOBE_FORMATTER", type := (.object "java/util/function/BiFunction"), accessFlags := 25, slot := 1, constantValue := 0 }, { name := "IOOBE_FORMATTER", type := (.object "java/util/function/BiFunction"), accessFlags := 25, slot := 2, constantValue := 0 }]
  methods := #[k10m0, k10m1]
  instanceTypes := #[]
  staticTypes := #[(.object "java/util/function/BiFunction"), (.object "java/util/function/BiFunction"), (.object "java/util/function/BiFunction")]
  resolved := Array.replicate 194 none
  statics := some 1 }

def pool11 : Array CpInfo := pool [(6, .class_ 8), (1, u "java/lang/Object"), (0, u "<init>"), (0, u "()V"), (0, .methodref 12 13), (0, .class_ 14), (0, .nameAndType 15 16), (0, u "java/lang/StringUTF16"), (0, u "newBytesLength"), (0, u "(I)I"), (3, .integer 1073741823), (23, .fieldref 12 45), (0, .nameAndType 46 47), (0, u "$assertionsDisabled"), (0, u "Z"), (11, .fieldref 12 60), (0, .nameAndType 61 62), (0, u "HI_BYTE_SHIFT"), (0, u "I"), (0, .fieldref 12 64), (0, .nameAndType 65 62), (0, u "LO_BYTE_SHIFT"), (5, .methodref 12 72), (0, .nameAndType 73 74), (0, u "getChar"), (0, u "([BI)C"), (0, .methodref 76 77), (0, .class_ 78), (0, .nameAndType 79 80), (0, u "java/lang/Character"), (0, u "isHighSurrogate"), (0, u "(C)Z"), (0, .methodref 76 82), (0, .nameAndType 83 80), (0, u "isLowSurrogate"), (7, u "([BIIZ)I"), (8, .methodref 12 101), (0, .nameAndType 102 91), (0, u "codePointCount"), (4, .methodref 12 108), (0, .nameAndType 109 110), (0, u "newBytesFor"), (0, u "(I)[B"), (0, .methodref 12 112), (0, .nameAndType 113 114), (0, u "putChar"), (0, u "([BII)V"), (0, .methodref 12 116), (0, .nameAndType 117 118), (0, u "compress"), (0, u "([CI[BII)I"), (0, .methodref 12 120), (0, .nameAndType 121 122), (0, u "toBytes"), (0, u "([CII)[B"), (127, u "([BII)I"), (10, u "coderFromArrayLen"), (0, u "([BI)B"), (106, .class_ 371), (1, u "java/lang/StringUTF16$LinesSpliterator"), (58, u "MAX_LENGTH"), (196, .class_ 628), (0, u "java/lang/StringUTF16$CodePointsSpliterator"), (0, .class_ 630), (0, u "java/lang/StringUTF16$CharsSpliterator")] 4

def k11m0 : Method := { name := "<init>", desc := "()V", sig := { parameters := [], returnType := none }, accessFlags := 0, code := none }
def k11c1 : Code := { maxStack := 1, maxLocals := 1, code := jdk_52_method_2_code, exceptionTable := #[], attributes := #[] }
def k11m1 : Method := { name := "newBytesFor", desc := "(I)[B", sig := { parameters := [.int], returnType := some (.array .byte) }, accessFlags := 9, code := some k11c1 }
def k11c2 : Code := { maxStack := 4, maxLocals := 1, code := jdk_52_method_3_code, exceptionTable := #[], attributes := #[] }
def k11m2 : Method := { name := "newBytesLength", desc := "(I)I", sig := { parameters := [.int], returnType := some .int }, accessFlags := 9, code := some k11c2 }
def k11c3 : Code := { maxStack := 4, maxLocals := 3, code := jdk_52_method_4_code, exceptionTable := #[], attributes := #[] }
def k11m3 : Method := { name := "putChar", desc := "([BII)V", sig := { parameters := [(.array .byte), .int, .int], returnType := none }, accessFlags := 8, code := some k11c3 }
def k11c4 : Code := { maxStack := 3, maxLocals := 2, code := jdk_52_method_5_code, exceptionTable := #[], attributes := #[] }
def k11m4 : Method := { name := "getChar", desc := "([BI)C", sig := { parameters := [(.array .byte), .int], returnType := some .char }, accessFlags := 8, code := some k11c4 }
def k11c5 : Code := { maxStack := 3, maxLocals := 6, code := jdk_52_method_11_code, exceptionTable := #[], attributes := #[] }
def k11m5 : Method := { name := "codePointCount", desc := "([BIIZ)I", sig := { parameters := [(.array .byte), .int, .int, .boolean], returnType := some .int }, accessFlags := 10, code := some k11c5 }
def k11c6 : Code := { maxStack := 4, maxLocals := 3, code := jdk_52_method_12_code, exceptionTable := #[], attributes := #[] }
def k11m6 : Method := { name := "codePointCount", desc := "([BII)I", sig := { parameters := [(.array .byte), .int, .int], returnType := some .int }, accessFlags := 9, code := some k11c6 }
def k11c7 : Code := { maxStack := 4, maxLocals := 5, code := jdk_52_method_14_code, exceptionTable := #[], attributes := #[] }
def k11m7 : Method := { name := "toBytes", desc := "([CII)[B", sig := { parameters := [(.array .char), .int, .int], returnType := some (.array .byte) }, accessFlags := 9, code := some k11c7 }
def k11c8 : Code := { maxStack := 2, maxLocals := 2, code := jdk_52_method_15_code, exceptionTable := #[], attributes := #[] }
def k11m8 : Method := { name := "coderFromArrayLen", desc := "([BI)B", sig := { parameters := [(.array .byte), .int], returnType := some .byte }, accessFlags := 8, code := some k11c8 }
def k11c9 : Code := { maxStack := 5, maxLocals := 6, code := jdk_52_method_16_code, exceptionTable := #[], attributes := #[] }
def k11m9 : Method := { name := "compress", desc := "([CII)[B", sig := { parameters := [(.array .char), .int, .int], returnType := some (.array .byte) }, accessFlags := 9, code := some k11c9 }
def k11c10 : Code := { maxStack := 3, maxLocals := 7, code := jdk_52_method_21_code, exceptionTable := #[], attributes := #[] }
def k11m10 : Method := { name := "compress", desc := "([CI[BII)I", sig := { parameters := [(.array .char), .int, (.array .byte), .int, .int], returnType := some .int }, accessFlags := 9, code := some k11c10 }
/-- java/lang/StringUTF16 -/
def k11 : Class := { plain "java/lang/StringUTF16" (some 0) with
  accessFlags := 48
  interfaces := #[]
  cf := some (fileOf pool11 12 #[.nestMembers #[627, 629, 369]] #[{ accessFlags := 0, nameIndex := 9, descriptorIndex := 10, attributes := #[] }, { accessFlags := 9, nameIndex := 109, descriptorIndex := 110, attributes := #[] }, { accessFlags := 9, nameIndex := 15, descriptorIndex := 16, attributes := #[] }, { accessFlags := 8, nameIndex := 113, descriptorIndex := 114, attributes := #[] }, { accessFlags := 8, nameIndex := 73, descriptorIndex := 74, attributes := #[] }, { accessFlags := 10, nameIndex := 102, descriptorIndex := 91, attributes := #[] }, { accessFlags := 9, nameIndex := 102, descriptorIndex := 250, attributes := #[] }, { accessFlags := 9, nameIndex := 121, descriptorIndex := 122, attributes := #[] }, { accessFlags := 8, nameIndex := 261, descriptorIndex := 262, attributes := #[] }, { accessFlags := 9, nameIndex := 117, descriptorIndex := 122, attributes := #[] }, { accessFlags := 9, nameIndex := 117, descriptorIndex := 118, attributes := #[] }] 48 6 #[] #[{ accessFlags := 26, nameIndex := 61, descriptorIndex := 62, attributes := #[] }, { accessFlags := 26, nameIndex := 65, descriptorIndex := 62, attributes := #[] }, { accessFlags := 24, nameIndex := 430, descriptorIndex := 62, attributes := #[] }, { accessFlags := 4120, nameIndex := 46, descriptorIndex := 47, attributes := #[] }])
  fields := #[{ name := "HI_BYTE_SHIFT", type := .int, accessFlags := 26, slot := 0, constantValue := 0 }, { name := "LO_BYTE_SHIFT", type := .int, accessFlags := 26, slot := 1, constantValue := 0 }, { name := "MAX_LENGTH", type := .int, accessFlags := 24, slot := 2, constantValue := 0 }, { name := "$assertionsDisabled", type := .boolean, accessFlags := 4120, slot := 3, constantValue := 0 }]
  methods := #[k11m0, k11m1, k11m2, k11m3, k11m4, k11m5, k11m6, k11m7, k11m8, k11m9, k11m10]
  instanceTypes := #[]
  staticTypes := #[.int, .int, .int, .boolean]
  resolved := Array.replicate 635 none
  statics := some 2 }

def pool12 : Array CpInfo := pool [(1, .class_ 2), (0, u "java/lang/Character"), (18, u "value"), (0, u "C"), (19, .class_ 44), (1, u "java/lang/Object"), (3, .class_ 50), (1, u "java/lang/Character$CharacterCache"), (24, .integer 55296), (0, .integer 56320), (0, .integer 57344), (2, u "isHighSurrogate"), (0, u "(C)Z"), (2, u "isLowSurrogate"), (199, u "$assertionsDisabled"), (0, u "Z"), (21, .class_ 309), (1, u "java/lang/Character$UnicodeBlock"), (73, u "TYPE"), (0, u "Ljava/lang/Class;"), (0, .class_ 386), (0, u "java/io/Serializable"), (0, .class_ 388), (0, u "java/lang/Comparable"), (0, .class_ 390), (0, u "java/lang/constant/Constable"), (0, u "MIN_RADIX"), (0, u "I"), (2, u "MAX_RADIX"), (1, u "MIN_VALUE"), (1, u "MAX_VALUE"), (3, u "UNASSIGNED"), (0, u "B"), (0, u "UPPERCASE_LETTER"), (1, u "LOWERCASE_LETTER"), (0, u "TITLECASE_LETTER"), (1, u "MODIFIER_LETTER"), (1, u "OTHER_LETTER"), (1, u "NON_SPACING_MARK"), (1, u "ENCLOSING_MARK"), (1, u "COMBINING_SPACING_MARK"), (1, u "DECIMAL_DIGIT_NUMBER"), (1, u "LETTER_NUMBER"), (1, u "OTHER_NUMBER"), (1, u "SPACE_SEPARATOR"), (1, u "LINE_SEPARATOR"), (1, u "PARAGRAPH_SEPARATOR"), (1, u "CONTROL"), (1, u "FORMAT"), (1, u "PRIVATE_USE"), (1, u "SURROGATE"), (1, u "DASH_PUNCTUATION"), (1, u "START_PUNCTUATION"), (1, u "END_PUNCTUATION"), (1, u "CONNECTOR_PUNCTUATION"), (1, u "OTHER_PUNCTUATION"), (1, u "MATH_SYMBOL"), (1, u "CURRENCY_SYMBOL"), (1, u "MODIFIER_SYMBOL"), (1, u "OTHER_SYMBOL"), (1, u "INITIAL_QUOTE_PUNCTUATION"), (1, u "FINAL_QUOTE_PUNCTUATION"), (1, u "ERROR"), (1, u "DIRECTIONALITY_UNDEFINED"), (0, u "DIRECTIONALITY_LEFT_TO_RIGHT"), (0, u "DIRECTIONALITY_RIGHT_TO_LEFT"), (0, u "DIRECTIONALITY_RIGHT_TO_LEFT_ARABIC"), (0, u "DIRECTIONALITY_EUROPEAN_NUMBER"), (0, u "DIRECTIONALITY_EUROPEAN_NUMBER_SEPARATOR"), (0, u "DIRECTIONALITY_EUROPEAN_NUMBER_TERMINATOR"), (0, u "DIRECTIONALITY_ARABIC_NUMBER"), (0, u "DIRECTIONALITY_COMMON_NUMBER_SEPARATOR"), (0, u "DIRECTIONALITY_NONSPACING_MARK"), (0, u "DIRECTIONALITY_BOUNDARY_NEUTRAL"), (0, u "DIRECTIONALITY_PARAGRAPH_SEPARATOR"), (0, u "DIRECTIONALITY_SEGMENT_SEPARATOR"), (0, u "DIRECTIONALITY_WHITESPACE"), (0, u "DIRECTIONALITY_OTHER_NEUTRALS"), (0, u "DIRECTIONALITY_LEFT_TO_RIGHT_EMBEDDING"), (0, u "DIRECTIONALITY_LEFT_TO_RIGHT_OVERRIDE"), (0, u "DIRECTIONALITY_RIGHT_TO_LEFT_EMBEDDING"), (0, u "DIRECTIONALITY_RIGHT_TO_LEFT_OVERRIDE"), (1, u "DIRECTIONALITY_POP_DIRECTIONAL_FORMAT"), (0, u "DIRECTIONALITY_LEFT_TO_RIGHT_ISOLATE"), (0, u "DIRECTIONALITY_RIGHT_TO_LEFT_ISOLATE"), (0, u "DIRECTIONALITY_FIRST_STRONG_ISOLATE"), (0, u "DIRECTIONALITY_POP_DIRECTIONAL_ISOLATE"), (0, u "MIN_HIGH_SURROGATE"), (0, u "MAX_HIGH_SURROGATE"), (1, u "MIN_LOW_SURROGATE"), (0, u "MAX_LOW_SURROGATE"), (1, u "MIN_SURROGATE"), (0, u "MAX_SURROGATE"), (0, u "MIN_SUPPLEMENTARY_CODE_POINT"), (0, u "MIN_CODE_POINT"), (0, u "MAX_CODE_POINT"), (1, u "serialVersionUID"), (0, u "J"), (2, u "SIZE"), (0, u "BYTES"), (88, .class_ 596), (0, u "java/lang/Character$UnicodeScript"), (0, .class_ 598), (0, u "java/lang/Character$Subset")] 5

def k12c0 : Code := { maxStack := 2, maxLocals := 1, code := jdk_89_method_14_code, exceptionTable := #[], attributes := #[] }
def k12m0 : Method := { name := "isHighSurrogate", desc := "(C)Z", sig := { parameters := [.char], returnType := some .boolean }, accessFlags := 9, code := some k12c0 }
def k12c1 : Code := { maxStack := 2, maxLocals := 1, code := jdk_89_method_15_code, exceptionTable := #[], attributes := #[] }
def k12m1 : Method := { name := "isLowSurrogate", desc := "(C)Z", sig := { parameters := [.char], returnType := some .boolean }, accessFlags := 9, code := some k12c1 }
/-- java/lang/Character -/
def k12 : Class := { plain "java/lang/Character" (some 0) with
  accessFlags := 49
  interfaces := #[2, 3, 5]
  cf := some (fileOf pool12 1 #[.nestMembers #[48, 595, 307, 597]] #[{ accessFlags := 9, nameIndex := 80, descriptorIndex := 81, attributes := #[] }, { accessFlags := 9, nameIndex := 84, descriptorIndex := 81, attributes := #[] }] 49 42 #[385, 387, 389] #[{ accessFlags := 25, nameIndex := 391, descriptorIndex := 392, attributes := #[] }, { accessFlags := 25, nameIndex := 395, descriptorIndex := 392, attributes := #[] }, { accessFlags := 25, nameIndex := 397, descriptorIndex := 22, attributes := #[] }, { accessFlags := 25, nameIndex := 399, descriptorIndex := 22, attributes := #[] }, { accessFlags := 25, nameIndex := 383, descriptorIndex := 384, attributes := #[] }, { accessFlags := 25, nameIndex := 403, descriptorIndex := 404, attributes := #[] }, { accessFlags := 25, nameIndex := 405, descriptorIndex := 404, attributes := #[] }, { accessFlags := 25, nameIndex := 407, descriptorIndex := 404, attributes := #[] }, { accessFlags := 25, nameIndex := 408, descriptorIndex := 404, attributes := #[] }, { accessFlags := 25, nameIndex := 410, descriptorIndex := 404, attributes := #[] }, { accessFlags := 25, nameIndex := 412, descriptorIndex := 404, attributes := #[] }, { accessFlags := 25, nameIndex := 414, descriptorIndex := 404, attributes := #[] }, { accessFlags := 25, nameIndex := 416, descriptorIndex := 404, attributes := #[] }, { accessFlags := 25, nameIndex := 418, descriptorIndex := 404, attributes := #[] }, { accessFlags := 25, nameIndex := 420, descriptorIndex := 404, attributes := #[] }, { accessFlags := 25, nameIndex := 422, descriptorIndex := 404, attributes := #[] }, { accessFlags := 25, nameIndex := 424, descriptorIndex := 404, attributes := #[] }, { accessFlags := 25, nameIndex := 426, descriptorIndex := 404, attributes := #[] }, { accessFlags := 25, nameIndex := 428, descriptorIndex := 404, attributes := #[] }, { accessFlags := 25, nameIndex := 430, descriptorIndex := 404, attributes := #[] }, { accessFlags := 25, nameIndex := 432, descriptorIndex := 404, attributes := #[] }, { accessFlags := 25, nameIndex := 434, descriptorIndex := 404, attributes := #[] }, { accessFlags := 25, nameIndex := 436, descriptorIndex := 404, attributes := #[] }, { accessFlags := 25, nameIndex := 438, descriptorIndex := 404, attributes := #[] }, { accessFlags := 25, nameIndex := 440, descriptorIndex := 404, attributes := #[] }, { accessFlags := 25, nameIndex := 442, descriptorIndex := 404, attributes := #[] }, { accessFlags := 25, nameIndex := 444, descriptorIndex := 404, attributes := #[] }, { accessFlags := 25, nameIndex := 446, descriptorIndex := 404, attributes := #[] }, { accessFlags := 25, nameIndex := 448, descriptorIndex := 404, attributes := #[] }, { accessFlags := 25, nameIndex := 450, descriptorIndex := 404, attributes := #[] }, { accessFlags := 25, nameIndex := 452, descriptorIndex := 404, attributes := #[] }, { accessFlags := 25, nameIndex := 454, descriptorIndex := 404, attributes := #[] }, { accessFlags := 25, nameIndex := 456, descriptorIndex := 404, attributes := #[] }, { accessFlags := 25, nameIndex := 458, descriptorIndex := 404, attributes := #[] }, { accessFlags := 25, nameIndex := 460, descriptorIndex := 404, attributes := #[] }, { accessFlags := 24, nameIndex := 462, descriptorIndex := 392, attributes := #[] }, { accessFlags := 25, nameIndex := 464, descriptorIndex := 404, attributes := #[] }, { accessFlags := 25, nameIndex := 465, descriptorIndex := 404, attributes := #[] }, { accessFlags := 25, nameIndex := 466, descriptorIndex := 404, attributes := #[] }, { accessFlags := 25, nameIndex := 467, descriptorIndex := 404, attributes := #[] }, { accessFlags := 25, nameIndex := 468, descriptorIndex := 404, attributes := #[] }, { accessFlags := 25, nameIndex := 469, descriptorIndex := 404, attributes := #[] }, { accessFlags := 25, nameIndex := 470, descriptorIndex := 404, attributes := #[] }, { accessFlags := 25, nameIndex := 471, descriptorIndex := 404, attributes := #[] }, { accessFlags := 25, nameIndex := 472, descriptorIndex := 404, attributes := #[] }, { accessFlags := 25, nameIndex := 473, descriptorIndex := 404, attributes := #[] }, { accessFlags := 25, nameIndex := 474, descriptorIndex := 404, attributes := #[] }, { accessFlags := 25, nameIndex := 475, descriptorIndex := 404, attributes := #[] }, { accessFlags := 25, nameIndex := 476, descriptorIndex := 404, attributes := #[] }, { accessFlags := 25, nameIndex := 477, descriptorIndex := 404, attributes := #[] }, { accessFlags := 25, nameIndex := 478, descriptorIndex := 404, attributes := #[] }, { accessFlags := 25, nameIndex := 479, descriptorIndex := 404, attributes := #[] }, { accessFlags := 25, nameIndex := 480, descriptorIndex := 404, attributes := #[] }, { accessFlags := 25, nameIndex := 481, descriptorIndex := 404, attributes := #[] }, { accessFlags := 25, nameIndex := 482, descriptorIndex := 404, attributes := #[] }, { accessFlags := 25, nameIndex := 484, descriptorIndex := 404, attributes := #[] }, { accessFlags := 25, nameIndex := 485, descriptorIndex := 404, attributes := #[] }, { accessFlags := 25, nameIndex := 486, descriptorIndex := 404, attributes := #[] }, { accessFlags := 25, nameIndex := 487, descriptorIndex := 404, attributes := #[] }, { accessFlags := 25, nameIndex := 488, descriptorIndex := 404, attributes := #[] }, { accessFlags := 25, nameIndex := 489, descriptorIndex := 22, attributes := #[] }, { accessFlags := 25, nameIndex := 490, descriptorIndex := 22, attributes := #[] }, { accessFlags := 25, nameIndex := 492, descriptorIndex := 22, attributes := #[] }, { accessFlags := 25, nameIndex := 493, descriptorIndex := 22, attributes := #[] }, { accessFlags := 25, nameIndex := 495, descriptorIndex := 22, attributes := #[] }, { accessFlags := 25, nameIndex := 496, descriptorIndex := 22, attributes := #[] }, { accessFlags := 25, nameIndex := 497, descriptorIndex := 392, attributes := #[] }, { accessFlags := 25, nameIndex := 498, descriptorIndex := 392, attributes := #[] }, { accessFlags := 25, nameIndex := 499, descriptorIndex := 392, attributes := #[] }, { accessFlags := 18, nameIndex := 21, descriptorIndex := 22, attributes := #[] }, { accessFlags := 26, nameIndex := 501, descriptorIndex := 502, attributes := #[] }, { accessFlags := 25, nameIndex := 505, descriptorIndex := 392, attributes := #[] }, { accessFlags := 25, nameIndex := 506, descriptorIndex := 392, attributes := #[] }, { accessFlags := 4120, nameIndex := 284, descriptorIndex := 285, attributes := #[] }])
  fields := #[{ name := "MIN_RADIX", type := .int, accessFlags := 25, slot := 0, constantValue := 0 }, { name := "MAX_RADIX", type := .int, accessFlags := 25, slot := 1, constantValue := 0 }, { name := "MIN_VALUE", type := .char, accessFlags := 25, slot := 2, constantValue := 0 }, { name := "MAX_VALUE", type := .char, accessFlags := 25, slot := 3, constantValue := 0 }, { name := "TYPE", type := (.object "java/lang/Class"), accessFlags := 25, slot := 4, constantValue := 0 }, { name := "UNASSIGNED", type := .byte, accessFlags := 25, slot := 5, constantValue := 0 }, { name := "UPPERCASE_LETTER", type := .byte, accessFlags := 25, slot := 6, constantValue := 0 }, { name := "LOWERCASE_LETTER", type := .byte, accessFlags := 25, slot := 7, constantValue := 0 }, { name := "TITLECASE_LETTER", type := .byte, accessFlags := 25, slot := 8, constantValue := 0 }, { name := "MODIFIER_LETTER", type := .byte, accessFlags := 25, slot := 9, constantValue := 0 }, { name := "OTHER_LETTER", type := .byte, accessFlags := 25, slot := 10, constantValue := 0 }, { name := "NON_SPACING_MARK", type := .byte, accessFlags := 25, slot := 11, constantValue := 0 }, { name := "ENCLOSING_MARK", type := .byte, accessFlags := 25, slot := 12, constantValue := 0 }, { name := "COMBINING_SPACING_MARK", type := .byte, accessFlags := 25, slot := 13, constantValue := 0 }, { name := "DECIMAL_DIGIT_NUMBER", type := .byte, accessFlags := 25, slot := 14, constantValue := 0 }, { name := "LETTER_NUMBER", type := .byte, accessFlags := 25, slot := 15, constantValue := 0 }, { name := "OTHER_NUMBER", type := .byte, accessFlags := 25, slot := 16, constantValue := 0 }, { name := "SPACE_SEPARATOR", type := .byte, accessFlags := 25, slot := 17, constantValue := 0 }, { name := "LINE_SEPARATOR", type := .byte, accessFlags := 25, slot := 18, constantValue := 0 }, { name := "PARAGRAPH_SEPARATOR", type := .byte, accessFlags := 25, slot := 19, constantValue := 0 }, { name := "CONTROL", type := .byte, accessFlags := 25, slot := 20, constantValue := 0 }, { name := "FORMAT", type := .byte, accessFlags := 25, slot := 21, constantValue := 0 }, { name := "PRIVATE_USE", type := .byte, accessFlags := 25, slot := 22, constantValue := 0 }, { name := "SURROGATE", type := .byte, accessFlags := 25, slot := 23, constantValue := 0 }, { name := "DASH_PUNCTUATION", type := .byte, accessFlags := 25, slot := 24, constantValue := 0 }, { name := "START_PUNCTUATION", type := .byte, accessFlags := 25, slot := 25, constantValue := 0 }, { name := "END_PUNCTUATION", type := .byte, accessFlags := 25, slot := 26, constantValue := 0 }, { name := "CONNECTOR_PUNCTUATION", type := .byte, accessFlags := 25, slot := 27, constantValue := 0 }, { name := "OTHER_PUNCTUATION", type := .byte, accessFlags := 25, slot := 28, constantValue := 0 }, { name := "MATH_SYMBOL", type := .byte, accessFlags := 25, slot := 29, constantValue := 0 }, { name := "CURRENCY_SYMBOL", type := .byte, accessFlags := 25, slot := 30, constantValue := 0 }, { name := "MODIFIER_SYMBOL", type := .byte, accessFlags := 25, slot := 31, constantValue := 0 }, { name := "OTHER_SYMBOL", type := .byte, accessFlags := 25, slot := 32, constantValue := 0 }, { name := "INITIAL_QUOTE_PUNCTUATION", type := .byte, accessFlags := 25, slot := 33, constantValue := 0 }, { name := "FINAL_QUOTE_PUNCTUATION", type := .byte, accessFlags := 25, slot := 34, constantValue := 0 }, { name := "ERROR", type := .int, accessFlags := 24, slot := 35, constantValue := 0 }, { name := "DIRECTIONALITY_UNDEFINED", type := .byte, accessFlags := 25, slot := 36, constantValue := 0 }, { name := "DIRECTIONALITY_LEFT_TO_RIGHT", type := .byte, accessFlags := 25, slot := 37, constantValue := 0 }, { name := "DIRECTIONALITY_RIGHT_TO_LEFT", type := .byte, accessFlags := 25, slot := 38, constantValue := 0 }, { name := "DIRECTIONALITY_RIGHT_TO_LEFT_ARABIC", type := .byte, accessFlags := 25, slot := 39, constantValue := 0 }, { name := "DIRECTIONALITY_EUROPEAN_NUMBER", type := .byte, accessFlags := 25, slot := 40, constantValue := 0 }, { name := "DIRECTIONALITY_EUROPEAN_NUMBER_SEPARATOR", type := .byte, accessFlags := 25, slot := 41, constantValue := 0 }, { name := "DIRECTIONALITY_EUROPEAN_NUMBER_TERMINATOR", type := .byte, accessFlags := 25, slot := 42, constantValue := 0 }, { name := "DIRECTIONALITY_ARABIC_NUMBER", type := .byte, accessFlags := 25, slot := 43, constantValue := 0 }, { name := "DIRECTIONALITY_COMMON_NUMBER_SEPARATOR", type := .byte, accessFlags := 25, slot := 44, constantValue := 0 }, { name := "DIRECTIONALITY_NONSPACING_MARK", type := .byte, accessFlags := 25, slot := 45, constantValue := 0 }, { name := "DIRECTIONALITY_BOUNDARY_NEUTRAL", type := .byte, accessFlags := 25, slot := 46, constantValue := 0 }, { name := "DIRECTIONALITY_PARAGRAPH_SEPARATOR", type := .byte, accessFlags := 25, slot := 47, constantValue := 0 }, { name := "DIRECTIONALITY_SEGMENT_SEPARATOR", type := .byte, accessFlags := 25, slot := 48, constantValue := 0 }, { name := "DIRECTIONALITY_WHITESPACE", type := .byte, accessFlags := 25, slot := 49, constantValue := 0 }, { name := "DIRECTIONALITY_OTHER_NEUTRALS", type := .byte, accessFlags := 25, slot := 50, constantValue := 0 }, { name := "DIRECTIONALITY_LEFT_TO_RIGHT_EMBEDDING", type := .byte, accessFlags := 25, slot := 51, constantValue := 0 }, { name := "DIRECTIONALITY_LEFT_TO_RIGHT_OVERRIDE", type := .byte, accessFlags := 25, slot := 52, constantValue := 0 }, { name := "DIRECTIONALITY_RIGHT_TO_LEFT_EMBEDDING", type := .byte, accessFlags := 25, slot := 53, constantValue := 0 }, { name := "DIRECTIONALITY_RIGHT_TO_LEFT_OVERRIDE", type := .byte, accessFlags := 25, slot := 54, constantValue := 0 }, { name := "DIRECTIONALITY_POP_DIRECTIONAL_FORMAT", type := .byte, accessFlags := 25, slot := 55, constantValue := 0 }, { name := "DIRECTIONALITY_LEFT_TO_RIGHT_ISOLATE", type := .byte, accessFlags := 25, slot := 56, constantValue := 0 }, { name := "DIRECTIONALITY_RIGHT_TO_LEFT_ISOLATE", type := .byte, accessFlags := 25, slot := 57, constantValue := 0 }, { name := "DIRECTIONALITY_FIRST_STRONG_ISOLATE", type := .byte, accessFlags := 25, slot := 58, constantValue := 0 }, { name := "DIRECTIONALITY_POP_DIRECTIONAL_ISOLATE", type := .byte, accessFlags := 25, slot := 59, constantValue := 0 }, { name := "MIN_HIGH_SURROGATE", type := .char, accessFlags := 25, slot := 60, constantValue := 0 }, { name := "MAX_HIGH_SURROGATE", type := .char, accessFlags := 25, slot := 61, constantValue := 0 }, { name := "MIN_LOW_SURROGATE", type := .char, accessFlags := 25, slot := 62, constantValue := 0 }, { name := "MAX_LOW_SURROGATE", type := .char, accessFlags := 25, slot := 63, constantValue := 0 }, { name := "MIN_SURROGATE", type := .char, accessFlags := 25, slot := 64, constantValue := 0 }, { name := "MAX_SURROGATE", type := .char, accessFlags := 25, slot := 65, constantValue := 0 }, { name := "MIN_SUPPLEMENTARY_CODE_POINT", type := .int, accessFlags := 25, slot := 66, constantValue := 0 }, { name := "MIN_CODE_POINT", type := .int, accessFlags := 25, slot := 67, constantValue := 0 }, { name := "MAX_CODE_POINT", type := .int, accessFlags := 25, slot := 68, constantValue := 0 }, { name := "value", type := .char, accessFlags := 18, slot := 0, constantValue := 0 }, { name := "serialVersionUID", type := .long, accessFlags := 26, slot := 69, constantValue := 0 }, { name := "SIZE", type := .int, accessFlags := 25, slot := 70, constantValue := 0 }, { name := "BYTES", type := .int, accessFlags := 25, slot := 71, constantValue := 0 }, { name := "$assertionsDisabled", type := .boolean, accessFlags := 4120, slot := 72, constantValue := 0 }]
  methods := #[k12m0, k12m1]
  instanceTypes := #[.char]
  staticTypes := #[.int, .int, .char, .char, (.object "java/lang/Class"), .byte, .byte, .byte, .byte, .byte, .byte, .byte, .byte, .byte, .byte, .byte, .byte, .byte, .byte, .byte, .byte, .byte, .byte, .byte, .byte, .byte, .byte, .byte, .byte, .byte, .byte, .byte, .byte, .byte, .byte, .int, .byte, .byte, .byte, .byte, .byte, .byte, .byte, .byte, .byte, .byte, .byte, .byte, .byte, .byte, .byte, .byte, .byte, .byte, .byte, .byte, .byte, .byte, .byte, .byte, .char, .char, .char, .char, .char, .char, .int, .int, .int, .long, .int, .int, .boolean]
  resolved := Array.replicate 604 none
  statics := none }

def pool13 : Array CpInfo := pool [(4, .class_ 6), (1, u "java/lang/Object"), (0, u "<init>"), (0, u "()V"), (5, .class_ 16), (1, u "java/lang/StringLatin1"), (104, u "$assertionsDisabled"), (0, u "Z"), (98, .class_ 223), (1, u "java/lang/StringLatin1$LinesSpliterator"), (166, .class_ 391), (0, u "java/lang/StringLatin1$CharsSpliterator")] 3

def k13m0 : Method := { name := "<init>", desc := "()V", sig := { parameters := [], returnType := none }, accessFlags := 0, code := none }
/-- java/lang/StringLatin1 -/
def k13 : Class := { plain "java/lang/StringLatin1" (some 0) with
  accessFlags := 48
  interfaces := #[]
  cf := some (fileOf pool13 14 #[.nestMembers #[390, 221]] #[{ accessFlags := 0, nameIndex := 7, descriptorIndex := 8, attributes := #[] }] 48 4 #[] #[{ accessFlags := 4120, nameIndex := 121, descriptorIndex := 122, attributes := #[] }])
  fields := #[{ name := "$assertionsDisabled", type := .boolean, accessFlags := 4120, slot := 0, constantValue := 0 }]
  methods := #[k13m0]
  instanceTypes := #[]
  staticTypes := #[.boolean]
  resolved := Array.replicate 395 none
  statics := none }

def pool14 : Array CpInfo := pool [(9, u "<init>"), (6, .class_ 18), (1, u "java/lang/Object"), (0, u "()V"), (1, .class_ 23), (1, u "jdk/internal/util/ArraysSupport"), (0, u "LOG2_ARRAY_LONG_INDEX_SCALE"), (0, u "I"), (2, u "U"), (0, u "Ljdk/internal/misc/Unsafe;"), (8, u "BIG_ENDIAN"), (0, u "Z"), (8, u "LOG2_BYTE_BIT_SIZE"), (4, u "LOG2_ARRAY_INT_INDEX_SCALE"), (54, u "JLA"), (0, u "Ljdk/internal/access/JavaLangAccess;"), (11, u "LOG2_ARRAY_BOOLEAN_INDEX_SCALE"), (9, u "LOG2_ARRAY_BYTE_INDEX_SCALE"), (5, u "LOG2_ARRAY_CHAR_INDEX_SCALE"), (5, u "LOG2_ARRAY_SHORT_INDEX_SCALE"), (18, u "LOG2_ARRAY_FLOAT_INDEX_SCALE"), (24, u "LOG2_ARRAY_DOUBLE_INDEX_SCALE"), (89, u "T_BOOLEAN"), (2, u "T_CHAR"), (1, u "T_FLOAT"), (1, u "T_DOUBLE"), (1, u "T_BYTE"), (1, u "T_SHORT"), (1, u "T_INT"), (1, u "T_LONG"), (1, u "SOFT_MAX_ARRAY_LENGTH")] 83

def k14m0 : Method := { name := "<init>", desc := "()V", sig := { parameters := [], returnType := none }, accessFlags := 2, code := none }
/-- jdk/internal/util/ArraysSupport -/
def k14 : Class := { plain "jdk/internal/util/ArraysSupport" (some 0) with
  accessFlags := 33
  interfaces := #[]
  cf := some (fileOf pool14 21 #[] #[{ accessFlags := 2, nameIndex := 9, descriptorIndex := 19, attributes := #[] }] 33 16 #[] #[{ accessFlags := 24, nameIndex := 28, descriptorIndex := 29, attributes := #[] }, { accessFlags := 26, nameIndex := 38, descriptorIndex := 39, attributes := #[] }, { accessFlags := 25, nameIndex := 121, descriptorIndex := 25, attributes := #[] }, { accessFlags := 25, nameIndex := 131, descriptorIndex := 25, attributes := #[] }, { accessFlags := 25, nameIndex := 137, descriptorIndex := 25, attributes := #[] }, { accessFlags := 25, nameIndex := 143, descriptorIndex := 25, attributes := #[] }, { accessFlags := 25, nameIndex := 53, descriptorIndex := 25, attributes := #[] }, { accessFlags := 25, nameIndex := 24, descriptorIndex := 25, attributes := #[] }, { accessFlags := 25, nameIndex := 162, descriptorIndex := 25, attributes := #[] }, { accessFlags := 25, nameIndex := 187, descriptorIndex := 25, attributes := #[] }, { accessFlags := 26, nameIndex := 48, descriptorIndex := 25, attributes := #[] }, { accessFlags := 25, nameIndex := 277, descriptorIndex := 25, attributes := #[] }, { accessFlags := 25, nameIndex := 280, descriptorIndex := 25, attributes := #[] }, { accessFlags := 25, nameIndex := 282, descriptorIndex := 25, attributes := #[] }, { accessFlags := 25, nameIndex := 284, descriptorIndex := 25, attributes := #[] }, { accessFlags := 25, nameIndex := 286, descriptorIndex := 25, attributes := #[] }, { accessFlags := 25, nameIndex := 288, descriptorIndex := 25, attributes := #[] }, { accessFlags := 25, nameIndex := 290, descriptorIndex := 25, attributes := #[] }, { accessFlags := 25, nameIndex := 292, descriptorIndex := 25, attributes := #[] }, { accessFlags := 26, nameIndex := 108, descriptorIndex := 109, attributes := #[] }, { accessFlags := 25, nameIndex := 294, descriptorIndex := 25, attributes := #[] }])
  fields := #[{ name := "U", type := (.object "jdk/internal/misc/Unsafe"), accessFlags := 24, slot := 0, constantValue := 0 }, { name := "BIG_ENDIAN", type := .boolean, accessFlags := 26, slot := 1, constantValue := 0 }, { name := "LOG2_ARRAY_BOOLEAN_INDEX_SCALE", type := .int, accessFlags := 25, slot := 2, constantValue := 0 }, { name := "LOG2_ARRAY_BYTE_INDEX_SCALE", type := .int, accessFlags := 25, slot := 3, constantValue := 0 }, { name := "LOG2_ARRAY_CHAR_INDEX_SCALE", type := .int, accessFlags := 25, slot := 4, constantValue := 0 }, { name := "LOG2_ARRAY_SHORT_INDEX_SCALE", type := .int, accessFlags := 25, slot := 5, constantValue := 0 }, { name := "LOG2_ARRAY_INT_INDEX_SCALE", type := .int, accessFlags := 25, slot := 6, constantValue := 0 }, { name := "LOG2_ARRAY_LONG_INDEX_SCALE", type := .int, accessFlags := 25, slot := 7, constantValue := 0 }, { name := "LOG2_ARRAY_FLOAT_INDEX_SCALE", type := .int, accessFlags := 25, slot := 8, constantValue := 0 }, { name := "LOG2_ARRAY_DOUBLE_INDEX_SCALE", type := .int, accessFlags := 25, slot := 9, constantValue := 0 }, { name := "LOG2_BYTE_BIT_SIZE", type := .int, accessFlags := 26, slot := 10, constantValue := 0 }, { name := "T_BOOLEAN", type := .int, accessFlags := 25, slot := 11, constantValue := 0 }, { name := "T_CHAR", type := .int, accessFlags := 25, slot := 12, constantValue := 0 }, { name := "T_FLOAT", type := .int, accessFlags := 25, slot := 13, constantValue := 0 }, { name := "T_DOUBLE", type := .int, accessFlags := 25, slot := 14, constantValue := 0 }, { name := "T_BYTE", type := .int, accessFlags := 25, slot := 15, constantValue := 0 }, { name := "T_SHORT", type := .int, accessFlags := 25, slot := 16, constantValue := 0 }, { name := "T_INT", type := .int, accessFlags := 25, slot := 17, constantValue := 0 }, { name := "T_LONG", type := .int, accessFlags := 25, slot := 18, constantValue := 0 }, { name := "JLA", type := (.object "jdk/internal/access/JavaLangAccess"), accessFlags := 26, slot := 19, constantValue := 0 }, { name := "SOFT_MAX_ARRAY_LENGTH", type := .int, accessFlags := 25, slot := 20, constantValue := 0 }]
  methods := #[k14m0]
  instanceTypes := #[]
  staticTypes := #[(.object "jdk/internal/misc/Unsafe"), .boolean, .int, .int, .int, .int, .int, .int, .int, .int, .int, .int, .int, .int, .int, .int, .int, .int, .int, (.object "jdk/internal/access/JavaLangAccess"), .int]
  resolved := Array.replicate 378 none
  statics := none }

def pool15 : Array CpInfo := pool [(1, u "java/lang/Cloneable"), (0, .class_ 1), (0, u "java/lang/Object"), (0, .class_ 3)] 3

/-- java/lang/Cloneable -/
def k15 : Class := { plain "java/lang/Cloneable" (some 0) with
  accessFlags := 1537
  interfaces := #[]
  cf := some (fileOf pool15 2 #[] #[] 1537 4 #[] #[])
  fields := #[]
  methods := #[]
  instanceTypes := #[]
  staticTypes := #[]
  resolved := Array.replicate 8 none
  statics := none }

/-- the primitive byte -/
def k16 : Class := { plain "byte" none with kind := .primitive 'B', accessFlags := 0x411 }
/-- [B -/
def k17 : Class := { plain "[B" (some 0) with kind := .array 16 .byte, interfaces := #[15, 2], accessFlags := 1041 }

/-- the primitive char -/
def k18 : Class := { plain "char" none with kind := .primitive 'C', accessFlags := 0x411 }
/-- [C -/
def k19 : Class := { plain "[C" (some 0) with kind := .array 18 .char, interfaces := #[15, 2], accessFlags := 1041 }

/-- the primitive int -/
def k20 : Class := { plain "int" none with kind := .primitive 'I', accessFlags := 0x411 }
/-- [I -/
def k21 : Class := { plain "[I" (some 0) with kind := .array 20 .int, interfaces := #[15, 2], accessFlags := 1041 }

def heap : Heap := #[{ cls := 7, slots := #[.long 0, .int 1, .null, .int 0, .null, .int 0, .int 0], vm := .statics 7 },
  { cls := 10, slots := #[.null, .null, .null], vm := .statics 10 },
  { cls := 11, slots := #[.int 0, .int 8, .int 0, .int 1], vm := .statics 11 }]
def classes : Array Class := #[k0, k1, k2, k3, k4, k5, k6, k7, k8, k9, k10, k11, k12, k13, k14, k15, k16, k17, k18, k19, k20, k21]
def interned : List (Array UInt16 × Addr) := []
def slotsUsed : Nat := 14
def theMethod : MethodId := ⟨1, 5⟩
def args0 : Array Value := #[.int 2, .int 65, .int 66, .int 67, .int 1, .int 3]
def aboutOver (below : List Frame) : State where
  vm := { classes := classes, interned := interned.toArray }
  heap := heap
  slotsUsed := slotsUsed
  threads := #[{ frames := .invoking theMethod args0 :: below }]
def below0 : List Frame := [.native { method := ⟨0, 0⟩, args := #[] }]
def about1 : State := aboutOver below0
def p0 : Program := .bare "" "" ""
def e0 : Env := launch0.env 0 0 0
theorem w_frames : about1.frames = Frame.invoking theMethod args0 :: below0 := rfl
set_option maxRecDepth 65536 in
theorem w_args : argsFit about1.vm theMethod args0 = true := by decide +kernel
set_option maxRecDepth 65536 in
theorem w_heap : heapFits about1 = true := by decide +kernel
set_option maxRecDepth 65536 in
theorem w_runnable : about1.curStatus? = some .runnable := by decide +kernel
set_option maxRecDepth 65536 in
theorem w_alone : about1.alone = true := by decide +kernel
set_option maxRecDepth 65536 in
theorem w_named : about1.methodNamed? x = some theMethod := by decide +kernel
set_option maxRecDepth 65536 in
theorem w_hears : about1.hears theMethod below0 = true := by decide +kernel
set_option maxRecDepth 65536 in
theorem w_ripe : about1.ripe theMethod args0 below0 = true := by decide +kernel
theorem w_running : about1.status = .running := rfl
set_option maxRecDepth 65536 in
theorem w_room : about1.hasRoom e0.platform room_1 = true :=
  launch0.hasRoom_least _ room_1 (by decide +kernel) (by decide +kernel) (by decide +kernel) (by decide +kernel) (by decide +kernel) (by decide +kernel)
theorem allAtoms_all (ts : List Jvm.Cond) (a : Array Jvm.Value) (st : Jvm.State) : (allAtoms ts).before a st = ts.all (fun c => c.before a st) := by
  induction ts with
  | nil => rfl
  | cons c t ih =>
    show (Jvm.Cond.and c (allAtoms t)).before a st = _
    rw [Jvm.Cond.before_and, ih, List.all_cons]
def words1 : List Jvm.Cond := Jvm.Cond.code x code maxLocals ret :: tables_1
/-- a 'code' word, met by the world's own term for the bytes: nothing is compared byte by byte -/
theorem code_word {y : MethodName} {bytes : ByteArray} {mx : Nat} {rt : Option FieldType} {a : Array Value} {s : State} {m : MethodId} {meth : Method} {c : Code} (h1 : s.methodNamed? y = some m) (h2 : s.vm.method? m = some meth) (h3 : meth.code = some c) (h4 : c.code = bytes)
    (h5 : (c.maxLocals == mx && c.exceptionTable.isEmpty && decide (c.maxStack ≤ mostOperands) && decide (meth.sig.returnType = rt) && !meth.locks && decide (parseMethodDescriptor y.desc = some meth.sig)) = true) : (Jvm.Cond.code y bytes mx rt).before a s = true := by
  simp only [Bool.and_eq_true, beq_iff_eq, Bool.not_eq_true', decide_eq_true_eq] at h5
  obtain ⟨⟨⟨⟨⟨g1, g2⟩, g3⟩, g4⟩, g5⟩, g6⟩ := h5
  simp [Cond.before, Cond.holds, Cond.value, h1, h2, h3, h4, g1, g2, g3, g4, g5, g6]
def isCode : Jvm.Cond → Bool
  | .code _ _ _ _ => true
  | _ => false
theorem all_split {L : List Jvm.Cond} {P : Jvm.Cond → Bool} (h1 : L.all (fun c => isCode c || P c) = true) (h2 : ∀ c ∈ L.filter isCode, P c = true) : L.all P = true := by
  refine List.all_eq_true.mpr fun c hc => ?_
  have h := List.all_eq_true.mp h1 c hc
  rcases Bool.eq_false_or_eq_true (isCode c) with hi | hi
  · exact h2 c (List.mem_filter.mpr ⟨hc, hi⟩)
  · simpa [hi] using h
set_option maxRecDepth 65536 in
theorem w_c0 : (Jvm.Cond.code x code maxLocals ret).before args0 about1 = true := code_word (m := ⟨1, 5⟩) (meth := k1m5) (c := k1c5) (by decide +kernel) rfl rfl rfl (by decide +kernel)
set_option maxRecDepth 65536 in
theorem w_c1 : (Jvm.Cond.code ({ cls := "com/example/visad/visad/identity/CharactersWithinPinLaw", name := "draw", desc := "(I)C" } : Jvm.MethodName) method_2_code (2 : Nat) (Option.some Jvm.ClassFile.FieldType.char)).before args0 about1 = true := code_word (m := ⟨1, 1⟩) (meth := k1m1) (c := k1c1) (by decide +kernel) rfl rfl rfl (by decide +kernel)
set_option maxRecDepth 65536 in
theorem w_c2 : (Jvm.Cond.code ({ cls := "com/example/visad/visad/identity/CharactersWithinPinLaw", name := "make", desc := "(ICCC)Ljava/lang/String;" } : Jvm.MethodName) method_5_code (4 : Nat) (Option.some (Jvm.ClassFile.FieldType.object "java/lang/String"))).before args0 about1 = true := code_word (m := ⟨1, 4⟩) (meth := k1m4) (c := k1c4) (by decide +kernel) rfl rfl rfl (by decide +kernel)
set_option maxRecDepth 65536 in
theorem w_c3 : (Jvm.Cond.code ({ cls := "java/lang/String", name := "<init>", desc := "([C)V" } : Jvm.MethodName) jdk_42_method_3_code (2 : Nat) (Option.none : Option Jvm.ClassFile.FieldType)).before args0 about1 = true := code_word (m := ⟨7, 1⟩) (meth := k7m1) (c := k7c1) (by decide +kernel) rfl rfl rfl (by decide +kernel)
set_option maxRecDepth 65536 in
theorem w_c4 : (Jvm.Cond.code ({ cls := "java/lang/String", name := "<init>", desc := "([CIILjava/lang/Void;)V" } : Jvm.MethodName) jdk_42_method_149_code (6 : Nat) (Option.none : Option Jvm.ClassFile.FieldType)).before args0 about1 = true := code_word (m := ⟨7, 4⟩) (meth := k7m4) (c := k7c4) (by decide +kernel) rfl rfl rfl (by decide +kernel)
set_option maxRecDepth 65536 in
theorem w_c5 : (Jvm.Cond.code ({ cls := "java/lang/Object", name := "<init>", desc := "()V" } : Jvm.MethodName) object_method_1_code (1 : Nat) (Option.none : Option Jvm.ClassFile.FieldType)).before args0 about1 = true := code_word (m := ⟨0, 0⟩) (meth := k0m0) (c := k0c0) (by decide +kernel) rfl rfl rfl (by decide +kernel)
set_option maxRecDepth 65536 in
theorem w_c6 : (Jvm.Cond.code ({ cls := "com/example/visad/visad/identity/Characters", name := "within", desc := "(Ljava/lang/String;II)Z" } : Jvm.MethodName) prog_19_method_2_code (4 : Nat) (Option.some Jvm.ClassFile.FieldType.boolean)).before args0 about1 = true := code_word (m := ⟨8, 1⟩) (meth := k8m1) (c := k8c1) (by decide +kernel) rfl rfl rfl (by decide +kernel)
set_option maxRecDepth 65536 in
theorem w_c7 : (Jvm.Cond.code ({ cls := "java/lang/String", name := "length", desc := "()I" } : Jvm.MethodName) jdk_42_method_54_code (1 : Nat) (Option.some Jvm.ClassFile.FieldType.int)).before args0 about1 = true := code_word (m := ⟨7, 2⟩) (meth := k7m2) (c := k7c2) (by decide +kernel) rfl rfl rfl (by decide +kernel)
set_option maxRecDepth 65536 in
theorem w_c8 : (Jvm.Cond.code ({ cls := "java/lang/String", name := "coder", desc := "()B" } : Jvm.MethodName) jdk_42_method_152_code (1 : Nat) (Option.some Jvm.ClassFile.FieldType.byte)).before args0 about1 = true := code_word (m := ⟨7, 5⟩) (meth := k7m5) (c := k7c5) (by decide +kernel) rfl rfl rfl (by decide +kernel)
set_option maxRecDepth 65536 in
theorem w_c9 : (Jvm.Cond.code ({ cls := "java/lang/String", name := "codePointCount", desc := "(II)I" } : Jvm.MethodName) jdk_42_method_59_code (3 : Nat) (Option.some Jvm.ClassFile.FieldType.int)).before args0 about1 = true := code_word (m := ⟨7, 3⟩) (meth := k7m3) (c := k7c3) (by decide +kernel) rfl rfl rfl (by decide +kernel)
set_option maxRecDepth 65536 in
theorem w_c10 : (Jvm.Cond.code ({ cls := "java/util/Objects", name := "checkFromToIndex", desc := "(III)I" } : Jvm.MethodName) jdk_31_method_18_code (3 : Nat) (Option.some Jvm.ClassFile.FieldType.int)).before args0 about1 = true := code_word (m := ⟨9, 1⟩) (meth := k9m1) (c := k9c1) (by decide +kernel) rfl rfl rfl (by decide +kernel)
set_option maxRecDepth 65536 in
theorem w_c11 : (Jvm.Cond.code ({ cls := "jdk/internal/util/Preconditions", name := "checkFromToIndex", desc := "(IIILjava/util/function/BiFunction;)I" } : Jvm.MethodName) jdk_41_method_12_code (4 : Nat) (Option.some Jvm.ClassFile.FieldType.int)).before args0 about1 = true := code_word (m := ⟨10, 1⟩) (meth := k10m1) (c := k10c1) (by decide +kernel) rfl rfl rfl (by decide +kernel)
set_option maxRecDepth 65536 in
theorem w_c12 : (Jvm.Cond.code ({ cls := "java/lang/String", name := "isLatin1", desc := "()Z" } : Jvm.MethodName) jdk_42_method_154_code (1 : Nat) (Option.some Jvm.ClassFile.FieldType.boolean)).before args0 about1 = true := code_word (m := ⟨7, 6⟩) (meth := k7m6) (c := k7c6) (by decide +kernel) rfl rfl rfl (by decide +kernel)
set_option maxRecDepth 65536 in
theorem w_c13 : (Jvm.Cond.code ({ cls := "java/lang/StringUTF16", name := "compress", desc := "([CII)[B" } : Jvm.MethodName) jdk_52_method_16_code (6 : Nat) (Option.some (Jvm.ClassFile.FieldType.array Jvm.ClassFile.FieldType.byte))).before args0 about1 = true := code_word (m := ⟨11, 9⟩) (meth := k11m9) (c := k11c9) (by decide +kernel) rfl rfl rfl (by decide +kernel)
set_option maxRecDepth 65536 in
theorem w_c14 : (Jvm.Cond.code ({ cls := "java/lang/StringUTF16", name := "compress", desc := "([CI[BII)I" } : Jvm.MethodName) jdk_52_method_21_code (7 : Nat) (Option.some Jvm.ClassFile.FieldType.int)).before args0 about1 = true := code_word (m := ⟨11, 10⟩) (meth := k11m10) (c := k11c10) (by decide +kernel) rfl rfl rfl (by decide +kernel)
set_option maxRecDepth 65536 in
theorem w_c15 : (Jvm.Cond.code ({ cls := "java/lang/StringUTF16", name := "coderFromArrayLen", desc := "([BI)B" } : Jvm.MethodName) jdk_52_method_15_code (2 : Nat) (Option.some Jvm.ClassFile.FieldType.byte)).before args0 about1 = true := code_word (m := ⟨11, 8⟩) (meth := k11m8) (c := k11c8) (by decide +kernel) rfl rfl rfl (by decide +kernel)
set_option maxRecDepth 65536 in
theorem w_c16 : (Jvm.Cond.code ({ cls := "java/lang/StringUTF16", name := "toBytes", desc := "([CII)[B" } : Jvm.MethodName) jdk_52_method_14_code (5 : Nat) (Option.some (Jvm.ClassFile.FieldType.array Jvm.ClassFile.FieldType.byte))).before args0 about1 = true := code_word (m := ⟨11, 7⟩) (meth := k11m7) (c := k11c7) (by decide +kernel) rfl rfl rfl (by decide +kernel)
set_option maxRecDepth 65536 in
theorem w_c17 : (Jvm.Cond.code ({ cls := "java/lang/StringUTF16", name := "newBytesFor", desc := "(I)[B" } : Jvm.MethodName) jdk_52_method_2_code (1 : Nat) (Option.some (Jvm.ClassFile.FieldType.array Jvm.ClassFile.FieldType.byte))).before args0 about1 = true := code_word (m := ⟨11, 1⟩) (meth := k11m1) (c := k11c1) (by decide +kernel) rfl rfl rfl (by decide +kernel)
set_option maxRecDepth 65536 in
theorem w_c18 : (Jvm.Cond.code ({ cls := "java/lang/StringUTF16", name := "newBytesLength", desc := "(I)I" } : Jvm.MethodName) jdk_52_method_3_code (1 : Nat) (Option.some Jvm.ClassFile.FieldType.int)).before args0 about1 = true := code_word (m := ⟨11, 2⟩) (meth := k11m2) (c := k11c2) (by decide +kernel) rfl rfl rfl (by decide +kernel)
set_option maxRecDepth 65536 in
theorem w_c19 : (Jvm.Cond.code ({ cls := "java/lang/StringUTF16", name := "putChar", desc := "([BII)V" } : Jvm.MethodName) jdk_52_method_4_code (3 : Nat) (Option.none : Option Jvm.ClassFile.FieldType)).before args0 about1 = true := code_word (m := ⟨11, 3⟩) (meth := k11m3) (c := k11c3) (by decide +kernel) rfl rfl rfl (by decide +kernel)
set_option maxRecDepth 65536 in
theorem w_c20 : (Jvm.Cond.code ({ cls := "java/lang/StringUTF16", name := "getChar", desc := "([BI)C" } : Jvm.MethodName) jdk_52_method_5_code (2 : Nat) (Option.some Jvm.ClassFile.FieldType.char)).before args0 about1 = true := code_word (m := ⟨11, 4⟩) (meth := k11m4) (c := k11c4) (by decide +kernel) rfl rfl rfl (by decide +kernel)
set_option maxRecDepth 65536 in
theorem w_c21 : (Jvm.Cond.code ({ cls := "com/example/visad/visad/identity/CharactersWithinPinLaw", name := "isHigh", desc := "(C)Z" } : Jvm.MethodName) method_3_code (1 : Nat) (Option.some Jvm.ClassFile.FieldType.boolean)).before args0 about1 = true := code_word (m := ⟨1, 2⟩) (meth := k1m2) (c := k1c2) (by decide +kernel) rfl rfl rfl (by decide +kernel)
set_option maxRecDepth 65536 in
theorem w_c22 : (Jvm.Cond.code ({ cls := "java/lang/StringUTF16", name := "codePointCount", desc := "([BII)I" } : Jvm.MethodName) jdk_52_method_12_code (3 : Nat) (Option.some Jvm.ClassFile.FieldType.int)).before args0 about1 = true := code_word (m := ⟨11, 6⟩) (meth := k11m6) (c := k11c6) (by decide +kernel) rfl rfl rfl (by decide +kernel)
set_option maxRecDepth 65536 in
theorem w_c23 : (Jvm.Cond.code ({ cls := "java/lang/StringUTF16", name := "codePointCount", desc := "([BIIZ)I" } : Jvm.MethodName) jdk_52_method_11_code (6 : Nat) (Option.some Jvm.ClassFile.FieldType.int)).before args0 about1 = true := code_word (m := ⟨11, 5⟩) (meth := k11m5) (c := k11c5) (by decide +kernel) rfl rfl rfl (by decide +kernel)
set_option maxRecDepth 65536 in
theorem w_c24 : (Jvm.Cond.code ({ cls := "java/lang/Character", name := "isHighSurrogate", desc := "(C)Z" } : Jvm.MethodName) jdk_89_method_14_code (1 : Nat) (Option.some Jvm.ClassFile.FieldType.boolean)).before args0 about1 = true := code_word (m := ⟨12, 0⟩) (meth := k12m0) (c := k12c0) (by decide +kernel) rfl rfl rfl (by decide +kernel)
set_option maxRecDepth 65536 in
theorem w_c25 : (Jvm.Cond.code ({ cls := "com/example/visad/visad/identity/CharactersWithinPinLaw", name := "isLow", desc := "(C)Z" } : Jvm.MethodName) method_4_code (1 : Nat) (Option.some Jvm.ClassFile.FieldType.boolean)).before args0 about1 = true := code_word (m := ⟨1, 3⟩) (meth := k1m3) (c := k1c3) (by decide +kernel) rfl rfl rfl (by decide +kernel)
set_option maxRecDepth 65536 in
theorem w_c26 : (Jvm.Cond.code ({ cls := "java/lang/Character", name := "isLowSurrogate", desc := "(C)Z" } : Jvm.MethodName) jdk_89_method_15_code (1 : Nat) (Option.some Jvm.ClassFile.FieldType.boolean)).before args0 about1 = true := code_word (m := ⟨12, 1⟩) (meth := k12m1) (c := k12c1) (by decide +kernel) rfl rfl rfl (by decide +kernel)
def codes1 : List Jvm.Cond := [Jvm.Cond.code x code maxLocals ret, Jvm.Cond.code ({ cls := "com/example/visad/visad/identity/CharactersWithinPinLaw", name := "draw", desc := "(I)C" } : Jvm.MethodName) method_2_code (2 : Nat) (Option.some Jvm.ClassFile.FieldType.char), Jvm.Cond.code ({ cls := "com/example/visad/visad/identity/CharactersWithinPinLaw", name := "make", desc := "(ICCC)Ljava/lang/String;" } : Jvm.MethodName) method_5_code (4 : Nat) (Option.some (Jvm.ClassFile.FieldType.object "java/lang/String")), Jvm.Cond.code ({ cls := "java/lang/String", name := "<init>", desc := "([C)V" } : Jvm.MethodName) jdk_42_method_3_code (2 : Nat) (Option.none : Option Jvm.ClassFile.FieldType), Jvm.Cond.code ({ cls := "java/lang/String", name := "<init>", desc := "([CIILjava/lang/Void;)V" } : Jvm.MethodName) jdk_42_method_149_code (6 : Nat) (Option.none : Option Jvm.ClassFile.FieldType), Jvm.Cond.code ({ cls := "java/lang/Object", name := "<init>", desc := "()V" } : Jvm.MethodName) object_method_1_code (1 : Nat) (Option.none : Option Jvm.ClassFile.FieldType), Jvm.Cond.code ({ cls := "com/example/visad/visad/identity/Characters", name := "within", desc := "(Ljava/lang/String;II)Z" } : Jvm.MethodName) prog_19_method_2_code (4 : Nat) (Option.some Jvm.ClassFile.FieldType.boolean), Jvm.Cond.code ({ cls := "java/lang/String", name := "length", desc := "()I" } : Jvm.MethodName) jdk_42_method_54_code (1 : Nat) (Option.some Jvm.ClassFile.FieldType.int), Jvm.Cond.code ({ cls := "java/lang/String", name := "coder", desc := "()B" } : Jvm.MethodName) jdk_42_method_152_code (1 : Nat) (Option.some Jvm.ClassFile.FieldType.byte), Jvm.Cond.code ({ cls := "java/lang/String", name := "codePointCount", desc := "(II)I" } : Jvm.MethodName) jdk_42_method_59_code (3 : Nat) (Option.some Jvm.ClassFile.FieldType.int), Jvm.Cond.code ({ cls := "java/util/Objects", name := "checkFromToIndex", desc := "(III)I" } : Jvm.MethodName) jdk_31_method_18_code (3 : Nat) (Option.some Jvm.ClassFile.FieldType.int), Jvm.Cond.code ({ cls := "jdk/internal/util/Preconditions", name := "checkFromToIndex", desc := "(IIILjava/util/function/BiFunction;)I" } : Jvm.MethodName) jdk_41_method_12_code (4 : Nat) (Option.some Jvm.ClassFile.FieldType.int), Jvm.Cond.code ({ cls := "java/lang/String", name := "isLatin1", desc := "()Z" } : Jvm.MethodName) jdk_42_method_154_code (1 : Nat) (Option.some Jvm.ClassFile.FieldType.boolean), Jvm.Cond.code ({ cls := "java/lang/StringUTF16", name := "compress", desc := "([CII)[B" } : Jvm.MethodName) jdk_52_method_16_code (6 : Nat) (Option.some (Jvm.ClassFile.FieldType.array Jvm.ClassFile.FieldType.byte)), Jvm.Cond.code ({ cls := "java/lang/StringUTF16", name := "compress", desc := "([CI[BII)I" } : Jvm.MethodName) jdk_52_method_21_code (7 : Nat) (Option.some Jvm.ClassFile.FieldType.int), Jvm.Cond.code ({ cls := "java/lang/StringUTF16", name := "coderFromArrayLen", desc := "([BI)B" } : Jvm.MethodName) jdk_52_method_15_code (2 : Nat) (Option.some Jvm.ClassFile.FieldType.byte), Jvm.Cond.code ({ cls := "java/lang/StringUTF16", name := "toBytes", desc := "([CII)[B" } : Jvm.MethodName) jdk_52_method_14_code (5 : Nat) (Option.some (Jvm.ClassFile.FieldType.array Jvm.ClassFile.FieldType.byte)), Jvm.Cond.code ({ cls := "java/lang/StringUTF16", name := "newBytesFor", desc := "(I)[B" } : Jvm.MethodName) jdk_52_method_2_code (1 : Nat) (Option.some (Jvm.ClassFile.FieldType.array Jvm.ClassFile.FieldType.byte)), Jvm.Cond.code ({ cls := "java/lang/StringUTF16", name := "newBytesLength", desc := "(I)I" } : Jvm.MethodName) jdk_52_method_3_code (1 : Nat) (Option.some Jvm.ClassFile.FieldType.int), Jvm.Cond.code ({ cls := "java/lang/StringUTF16", name := "putChar", desc := "([BII)V" } : Jvm.MethodName) jdk_52_method_4_code (3 : Nat) (Option.none : Option Jvm.ClassFile.FieldType), Jvm.Cond.code ({ cls := "java/lang/StringUTF16", name := "getChar", desc := "([BI)C" } : Jvm.MethodName) jdk_52_method_5_code (2 : Nat) (Option.some Jvm.ClassFile.FieldType.char), Jvm.Cond.code ({ cls := "com/example/visad/visad/identity/CharactersWithinPinLaw", name := "isHigh", desc := "(C)Z" } : Jvm.MethodName) method_3_code (1 : Nat) (Option.some Jvm.ClassFile.FieldType.boolean), Jvm.Cond.code ({ cls := "java/lang/StringUTF16", name := "codePointCount", desc := "([BII)I" } : Jvm.MethodName) jdk_52_method_12_code (3 : Nat) (Option.some Jvm.ClassFile.FieldType.int), Jvm.Cond.code ({ cls := "java/lang/StringUTF16", name := "codePointCount", desc := "([BIIZ)I" } : Jvm.MethodName) jdk_52_method_11_code (6 : Nat) (Option.some Jvm.ClassFile.FieldType.int), Jvm.Cond.code ({ cls := "java/lang/Character", name := "isHighSurrogate", desc := "(C)Z" } : Jvm.MethodName) jdk_89_method_14_code (1 : Nat) (Option.some Jvm.ClassFile.FieldType.boolean), Jvm.Cond.code ({ cls := "com/example/visad/visad/identity/CharactersWithinPinLaw", name := "isLow", desc := "(C)Z" } : Jvm.MethodName) method_4_code (1 : Nat) (Option.some Jvm.ClassFile.FieldType.boolean), Jvm.Cond.code ({ cls := "java/lang/Character", name := "isLowSurrogate", desc := "(C)Z" } : Jvm.MethodName) jdk_89_method_15_code (1 : Nat) (Option.some Jvm.ClassFile.FieldType.boolean)]
set_option maxRecDepth 65536 in
theorem codes_eq : words1.filter isCode = codes1 := rfl
theorem w_codes : ∀ c ∈ words1.filter isCode, c.before args0 about1 = true := by
  rw [codes_eq]
  intro c hc
  simp only [codes1, List.mem_cons, List.not_mem_nil, or_false] at hc
  rcases hc with rfl | rfl | rfl | rfl | rfl | rfl | rfl | rfl | rfl | rfl | rfl | rfl | rfl | rfl | rfl | rfl | rfl | rfl | rfl | rfl | rfl | rfl | rfl | rfl | rfl | rfl | rfl
  · exact w_c0
  · exact w_c1
  · exact w_c2
  · exact w_c3
  · exact w_c4
  · exact w_c5
  · exact w_c6
  · exact w_c7
  · exact w_c8
  · exact w_c9
  · exact w_c10
  · exact w_c11
  · exact w_c12
  · exact w_c13
  · exact w_c14
  · exact w_c15
  · exact w_c16
  · exact w_c17
  · exact w_c18
  · exact w_c19
  · exact w_c20
  · exact w_c21
  · exact w_c22
  · exact w_c23
  · exact w_c24
  · exact w_c25
  · exact w_c26
set_option maxRecDepth 65536 in
theorem w_t1 : (words1.take 24).all (fun c => isCode c || c.before args0 about1) = true := by decide +kernel
set_option maxRecDepth 65536 in
theorem w_t2 : ((words1.drop 24).take 24).all (fun c => isCode c || c.before args0 about1) = true := by decide +kernel
set_option maxRecDepth 65536 in
theorem w_t3 : (((words1.drop 24).drop 24).take 24).all (fun c => isCode c || c.before args0 about1) = true := by decide +kernel
set_option maxRecDepth 65536 in
theorem w_t4 : ((((words1.drop 24).drop 24).drop 24).take 24).all (fun c => isCode c || c.before args0 about1) = true := by decide +kernel
set_option maxRecDepth 65536 in
theorem w_t5 : ((((words1.drop 24).drop 24).drop 24).drop 24).all (fun c => isCode c || c.before args0 about1) = true := by decide +kernel
theorem w_tables : (allAtoms (Jvm.Cond.code x code maxLocals ret :: tables_1)).before args0 about1 = true := by
  rw [allAtoms_all]
  show words1.all (fun c => c.before args0 about1) = true
  refine all_split ?_ w_codes
  rw [← List.take_append_drop 24 words1, List.all_append, w_t1, ← List.take_append_drop 24 (words1.drop 24), List.all_append, w_t2, ← List.take_append_drop 24 ((words1.drop 24).drop 24), List.all_append, w_t3, ← List.take_append_drop 24 (((words1.drop 24).drop 24).drop 24), List.all_append, w_t4, w_t5]
  rfl
set_option maxRecDepth 65536 in
theorem w_rest : rest_1_c.before args0 about1 = true := by decide +kernel
set_option maxRecDepth 65536 in
theorem w_case : (Jvm.Cond.and given_1 narrow_1).before args0 about1 = true := by decide +kernel
set_option maxRecDepth 65536 in
theorem w_consts : constsHeld consts_1 about1 := Jvm.Lit.constsHeldB_iff.mp (by decide +kernel)
theorem w_applies : (headSpec (Jvm.Cond.code x code maxLocals ret :: tables_1) room_1).applies x e0.platform about1 = true :=
  (Spec.applies_iff w_frames).mpr ⟨w_running, w_runnable, w_alone, w_named, w_hears, w_ripe, w_room, w_tables⟩
theorem atStart : AtStart classFile x code maxLocals ret World_1 tables_1 room_1 Calls_1 rest_1 Pre_1 launch0 p0 e0 about1 theMethod args0 below0 :=
  ⟨lists_1, trivial, launch0.admits_env _ _ _, launch0.least_env, fairChoices_fair.cas, fairChoices_fair.clock, w_frames, w_args, w_heap, w_applies, ⟨w_consts, trivial⟩, w_rest, w_case⟩
end start1
theorem witness_1 : WitnessClaimed_1 := ⟨start1.p0, start1.e0, start1.about1, start1.theMethod, start1.args0, start1.below0, start1.atStart⟩
end Jvm.Pilot.@@N@@
