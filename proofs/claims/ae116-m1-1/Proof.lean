import JvmDerived
import JvmDerived.Pilot.@@N@@Statement
import JvmDerived.Pilot.@@N@@Code
set_option linter.unusedVariables false
set_option linter.unusedSimpArgs false
namespace Jvm.OwnW
open Sem ClassFile Op Lib Jvm.Stand Jvm.Free Jvm.LawKit Jvm.RoadKit
section A
variable {p : Program} {l : Launch} {e : Env} {R : Room} {s : State} {m : MethodId} {args : Array Value} {below : List Frame} {meth : Method} {c : Code} {T : State} {locs : List Loc} {cells slots : Nat} {Z : State} {a0 : Array Value} {h : Heap}
/-- the walk standing at T with the frame g comes to an end that says Q; F: the frame's word on that end -/
def Wp (p : Program) (e : Env) (below : List Frame) (Q : Option Value → State → List Loc → Prop) (F : Outcome → State → List Loc → Prop) (T : State) (g : JFrame) : Prop :=
  ∃ (t : State) (v : Option Value) (L : List Loc), Steps p.tables e below (T.setTop g) t ∧ t.status = .running ∧ Ended t below (.returned v) ∧ Q v t L ∧ F (.returned v) t L
variable {Q : Option Value → State → List Loc → Prop} {F : Outcome → State → List Loc → Prop}
theorem Wp.st {T' : State} {g g' : JFrame} (h : ∀ target, Steps p.tables e below (T'.setTop g') target → Steps p.tables e below (T.setTop g) target) (k : Wp p e below Q F T' g') : Wp p e below Q F T g := by
  obtain ⟨t, v, L, h1, h2⟩ := k
  exact ⟨t, v, L, h _ h1, h2⟩
theorem Wp.tr {T' : State} {g g' : JFrame} (h : Steps p.tables e below (T.setTop g) (T'.setTop g')) (k : Wp p e below Q F T' g') : Wp p e below Q F T g := Wp.st (fun _ q => h.trans q) k
abbrev NF (s : State) (C S : Nat) : Outcome → State → List Loc → Prop := fun o t L => FrameEnd s o t L C S
abbrev WF (s : State) (C S : Nat) : Outcome → State → List Loc → Prop := fun o t L => ReturnedEndW s o t L C S
/-- a body's contract: narrow -/
abbrev Ctr (l : Launch) (Z : State) (y : MethodName) (bytes : ByteArray) (maxL : Nat) (ret : Option FieldType) (ws : List Jvm.Cond) (rm : Room) (as' : Array Value) (h0 : Heap) (Q : Option Value → Heap → List Loc → Prop) : Prop :=
  MetFree l y (head1 (Jvm.Cond.code y bytes maxL ret :: ws) rm) (fun a U => a = as' ∧ Z.Warmed39 U.vm ∧ U.heap = h0) (fun _ _ _ _ _ => True) (fun _ U o U' => ∃ v L, o = .returned v ∧ Q v U'.heap L ∧ FrameEnd U o U' L rm.cells rm.slots)
theorem Ctr.intro {y : MethodName} {bytes : ByteArray} {maxL : Nat} {ret : Option FieldType} {ws : List Jvm.Cond} {rm : Room} {as' : Array Value} {h0 : Heap} {Q : Option Value → Heap → List Loc → Prop} {Ls : MethodId → Array Slot} (hn : plainFor y = true) (hef : ∀ m, entryFrame m as' maxL = mkF m 0 (Ls m) [])
    (body : ∀ (p : Program) (e : Env) (s : State) (m : MethodId) (below : List Frame) (meth : Method) (c : Code) (s₁ : State), p.tables.exec = Jvm.exec → c.code = bytes → c.maxLocals = maxL → meth.sig.returnType = ret → meth.locks = false → Z.Warmed39 s.vm → s.vm.findClass y.cls = some m.cls → meth.name = y.name → s.heap = h0 → Stand p l e rm s m as' below meth c s₁ [] 0 0 → s₁.heap = h0 →
      Wp p e below (fun v t L => Q v t.heap L) (NF s rm.cells rm.slots) s₁ (mkF m 0 (Ls m) [])) : Ctr l Z y bytes maxL ret ws rm as' h0 Q := by
  refine MetFree.of_bodySF hn hisR ?_
  intro p e s m args below meth c s₁ Bd hml0 hP hK
  obtain ⟨rfl, hZ, hh⟩ := hP
  obtain ⟨t, v, L, h1, h2, h3, h4, h5⟩ := body p e s m below meth c s₁ Bd.exec Bd.bytes hml0 Bd.returns Bd.notSynchronized hZ (findClass_of_methodNamed Bd.named) (name_of_methodNamed Bd.named Bd.method).1 hh (Stand.of_body Bd) (by rw [← hh, Bd.state]; rfl)
  exact ⟨t, _, castTop (hef m) h1, h2, h3, v, L, rfl, h4, h5⟩
/-- what pays a call -/
abbrev Pay (l : Launch) (R : Room) (p : Program) (e : Env) (below : List Frame) (s : State) (args : Array Value) (y : MethodName) (len W : Nat) (as' : Array Value) (h : Heap) (kc ks : Nat) (Q : Option Value → Heap → List Loc → Prop) : Prop :=
  Back l R p e below s args y len W (fun A a => a = as' ∧ A.U.heap = h ∧ A.cells + kc ≤ R.cells ∧ A.slots + ks ≤ R.slots) (fun A _ v B => ∃ L, Q v B.U.heap L ∧ B.locs = A.locs ++ L ∧ B.cells = A.cells + kc ∧ B.slots = A.slots + ks)
theorem more (X : Stand p l e R s m args below meth c T locs cells slots) {cells' slots' : Nat} (h1 : cells ≤ cells') (h2 : slots ≤ slots') : Stand p l e R s m args below meth c T locs cells' slots' := X.more h1 h2
theorem catR {v : Value} (h : v.isRef = true) : v.category = 1 := by cases v <;> first | rfl | (cases h; done)
/-- a char; a Latin-1 char -/
def Chr (z : Int32) : Prop := ¬ z < 0 ∧ ¬ (65535 : Int32) < z
def Lat (z : Int32) : Prop := ¬ z < 0 ∧ ¬ (255 : Int32) < z
theorem Lat.chr {z : Int32} (h : Lat z) : Chr z := ⟨h.1, fun q => h.2 (by rw [Int32.lt_iff_toInt_lt] at q ⊢; have e1 : (65535 : Int32).toInt = 65535 := rfl; have e2 : (255 : Int32).toInt = 255 := rfl; omega)⟩
theorem toInt_of_toNat {z : Int32} (h : z.toBitVec.toNat < 2147483648) : z.toInt = (z.toBitVec.toNat : Int) := by
  show z.toBitVec.toInt = _
  rw [BitVec.toInt_eq_toNat_cond, if_pos (by omega)]
theorem toNat_of_toInt {z : Int32} (h : 0 ≤ z.toInt) : z.toInt = (z.toBitVec.toNat : Int) ∧ z.toBitVec.toNat < 2147483648 := by
  have hl := z.toBitVec.isLt
  change 0 ≤ z.toBitVec.toInt at h
  show z.toBitVec.toInt = _ ∧ _
  rw [BitVec.toInt_eq_toNat_cond] at h ⊢
  split at h <;> rename_i q
  · rw [if_pos q]; exact ⟨rfl, by omega⟩
  · omega
theorem mask_rng (x m : Int32) (h : 0 ≤ m.toInt) : 0 ≤ (x &&& m).toInt ∧ (x &&& m).toInt ≤ m.toInt := by
  obtain ⟨e, hm⟩ := toNat_of_toInt h
  have q : (x &&& m).toBitVec.toNat ≤ m.toBitVec.toNat := by
    rw [Int32.toBitVec_and, BitVec.toNat_and]; exact Nat.and_le_right
  rw [toInt_of_toNat (Nat.lt_of_le_of_lt q hm), e]
  omega
theorem i2c_toInt (x : Int32) : (x.toUInt32.toUInt16.toUInt32.toInt32).toInt = ((x.toBitVec.toNat % 65536 : Nat) : Int) := by
  have e : (x.toUInt32.toUInt16.toUInt32.toInt32).toBitVec = (x.toBitVec.setWidth 16).setWidth 32 := rfl
  have e2 : (x.toUInt32.toUInt16.toUInt32.toInt32).toBitVec.toNat = x.toBitVec.toNat % 65536 := by
    rw [e, BitVec.toNat_setWidth, BitVec.toNat_setWidth]; omega
  rw [toInt_of_toNat (by rw [e2]; omega), e2]
theorem chr_i2c {v x : Int32} (h : v = x.toUInt32.toUInt16.toUInt32.toInt32) : Chr v := by subst h; exact rng_char (fits_nar_char x)
theorem Chr.rng {z : Int32} (h : Chr z) : 0 ≤ z.toInt ∧ z.toInt ≤ 65535 := by
  obtain ⟨h1, h2⟩ := h
  rw [Int32.lt_iff_toInt_lt] at h1 h2
  have e1 : (65535 : Int32).toInt = 65535 := rfl
  have e2 : (0 : Int32).toInt = 0 := rfl
  omega
theorem Lat.rng {z : Int32} (h : Lat z) : 0 ≤ z.toInt ∧ z.toInt ≤ 255 := by
  obtain ⟨h1, h2⟩ := h
  rw [Int32.lt_iff_toInt_lt] at h1 h2
  have e1 : (255 : Int32).toInt = 255 := rfl
  have e2 : (0 : Int32).toInt = 0 := rfl
  omega
theorem Lat.of {z : Int32} (h : 0 ≤ z.toInt ∧ z.toInt ≤ 255) : Lat z := by
  constructor <;> rw [Int32.lt_iff_toInt_lt]
  · have e2 : (0 : Int32).toInt = 0 := rfl
    omega
  · have e1 : (255 : Int32).toInt = 255 := rfl
    omega
theorem Chr.of {z : Int32} (h : 0 ≤ z.toInt ∧ z.toInt ≤ 65535) : Chr z := by
  constructor <;> rw [Int32.lt_iff_toInt_lt]
  · have e2 : (0 : Int32).toInt = 0 := rfl
    omega
  · have e1 : (65535 : Int32).toInt = 65535 := rfl
    omega
theorem i2c_id {z : Int32} (h : Chr z) : z.toUInt32.toUInt16.toUInt32.toInt32 = z := by
  obtain ⟨h1, h2⟩ := h.rng
  obtain ⟨e, q⟩ := toNat_of_toInt h1
  apply Int32.toInt_inj.mp
  rw [i2c_toInt, e]
  omega
theorem narC {z : Int32} (h : Chr z) : nar .char z = z := i2c_id h
theorem lat255 {v x : Int32} (h : v = (x &&& 255).toUInt32.toUInt16.toUInt32.toInt32) : Lat v := by
  have r := mask_rng x 255 (by decide)
  have e1 : (255 : Int32).toInt = 255 := rfl
  rw [i2c_id (Chr.of (by omega))] at h
  subst h
  exact Lat.of (by omega)
theorem eq255 {v x : Int32} (h : v = (x &&& 255).toUInt32.toUInt16.toUInt32.toInt32) : v = x &&& 255 := by
  have r := mask_rng x 255 (by decide)
  have e1 : (255 : Int32).toInt = 255 := rfl
  rw [i2c_id (Chr.of (by omega))] at h
  exact h
theorem latNil : ∀ c ∈ ([] : List Int32), ¬ c < 0 ∧ ¬ (255 : Int32) < c := fun _ q => nomatch q
theorem latCons {x : Int32} {L : List Int32} (h : Lat x) (k : ∀ c ∈ L, ¬ c < 0 ∧ ¬ (255 : Int32) < c) : ∀ c ∈ x :: L, ¬ c < 0 ∧ ¬ (255 : Int32) < c := fun c hc => (List.mem_cons.mp hc).elim (fun e => e ▸ h) (k c)
theorem chrAll {L : List Int32} (k : ∀ c ∈ L, ¬ c < 0 ∧ ¬ (255 : Int32) < c) : ∀ c ∈ L, ¬ c < 0 ∧ ¬ (65535 : Int32) < c := fun c hc => Lat.chr (k c hc)
theorem storeV {l l' : Array Slot} {i : Nat} {v : Value} {o : Slot} (hr : v.isRef = true) (hold : l[i]? = some o) (ho : One o) (e : l.setIfInBounds i (.val v) = l') : storeLocals l i v = some l' := e ▸ XS.store1 hold ho (catR hr)
theorem stoV {Z : State} {h : Heap} {a y : Addr} {k : ClassId} {ty : FieldType} {z : Int32} {vs : List Value} {dv : Value} {C : String} (A : Arv Z h a k ty z vs dv) (O : Ovr Z k C) (I : Ins Z h y C true) : Sto Z h a (.ref y) := by
  obtain ⟨c, Ar, q, -⟩ := A
  exact Sto.ofV Ar q O I
theorem fitR {ty : FieldType} {v : Value} (ht : ty.isReference = true) (hv : v.isRef = true) : fits ty v = true := by
  cases ty <;> first | (cases ht; done) | (cases v <;> first | rfl | (cases hv; done))
theorem narR {t : FieldType} {w : Value} (ht : t.isReference = true) : narrow t w = w := by cases t <;> first | rfl | (cases ht; done)
/-- every place written lies in an object of ws or in a new cell -/
def Fk (n : Nat) (ws : List Addr) (L : List Loc) : Prop := ∀ y ∈ L, y.base ∈ ws ∨ n ≤ y.base
theorem Fk.nil (n : Nat) (ws : List Addr) : Fk n ws [] := fun _ q => nomatch q
theorem Fk.snoc {n : Nat} {ws : List Addr} {L : List Loc} {a : Addr} {i : Nat} (N : Fk n ws L) (q : a ∈ ws ∨ n ≤ a) : Fk n ws (L ++ [⟨a, i⟩]) := fun y hy => (List.mem_append.mp hy).elim (N y) fun z => by cases List.mem_singleton.mp z; exact q
theorem Fk.app {n n' : Nat} {ws ws' : List Addr} {L L' : List Loc} (N : Fk n ws L) (N' : Fk n' ws' L') (hn : n ≤ n') (q : ∀ x ∈ ws', x ∈ ws ∨ n ≤ x) : Fk n ws (L ++ L') := fun y hy => (List.mem_append.mp hy).elim (N y) fun z => (N' y z).elim (q _) fun r => Or.inr (Nat.le_trans hn r)
theorem Fk.of_fr {n : Nat} {ws : List Addr} {L : List Loc} (N : Fr n L) : Fk n ws L := fun y hy => Or.inr (N y hy)
theorem Fk.fr {n : Nat} {L : List Loc} (N : Fk n [] L) : Fr n L := fun y hy => (N y hy).elim (fun z => nomatch z) id
theorem oldLe {Z : State} {n : Nat} {h : Heap} (O : Old Z n h) : n ≤ h.size := O.1 ▸ O.2.1
theorem NSr {Z : State} {a0 : Array Value} {O K : String} {n : Nat} (w : (Cond.noSuperclass O).before a0 Z = true) (wk : (Cond.instantiable K n).before a0 Z = true) (hn : O ≠ K) : NS Z O K := by
  obtain ⟨c, k, h1, h2, h3, -, -⟩ := Cond.noSuperclass_spec w
  obtain ⟨t, kt, g1, g2, -⟩ := Cond.instantiable_spec wk
  refine ⟨c, t, h1, g1, fun fuel => ?_⟩
  have ne := ids_ne h1 g1 hn
  cases fuel with
  | zero => rfl
  | succ f => simp [Vm.isSubclassAux, ne, h2, h3]
theorem NSno {Z : State} {a0 : Array Value} {C S K : String} {n : Nat} (w : (Cond.superclass C S).before a0 Z = true) (wk : (Cond.instantiable K n).before a0 Z = true) (N : NS Z C K) (hn : C ≠ K) : ∃ c t, Z.vm.findClass C = some c ∧ Z.vm.findClass K = some t ∧ Z.vm.assignable c t = false := by
  obtain ⟨c, t, h0, g0, n3⟩ := N
  obtain ⟨p, k, kp, h1, h2, h3, h4, h5, -, h7⟩ := Cond.superclass_spec h0 w
  obtain ⟨t', kt, g1, g2, g3, g4, -⟩ := Cond.instantiable_spec wk
  cases g0.symm.trans g1
  have ne := ids_ne h0 g0 hn
  have gi : kt.isInterface = false := by
    rw [Bool.or_eq_false_iff] at g4; exact g4.1
  refine ⟨c, t, h0, g0, ?_⟩
  show Z.vm.assignableAux (255 + 1) c t = false
  simp [Vm.assignableAux, ne, h2, g2, h5, g3, gi, Vm.isSubclass, n3]
theorem fieldI {args : Array Value} {s : State} {t : Term} {z : Int32} (h : (Cond.eq t (.int z)).value args s none s [] = some true) : t.eval args s none [] s = some (.int z) := by
  have q := Cond.eq_int (Cond.before_iff.mpr h) rfl
  exact q
theorem byteId (x : Int32) : nar .byte (x.toInt8.toInt32) = x.toInt8.toInt32 := by
  show (x.toInt8.toInt32).toInt8.toInt32 = _
  rw [Int8.toInt8_toInt32]
theorem fieldJ {args : Array Value} {s : State} {t : Term} {z : Int64} (h : (Cond.eq t (.long z)).value args s none s [] = some true) : t.eval args s none [] s = some (.long z) := by
  obtain ⟨x, y, hx, hy, hk, hv⟩ := cmp_v (Or.inl h)
  have ey : y = .long z := (Option.some.inj ((long_at z).symm.trans hy)).symm
  subst ey
  obtain ⟨w, rfl⟩ := hv
  have q := eq_L hx hy
  have r : (some (decide (w = z)) : Option Bool) = some true := q.symm.trans h
  have e : w = z := by simpa using r
  rw [hx, e]
theorem keepMore {h h' : Heap} {ws ws' : List Addr} (K : Keep h h' ws) (q : ∀ x ∈ ws, x ∈ ws') : Keep h h' ws' := ⟨K.1, fun x c hx hn => K.2.1 x c hx fun z => hn (q x z), K.2.2⟩
theorem mod3 {i : Int32} {x : Int32} (h : i = x % 3) (hx : 0 ≤ x.toInt) : i = 0 ∨ i = 1 ∨ i = 2 := by
  have r := (c_irem x 3 3 rfl).1 hx
  subst h
  have : (x % 3).toInt = 0 ∨ (x % 3).toInt = 1 ∨ (x % 3).toInt = 2 := by omega
  rcases this with q | q | q
  · exact Or.inl (Int32.toInt_inj.mp q)
  · exact Or.inr (Or.inl (Int32.toInt_inj.mp q))
  · exact Or.inr (Or.inr (Int32.toInt_inj.mp q))
end A
namespace Wk
section B
variable {p : Program} {l : Launch} {e : Env} {R : Room} {s : State} {m : MethodId} {args : Array Value} {below : List Frame} {meth : Method} {c : Code} {T : State} {locs : List Loc} {cells slots : Nat} {Z : State} {a0 : Array Value} {h : Heap} {Q : Option Value → State → List Loc → Prop} {F : Outcome → State → List Loc → Prop} {pc q : Nat} {Ls : Array Slot} {st : List Value}
theorem iload (X : Stand p l e R s m args below meth c T locs cells slots) (hx : p.tables.exec = Jvm.exec) {k : Nat} {v : Int32} (hd : decode c.code pc = .ok (.iload k, 2)) (hq : pc + 2 = q) (hl : Ls[k]? = some (.val (.int v))) (k : Wp p e below Q F T (mkF m q Ls ((.int v) :: st))) : Wp p e below Q F T (mkF m pc Ls st) := by
  subst hq
  exact Wp.st (fun _ z => XS.iload X.here hx rfl hd hl z) k
theorem iloadN (X : Stand p l e R s m args below meth c T locs cells slots) (hx : p.tables.exec = Jvm.exec) {k : Fin 4} {v : Int32} (hd : decode c.code pc = .ok (.iload_n k, 1)) (hq : pc + 1 = q) (hl : Ls[k.val]? = some (.val (.int v))) (k : Wp p e below Q F T (mkF m q Ls ((.int v) :: st))) : Wp p e below Q F T (mkF m pc Ls st) := by
  subst hq
  exact Wp.st (fun _ z => XS.iloadN X.here hx rfl hd hl z) k
theorem lload (X : Stand p l e R s m args below meth c T locs cells slots) (hx : p.tables.exec = Jvm.exec) {k : Nat} {v : Int64} (hd : decode c.code pc = .ok (.lload k, 2)) (hq : pc + 2 = q) (hl : Ls[k]? = some (.val (.long v))) (k : Wp p e below Q F T (mkF m q Ls ((.long v) :: st))) : Wp p e below Q F T (mkF m pc Ls st) := by
  subst hq
  exact Wp.st (fun _ z => XS.lload X.here hx rfl hd hl z) k
theorem lloadN (X : Stand p l e R s m args below meth c T locs cells slots) (hx : p.tables.exec = Jvm.exec) {k : Fin 4} {v : Int64} (hd : decode c.code pc = .ok (.lload_n k, 1)) (hq : pc + 1 = q) (hl : Ls[k.val]? = some (.val (.long v))) (k : Wp p e below Q F T (mkF m q Ls ((.long v) :: st))) : Wp p e below Q F T (mkF m pc Ls st) := by
  subst hq
  exact Wp.st (fun _ z => XS.lloadN X.here hx rfl hd hl z) k
theorem aload (X : Stand p l e R s m args below meth c T locs cells slots) (hx : p.tables.exec = Jvm.exec) {k : Nat} {v : Value} (hd : decode c.code pc = .ok (.aload k, 2)) (hq : pc + 2 = q) (hl : Ls[k]? = some (.val (v))) (hv : v.isRef = true) (k : Wp p e below Q F T (mkF m q Ls ((v) :: st))) : Wp p e below Q F T (mkF m pc Ls st) := by
  subst hq
  exact Wp.st (fun _ z => XS.aload X.here hx rfl hd hl hv z) k
theorem aloadN (X : Stand p l e R s m args below meth c T locs cells slots) (hx : p.tables.exec = Jvm.exec) {k : Fin 4} {v : Value} (hd : decode c.code pc = .ok (.aload_n k, 1)) (hq : pc + 1 = q) (hl : Ls[k.val]? = some (.val (v))) (hv : v.isRef = true) (k : Wp p e below Q F T (mkF m q Ls ((v) :: st))) : Wp p e below Q F T (mkF m pc Ls st) := by
  subst hq
  exact Wp.st (fun _ z => XS.aloadN X.here hx rfl hd hl hv z) k
theorem istore (X : Stand p l e R s m args below meth c T locs cells slots) (hx : p.tables.exec = Jvm.exec) {k : Nat} {v : Int32} {Ls' : Array Slot} (hd : decode c.code pc = .ok (.istore k, 2)) (hq : pc + 2 = q) (hl : storeLocals Ls k (.int v) = some Ls') (k : Wp p e below Q F T (mkF m q Ls' st)) : Wp p e below Q F T (mkF m pc Ls ((.int v) :: st)) := by
  subst hq
  exact Wp.st (fun _ z => XS.istore X.here hx rfl hd rfl hl z) k
theorem istoreN (X : Stand p l e R s m args below meth c T locs cells slots) (hx : p.tables.exec = Jvm.exec) {k : Fin 4} {v : Int32} {Ls' : Array Slot} (hd : decode c.code pc = .ok (.istore_n k, 1)) (hq : pc + 1 = q) (hl : storeLocals Ls k.val (.int v) = some Ls') (k : Wp p e below Q F T (mkF m q Ls' st)) : Wp p e below Q F T (mkF m pc Ls ((.int v) :: st)) := by
  subst hq
  exact Wp.st (fun _ z => XS.istoreN X.here hx rfl hd rfl hl z) k
theorem lstore (X : Stand p l e R s m args below meth c T locs cells slots) (hx : p.tables.exec = Jvm.exec) {k : Nat} {v : Int64} {Ls' : Array Slot} (hd : decode c.code pc = .ok (.lstore k, 2)) (hq : pc + 2 = q) (hl : storeLocals Ls k (.long v) = some Ls') (k : Wp p e below Q F T (mkF m q Ls' st)) : Wp p e below Q F T (mkF m pc Ls ((.long v) :: st)) := by
  subst hq
  exact Wp.st (fun _ z => XS.lstore X.here hx rfl hd rfl hl z) k
theorem lstoreN (X : Stand p l e R s m args below meth c T locs cells slots) (hx : p.tables.exec = Jvm.exec) {k : Fin 4} {v : Int64} {Ls' : Array Slot} (hd : decode c.code pc = .ok (.lstore_n k, 1)) (hq : pc + 1 = q) (hl : storeLocals Ls k.val (.long v) = some Ls') (k : Wp p e below Q F T (mkF m q Ls' st)) : Wp p e below Q F T (mkF m pc Ls ((.long v) :: st)) := by
  subst hq
  exact Wp.st (fun _ z => XS.lstoreN X.here hx rfl hd rfl hl z) k
theorem astore (X : Stand p l e R s m args below meth c T locs cells slots) (hx : p.tables.exec = Jvm.exec) {k : Nat} {v : Value} {Ls' : Array Slot} (hd : decode c.code pc = .ok (.astore k, 2)) (hq : pc + 2 = q) (hv : v.isRef = true) (hl : storeLocals Ls k (v) = some Ls') (k : Wp p e below Q F T (mkF m q Ls' st)) : Wp p e below Q F T (mkF m pc Ls ((v) :: st)) := by
  subst hq
  exact Wp.st (fun _ z => XS.astore X.here hx rfl hd rfl hv hl z) k
theorem astoreN (X : Stand p l e R s m args below meth c T locs cells slots) (hx : p.tables.exec = Jvm.exec) {k : Fin 4} {v : Value} {Ls' : Array Slot} (hd : decode c.code pc = .ok (.astore_n k, 1)) (hq : pc + 1 = q) (hv : v.isRef = true) (hl : storeLocals Ls k.val (v) = some Ls') (k : Wp p e below Q F T (mkF m q Ls' st)) : Wp p e below Q F T (mkF m pc Ls ((v) :: st)) := by
  subst hq
  exact Wp.st (fun _ z => XS.astoreN X.here hx rfl hd rfl hv hl z) k
theorem istoreA (X : Stand p l e R s m args below meth c T locs cells slots) (hx : p.tables.exec = Jvm.exec) {k : Nat} {v : Int32} {Ls' : Int32 → Array Slot} (hd : decode c.code pc = .ok (.istore k, 2)) (hq : pc + 2 = q) (hl : ∀ v : Int32, storeLocals Ls k (.int v) = some (Ls' v)) (k : ∀ z : Int32, z = v → Wp p e below Q F T (mkF m q (Ls' z) st)) : Wp p e below Q F T (mkF m pc Ls ((.int v) :: st)) := by
  subst hq
  exact Wp.st (fun _ z => XS.istore X.here hx rfl hd rfl (hl _) z) (k _ rfl)
theorem istoreNA (X : Stand p l e R s m args below meth c T locs cells slots) (hx : p.tables.exec = Jvm.exec) {k : Fin 4} {v : Int32} {Ls' : Int32 → Array Slot} (hd : decode c.code pc = .ok (.istore_n k, 1)) (hq : pc + 1 = q) (hl : ∀ v : Int32, storeLocals Ls k.val (.int v) = some (Ls' v)) (k : ∀ z : Int32, z = v → Wp p e below Q F T (mkF m q (Ls' z) st)) : Wp p e below Q F T (mkF m pc Ls ((.int v) :: st)) := by
  subst hq
  exact Wp.st (fun _ z => XS.istoreN X.here hx rfl hd rfl (hl _) z) (k _ rfl)
theorem lstoreA (X : Stand p l e R s m args below meth c T locs cells slots) (hx : p.tables.exec = Jvm.exec) {k : Nat} {v : Int64} {Ls' : Int64 → Array Slot} (hd : decode c.code pc = .ok (.lstore k, 2)) (hq : pc + 2 = q) (hl : ∀ v : Int64, storeLocals Ls k (.long v) = some (Ls' v)) (k : ∀ z : Int64, z = v → Wp p e below Q F T (mkF m q (Ls' z) st)) : Wp p e below Q F T (mkF m pc Ls ((.long v) :: st)) := by
  subst hq
  exact Wp.st (fun _ z => XS.lstore X.here hx rfl hd rfl (hl _) z) (k _ rfl)
theorem lstoreNA (X : Stand p l e R s m args below meth c T locs cells slots) (hx : p.tables.exec = Jvm.exec) {k : Fin 4} {v : Int64} {Ls' : Int64 → Array Slot} (hd : decode c.code pc = .ok (.lstore_n k, 1)) (hq : pc + 1 = q) (hl : ∀ v : Int64, storeLocals Ls k.val (.long v) = some (Ls' v)) (k : ∀ z : Int64, z = v → Wp p e below Q F T (mkF m q (Ls' z) st)) : Wp p e below Q F T (mkF m pc Ls ((.long v) :: st)) := by
  subst hq
  exact Wp.st (fun _ z => XS.lstoreN X.here hx rfl hd rfl (hl _) z) (k _ rfl)
theorem iconst (X : Stand p l e R s m args below meth c T locs cells slots) (hx : p.tables.exec = Jvm.exec) {i : Int} {v : Int32} (hd : decode c.code pc = .ok (.iconst i, 1)) (hq : pc + 1 = q) (hv : Int32.ofInt i = v) (k : Wp p e below Q F T (mkF m q Ls (.int v :: st))) : Wp p e below Q F T (mkF m pc Ls st) := by
  subst hq
  exact Wp.st (fun _ z => by subst hv; exact XS.iconst X.here hx rfl hd z) k
theorem bipush (X : Stand p l e R s m args below meth c T locs cells slots) (hx : p.tables.exec = Jvm.exec) {i : Int} {v : Int32} (hd : decode c.code pc = .ok (.bipush i, 2)) (hq : pc + 2 = q) (hv : (Int8.ofInt i).toInt32 = v) (k : Wp p e below Q F T (mkF m q Ls (.int v :: st))) : Wp p e below Q F T (mkF m pc Ls st) := by
  subst hq
  exact Wp.st (fun _ z => by subst hv; exact XS.bipush X.here hx rfl hd z) k
theorem sipush (X : Stand p l e R s m args below meth c T locs cells slots) (hx : p.tables.exec = Jvm.exec) {i : Int} {v : Int32} (hd : decode c.code pc = .ok (.sipush i, 3)) (hq : pc + 3 = q) (hv : (Int16.ofInt i).toInt32 = v) (k : Wp p e below Q F T (mkF m q Ls (.int v :: st))) : Wp p e below Q F T (mkF m pc Ls st) := by
  subst hq
  exact Wp.st (fun _ z => by subst hv; exact XS.sipush X.here hx rfl hd z) k
theorem aconstNull (X : Stand p l e R s m args below meth c T locs cells slots) (hx : p.tables.exec = Jvm.exec)  (hd : decode c.code pc = .ok (.aconst_null, 1)) (hq : pc + 1 = q) (k : Wp p e below Q F T (mkF m q Ls (.null :: st))) : Wp p e below Q F T (mkF m pc Ls st) := by
  subst hq
  exact Wp.st (fun _ z => XS.aconstNull X.here hx rfl hd z) k
theorem iadd (X : Stand p l e R s m args below meth c T locs cells slots) (hx : p.tables.exec = Jvm.exec) {x y : Int32} (hd : decode c.code pc = .ok (.iadd, 1)) (hq : pc + 1 = q) (k : Wp p e below Q F T (mkF m q Ls (.int (x + y) :: st))) : Wp p e below Q F T (mkF m pc Ls (.int y :: .int x :: st)) := by
  subst hq
  exact Wp.st (fun _ z => XS.iadd X.here hx rfl hd rfl z) k
theorem isub (X : Stand p l e R s m args below meth c T locs cells slots) (hx : p.tables.exec = Jvm.exec) {x y : Int32} (hd : decode c.code pc = .ok (.isub, 1)) (hq : pc + 1 = q) (k : Wp p e below Q F T (mkF m q Ls (.int (x - y) :: st))) : Wp p e below Q F T (mkF m pc Ls (.int y :: .int x :: st)) := by
  subst hq
  exact Wp.st (fun _ z => XS.isub X.here hx rfl hd rfl z) k
theorem imul (X : Stand p l e R s m args below meth c T locs cells slots) (hx : p.tables.exec = Jvm.exec) {x y : Int32} (hd : decode c.code pc = .ok (.imul, 1)) (hq : pc + 1 = q) (k : Wp p e below Q F T (mkF m q Ls (.int (x * y) :: st))) : Wp p e below Q F T (mkF m pc Ls (.int y :: .int x :: st)) := by
  subst hq
  exact Wp.st (fun _ z => XS.imul X.here hx rfl hd rfl z) k
theorem iand (X : Stand p l e R s m args below meth c T locs cells slots) (hx : p.tables.exec = Jvm.exec) {x y : Int32} (hd : decode c.code pc = .ok (.iand, 1)) (hq : pc + 1 = q) (k : Wp p e below Q F T (mkF m q Ls (.int (x &&& y) :: st))) : Wp p e below Q F T (mkF m pc Ls (.int y :: .int x :: st)) := by
  subst hq
  exact Wp.st (fun _ z => XS.iand X.here hx rfl hd rfl z) k
theorem ior (X : Stand p l e R s m args below meth c T locs cells slots) (hx : p.tables.exec = Jvm.exec) {x y : Int32} (hd : decode c.code pc = .ok (.ior, 1)) (hq : pc + 1 = q) (k : Wp p e below Q F T (mkF m q Ls (.int (x ||| y) :: st))) : Wp p e below Q F T (mkF m pc Ls (.int y :: .int x :: st)) := by
  subst hq
  exact Wp.st (fun _ z => XS.ior X.here hx rfl hd rfl z) k
theorem ixor (X : Stand p l e R s m args below meth c T locs cells slots) (hx : p.tables.exec = Jvm.exec) {x y : Int32} (hd : decode c.code pc = .ok (.ixor, 1)) (hq : pc + 1 = q) (k : Wp p e below Q F T (mkF m q Ls (.int (x ^^^ y) :: st))) : Wp p e below Q F T (mkF m pc Ls (.int y :: .int x :: st)) := by
  subst hq
  exact Wp.st (fun _ z => XS.ixor X.here hx rfl hd rfl z) k
theorem ladd (X : Stand p l e R s m args below meth c T locs cells slots) (hx : p.tables.exec = Jvm.exec) {x y : Int64} (hd : decode c.code pc = .ok (.ladd, 1)) (hq : pc + 1 = q) (k : Wp p e below Q F T (mkF m q Ls (.long (x + y) :: st))) : Wp p e below Q F T (mkF m pc Ls (.long y :: .long x :: st)) := by
  subst hq
  exact Wp.st (fun _ z => XS.ladd X.here hx rfl hd rfl z) k
theorem lsub (X : Stand p l e R s m args below meth c T locs cells slots) (hx : p.tables.exec = Jvm.exec) {x y : Int64} (hd : decode c.code pc = .ok (.lsub, 1)) (hq : pc + 1 = q) (k : Wp p e below Q F T (mkF m q Ls (.long (x - y) :: st))) : Wp p e below Q F T (mkF m pc Ls (.long y :: .long x :: st)) := by
  subst hq
  exact Wp.st (fun _ z => XS.lsub X.here hx rfl hd rfl z) k
theorem lmul (X : Stand p l e R s m args below meth c T locs cells slots) (hx : p.tables.exec = Jvm.exec) {x y : Int64} (hd : decode c.code pc = .ok (.lmul, 1)) (hq : pc + 1 = q) (k : Wp p e below Q F T (mkF m q Ls (.long (x * y) :: st))) : Wp p e below Q F T (mkF m pc Ls (.long y :: .long x :: st)) := by
  subst hq
  exact Wp.st (fun _ z => XS.lmul X.here hx rfl hd rfl z) k
theorem land (X : Stand p l e R s m args below meth c T locs cells slots) (hx : p.tables.exec = Jvm.exec) {x y : Int64} (hd : decode c.code pc = .ok (.land, 1)) (hq : pc + 1 = q) (k : Wp p e below Q F T (mkF m q Ls (.long (x &&& y) :: st))) : Wp p e below Q F T (mkF m pc Ls (.long y :: .long x :: st)) := by
  subst hq
  exact Wp.st (fun _ z => XS.land X.here hx rfl hd rfl z) k
theorem lor (X : Stand p l e R s m args below meth c T locs cells slots) (hx : p.tables.exec = Jvm.exec) {x y : Int64} (hd : decode c.code pc = .ok (.lor, 1)) (hq : pc + 1 = q) (k : Wp p e below Q F T (mkF m q Ls (.long (x ||| y) :: st))) : Wp p e below Q F T (mkF m pc Ls (.long y :: .long x :: st)) := by
  subst hq
  exact Wp.st (fun _ z => XS.lor X.here hx rfl hd rfl z) k
theorem lxor (X : Stand p l e R s m args below meth c T locs cells slots) (hx : p.tables.exec = Jvm.exec) {x y : Int64} (hd : decode c.code pc = .ok (.lxor, 1)) (hq : pc + 1 = q) (k : Wp p e below Q F T (mkF m q Ls (.long (x ^^^ y) :: st))) : Wp p e below Q F T (mkF m pc Ls (.long y :: .long x :: st)) := by
  subst hq
  exact Wp.st (fun _ z => XS.lxor X.here hx rfl hd rfl z) k
theorem ishl (X : Stand p l e R s m args below meth c T locs cells slots) (hx : p.tables.exec = Jvm.exec) {x y : Int32} (hd : decode c.code pc = .ok (.ishl, 1)) (hq : pc + 1 = q) (k : Wp p e below Q F T (mkF m q Ls (.int (x <<< (y &&& 31)) :: st))) : Wp p e below Q F T (mkF m pc Ls (.int y :: .int x :: st)) := by
  subst hq
  exact Wp.st (fun _ z => XS.ishl X.here hx rfl hd rfl z) k
theorem ishr (X : Stand p l e R s m args below meth c T locs cells slots) (hx : p.tables.exec = Jvm.exec) {x y : Int32} (hd : decode c.code pc = .ok (.ishr, 1)) (hq : pc + 1 = q) (k : Wp p e below Q F T (mkF m q Ls (.int (x >>> (y &&& 31)) :: st))) : Wp p e below Q F T (mkF m pc Ls (.int y :: .int x :: st)) := by
  subst hq
  exact Wp.st (fun _ z => XS.ishr X.here hx rfl hd rfl z) k
theorem iushr (X : Stand p l e R s m args below meth c T locs cells slots) (hx : p.tables.exec = Jvm.exec) {x y : Int32} (hd : decode c.code pc = .ok (.iushr, 1)) (hq : pc + 1 = q) (k : Wp p e below Q F T (mkF m q Ls (.int ((x.toUInt32 >>> (y &&& 31).toUInt32).toInt32) :: st))) : Wp p e below Q F T (mkF m pc Ls (.int y :: .int x :: st)) := by
  subst hq
  exact Wp.st (fun _ z => XS.iushr X.here hx rfl hd rfl z) k
theorem lshl (X : Stand p l e R s m args below meth c T locs cells slots) (hx : p.tables.exec = Jvm.exec) {x : Int64} {y : Int32} (hd : decode c.code pc = .ok (.lshl, 1)) (hq : pc + 1 = q) (k : Wp p e below Q F T (mkF m q Ls (.long (x <<< (y &&& 0x3f).toInt64) :: st))) : Wp p e below Q F T (mkF m pc Ls (.int y :: .long x :: st)) := by
  subst hq
  exact Wp.st (fun _ z => XS.lshl X.here hx rfl hd rfl z) k
theorem lshr (X : Stand p l e R s m args below meth c T locs cells slots) (hx : p.tables.exec = Jvm.exec) {x : Int64} {y : Int32} (hd : decode c.code pc = .ok (.lshr, 1)) (hq : pc + 1 = q) (k : Wp p e below Q F T (mkF m q Ls (.long (x >>> (y &&& 0x3f).toInt64) :: st))) : Wp p e below Q F T (mkF m pc Ls (.int y :: .long x :: st)) := by
  subst hq
  exact Wp.st (fun _ z => XS.lshr X.here hx rfl hd rfl z) k
theorem lushr (X : Stand p l e R s m args below meth c T locs cells slots) (hx : p.tables.exec = Jvm.exec) {x : Int64} {y : Int32} (hd : decode c.code pc = .ok (.lushr, 1)) (hq : pc + 1 = q) (k : Wp p e below Q F T (mkF m q Ls (.long ((x.toUInt64 >>> (y &&& 0x3f).toInt64.toUInt64).toInt64) :: st))) : Wp p e below Q F T (mkF m pc Ls (.int y :: .long x :: st)) := by
  subst hq
  exact Wp.st (fun _ z => XS.lushr X.here hx rfl hd rfl z) k
theorem idiv (X : Stand p l e R s m args below meth c T locs cells slots) (hx : p.tables.exec = Jvm.exec) {x y : Int32} (hd : decode c.code pc = .ok (.idiv, 1)) (hq : pc + 1 = q) (hy : y ≠ 0) (k : Wp p e below Q F T (mkF m q Ls (.int (x / y) :: st))) : Wp p e below Q F T (mkF m pc Ls (.int y :: .int x :: st)) := by
  subst hq
  exact Wp.st (fun _ z => XS.idiv X.here hx rfl hd rfl hy z) k
theorem irem (X : Stand p l e R s m args below meth c T locs cells slots) (hx : p.tables.exec = Jvm.exec) {x y : Int32} (hd : decode c.code pc = .ok (.irem, 1)) (hq : pc + 1 = q) (hy : y ≠ 0) (k : Wp p e below Q F T (mkF m q Ls (.int (x % y) :: st))) : Wp p e below Q F T (mkF m pc Ls (.int y :: .int x :: st)) := by
  subst hq
  exact Wp.st (fun _ z => iremM X hx rfl hd rfl hy z) k
theorem ldiv (X : Stand p l e R s m args below meth c T locs cells slots) (hx : p.tables.exec = Jvm.exec) {x y : Int64} (hd : decode c.code pc = .ok (.ldiv, 1)) (hq : pc + 1 = q) (hy : y ≠ 0) (k : Wp p e below Q F T (mkF m q Ls (.long (x / y) :: st))) : Wp p e below Q F T (mkF m pc Ls (.long y :: .long x :: st)) := by
  subst hq
  exact Wp.st (fun _ z => XS.ldiv X.here hx rfl hd rfl hy z) k
theorem lrem (X : Stand p l e R s m args below meth c T locs cells slots) (hx : p.tables.exec = Jvm.exec) {x y : Int64} (hd : decode c.code pc = .ok (.lrem, 1)) (hq : pc + 1 = q) (hy : y ≠ 0) (k : Wp p e below Q F T (mkF m q Ls (.long (x - (x / y) * y) :: st))) : Wp p e below Q F T (mkF m pc Ls (.long y :: .long x :: st)) := by
  subst hq
  exact Wp.st (fun _ z => XS.lrem X.here hx rfl hd rfl hy z) k
theorem ineg (X : Stand p l e R s m args below meth c T locs cells slots) (hx : p.tables.exec = Jvm.exec) {x : Int32} (hd : decode c.code pc = .ok (.ineg, 1)) (hq : pc + 1 = q) (k : Wp p e below Q F T (mkF m q Ls (.int (-x) :: st))) : Wp p e below Q F T (mkF m pc Ls (.int x :: st)) := by
  subst hq
  exact Wp.st (fun _ z => XS.ineg X.here hx rfl hd rfl z) k
theorem lneg (X : Stand p l e R s m args below meth c T locs cells slots) (hx : p.tables.exec = Jvm.exec) {x : Int64} (hd : decode c.code pc = .ok (.lneg, 1)) (hq : pc + 1 = q) (k : Wp p e below Q F T (mkF m q Ls (.long (-x) :: st))) : Wp p e below Q F T (mkF m pc Ls (.long x :: st)) := by
  subst hq
  exact Wp.st (fun _ z => XS.lneg X.here hx rfl hd rfl z) k
theorem i2l (X : Stand p l e R s m args below meth c T locs cells slots) (hx : p.tables.exec = Jvm.exec) {x : Int32} (hd : decode c.code pc = .ok (.i2l, 1)) (hq : pc + 1 = q) (k : Wp p e below Q F T (mkF m q Ls (.long x.toInt64 :: st))) : Wp p e below Q F T (mkF m pc Ls (.int x :: st)) := by
  subst hq
  exact Wp.st (fun _ z => XS.i2l X.here hx rfl hd rfl z) k
theorem l2i (X : Stand p l e R s m args below meth c T locs cells slots) (hx : p.tables.exec = Jvm.exec) {x : Int64} (hd : decode c.code pc = .ok (.l2i, 1)) (hq : pc + 1 = q) (k : Wp p e below Q F T (mkF m q Ls (.int x.toInt32 :: st))) : Wp p e below Q F T (mkF m pc Ls (.long x :: st)) := by
  subst hq
  exact Wp.st (fun _ z => XS.l2i X.here hx rfl hd rfl z) k
theorem i2b (X : Stand p l e R s m args below meth c T locs cells slots) (hx : p.tables.exec = Jvm.exec) {x : Int32} (hd : decode c.code pc = .ok (.i2b, 1)) (hq : pc + 1 = q) (k : ∀ v : Int32, v = x.toInt8.toInt32 → Wp p e below Q F T (mkF m q Ls (.int v :: st))) : Wp p e below Q F T (mkF m pc Ls (.int x :: st)) := by
  subst hq
  exact Wp.st (fun _ z => XS.i2b X.here hx rfl hd rfl z) (k _ rfl)
theorem i2c (X : Stand p l e R s m args below meth c T locs cells slots) (hx : p.tables.exec = Jvm.exec) {x : Int32} (hd : decode c.code pc = .ok (.i2c, 1)) (hq : pc + 1 = q) (k : ∀ v : Int32, v = x.toUInt32.toUInt16.toUInt32.toInt32 → Wp p e below Q F T (mkF m q Ls (.int v :: st))) : Wp p e below Q F T (mkF m pc Ls (.int x :: st)) := by
  subst hq
  exact Wp.st (fun _ z => XS.i2c X.here hx rfl hd rfl z) (k _ rfl)
theorem i2s (X : Stand p l e R s m args below meth c T locs cells slots) (hx : p.tables.exec = Jvm.exec) {x : Int32} (hd : decode c.code pc = .ok (.i2s, 1)) (hq : pc + 1 = q) (k : ∀ v : Int32, v = x.toInt16.toInt32 → Wp p e below Q F T (mkF m q Ls (.int v :: st))) : Wp p e below Q F T (mkF m pc Ls (.int x :: st)) := by
  subst hq
  exact Wp.st (fun _ z => XS.i2s X.here hx rfl hd rfl z) (k _ rfl)
theorem lconst (X : Stand p l e R s m args below meth c T locs cells slots) (hx : p.tables.exec = Jvm.exec) {k : Fin 2} {v : Int64} (hd : decode c.code pc = .ok (.lconst k, 1)) (hq : pc + 1 = q) (hv : Int64.ofNat k = v) (k : Wp p e below Q F T (mkF m q Ls (.long v :: st))) : Wp p e below Q F T (mkF m pc Ls st) := by
  subst hq
  exact Wp.st (fun _ z => by subst hv; exact XS.lconst X.here hx rfl hd z) k
theorem lcmp (X : Stand p l e R s m args below meth c T locs cells slots) (hx : p.tables.exec = Jvm.exec) {x y : Int64} (hd : decode c.code pc = .ok (.lcmp, 1)) (hq : pc + 1 = q) (k : Wp p e below Q F T (mkF m q Ls (.int (lcmpW x y) :: st))) : Wp p e below Q F T (mkF m pc Ls (.long y :: .long x :: st)) := by
  subst hq
  exact Wp.st (fun _ z => XS.lcmp X.here hx rfl hd rfl z) k
theorem dup (X : Stand p l e R s m args below meth c T locs cells slots) (hx : p.tables.exec = Jvm.exec) {x : Value} (hd : decode c.code pc = .ok (.dup, 1)) (hq : pc + 1 = q) (hc : x.category = 1) (k : Wp p e below Q F T (mkF m q Ls (x :: x :: st))) : Wp p e below Q F T (mkF m pc Ls (x :: st)) := by
  subst hq
  exact Wp.st (fun _ z => XS.dup X.here hx rfl hd rfl hc z) k
theorem pop (X : Stand p l e R s m args below meth c T locs cells slots) (hx : p.tables.exec = Jvm.exec) {x : Value} (hd : decode c.code pc = .ok (.pop, 1)) (hq : pc + 1 = q) (hc : x.category = 1) (k : Wp p e below Q F T (mkF m q Ls st)) : Wp p e below Q F T (mkF m pc Ls (x :: st)) := by
  subst hq
  exact Wp.st (fun _ z => XS.pop X.here hx rfl hd rfl hc z) k
theorem dupX1 (X : Stand p l e R s m args below meth c T locs cells slots) (hx : p.tables.exec = Jvm.exec) {x y : Value} (hd : decode c.code pc = .ok (.dup_x1, 1)) (hq : pc + 1 = q) (hc : x.category = 1) (hc' : y.category = 1) (k : Wp p e below Q F T (mkF m q Ls (x :: y :: x :: st))) : Wp p e below Q F T (mkF m pc Ls (x :: y :: st)) := by
  subst hq
  exact Wp.st (fun _ z => XS.dupX1 X.here hx rfl hd rfl hc hc' z) k
theorem dup2 (X : Stand p l e R s m args below meth c T locs cells slots) (hx : p.tables.exec = Jvm.exec) {x y : Value} (hd : decode c.code pc = .ok (.dup2, 1)) (hq : pc + 1 = q) (hc : x.category = 1) (hc' : y.category = 1) (k : Wp p e below Q F T (mkF m q Ls (x :: y :: x :: y :: st))) : Wp p e below Q F T (mkF m pc Ls (x :: y :: st)) := by
  subst hq
  exact Wp.st (fun _ z => Jvm.Free.XT.dup2 X.here hx rfl hd rfl hc hc' z) k
theorem dup2L (X : Stand p l e R s m args below meth c T locs cells slots) (hx : p.tables.exec = Jvm.exec) {x : Int64} (hd : decode c.code pc = .ok (.dup2, 1)) (hq : pc + 1 = q) (k : Wp p e below Q F T (mkF m q Ls (.long x :: .long x :: st))) : Wp p e below Q F T (mkF m pc Ls (.long x :: st)) := by
  subst hq
  exact Wp.st (fun _ z => Jvm.Free.XT.dup2L X.here hx rfl hd rfl z) k
theorem iinc (X : Stand p l e R s m args below meth c T locs cells slots) (hx : p.tables.exec = Jvm.exec) {k : Nat} {cst : Int} {v : Int32} {Ls' : Array Slot} (hd : decode c.code pc = .ok (.iinc k cst, 3)) (hq : pc + 3 = q) (hl : Ls[k]? = some (.val (.int v))) (hl' : storeLocals Ls k (.int (v + Int32.ofInt cst)) = some Ls') (k : Wp p e below Q F T (mkF m q Ls' st)) : Wp p e below Q F T (mkF m pc Ls st) := by
  subst hq
  exact Wp.st (fun _ z => XS.iinc X.here hx rfl hd hl hl' z) k
theorem goto (X : Stand p l e R s m args below meth c T locs cells slots) (hx : p.tables.exec = Jvm.exec) {o : Int}  (hd : decode c.code pc = .ok (.goto o, 3)) (ho : 0 ≤ (pc : Int) + o) (hq : ((pc : Int) + o).toNat = q) (k : Wp p e below Q F T (mkF m q Ls st)) : Wp p e below Q F T (mkF m pc Ls st) := Wp.st (fun _ z => XS.goto X.here hx rfl rfl hd ho hq z) k
theorem ifYes (X : Stand p l e R s m args below meth c T locs cells slots) (hx : p.tables.exec = Jvm.exec) {o : Int} {cd : ClassFile.Cond} {x : Int32} (hd : decode c.code pc = .ok (.ifCond cd o, 3)) (ho : 0 ≤ (pc : Int) + o) (hq : ((pc : Int) + o).toNat = q) (hc : ifCond.holds cd x = true) (k : Wp p e below Q F T (mkF m q Ls st)) : Wp p e below Q F T (mkF m pc Ls (.int x :: st)) := Wp.st (fun _ z => XS.ifYes X.here hx rfl rfl hd rfl hc ho hq z) k
theorem icmpYes (X : Stand p l e R s m args below meth c T locs cells slots) (hx : p.tables.exec = Jvm.exec) {o : Int} {cd : ClassFile.Cond} {x y : Int32} (hd : decode c.code pc = .ok (.if_icmp cd o, 3)) (ho : 0 ≤ (pc : Int) + o) (hq : ((pc : Int) + o).toNat = q) (hc : if_icmp.holds cd x y = true) (k : Wp p e below Q F T (mkF m q Ls st)) : Wp p e below Q F T (mkF m pc Ls (.int y :: .int x :: st)) := Wp.st (fun _ z => XS.icmpYes X.here hx rfl rfl hd rfl hc ho hq z) k
theorem ifnullYes (X : Stand p l e R s m args below meth c T locs cells slots) (hx : p.tables.exec = Jvm.exec) {o : Int}  (hd : decode c.code pc = .ok (.ifnull o, 3)) (ho : 0 ≤ (pc : Int) + o) (hq : ((pc : Int) + o).toNat = q) (k : Wp p e below Q F T (mkF m q Ls st)) : Wp p e below Q F T (mkF m pc Ls (.null :: st)) := Wp.st (fun _ z => XS.ifnullYes X.here hx rfl rfl hd rfl ho hq z) k
theorem ifnonnullYes (X : Stand p l e R s m args below meth c T locs cells slots) (hx : p.tables.exec = Jvm.exec) {o : Int} {b : Addr} (hd : decode c.code pc = .ok (.ifnonnull o, 3)) (ho : 0 ≤ (pc : Int) + o) (hq : ((pc : Int) + o).toNat = q) (k : Wp p e below Q F T (mkF m q Ls st)) : Wp p e below Q F T (mkF m pc Ls (.ref b :: st)) := Wp.st (fun _ z => XS.ifnonnullYes X.here hx rfl rfl hd rfl ho hq z) k
theorem ifNo (X : Stand p l e R s m args below meth c T locs cells slots) (hx : p.tables.exec = Jvm.exec) {cd : ClassFile.Cond} {o : Int} {x : Int32} (hd : decode c.code pc = .ok (.ifCond cd o, 3)) (hq : pc + 3 = q) (hc : ifCond.holds cd x = false) (k : Wp p e below Q F T (mkF m q Ls st)) : Wp p e below Q F T (mkF m pc Ls (.int x :: st)) := by
  subst hq
  exact Wp.st (fun _ z => XS.ifNo X.here hx rfl hd rfl hc z) k
theorem icmpNo (X : Stand p l e R s m args below meth c T locs cells slots) (hx : p.tables.exec = Jvm.exec) {cd : ClassFile.Cond} {o : Int} {x y : Int32} (hd : decode c.code pc = .ok (.if_icmp cd o, 3)) (hq : pc + 3 = q) (hc : if_icmp.holds cd x y = false) (k : Wp p e below Q F T (mkF m q Ls st)) : Wp p e below Q F T (mkF m pc Ls (.int y :: .int x :: st)) := by
  subst hq
  exact Wp.st (fun _ z => XS.icmpNo X.here hx rfl hd rfl hc z) k
theorem ifnullNo (X : Stand p l e R s m args below meth c T locs cells slots) (hx : p.tables.exec = Jvm.exec) {o : Int} {b : Addr} (hd : decode c.code pc = .ok (.ifnull o, 3)) (hq : pc + 3 = q) (k : Wp p e below Q F T (mkF m q Ls st)) : Wp p e below Q F T (mkF m pc Ls (.ref b :: st)) := by
  subst hq
  exact Wp.st (fun _ z => XS.ifnullNo X.here hx rfl hd rfl z) k
theorem ifnonnullNo (X : Stand p l e R s m args below meth c T locs cells slots) (hx : p.tables.exec = Jvm.exec) {o : Int} (hd : decode c.code pc = .ok (.ifnonnull o, 3)) (hq : pc + 3 = q) (k : Wp p e below Q F T (mkF m q Ls st)) : Wp p e below Q F T (mkF m pc Ls (.null :: st)) := by
  subst hq
  exact Wp.st (fun _ z => XS.ifnonnullNo X.here hx rfl hd rfl z) k
theorem acmpEq (X : Stand p l e R s m args below meth c T locs cells slots) (hx : p.tables.exec = Jvm.exec) {cd : ACond} {x y : Value} {o : Int} (hd : decode c.code pc = .ok (.if_acmp cd o, 3)) (h1 : x.isRef = true) (h2 : y.isRef = true) (he : x = y) (ho : 0 ≤ (pc : Int) + o) (hq : q = if acV cd true = true then ((pc : Int) + o).toNat else pc + 3) (k : Wp p e below Q F T (mkF m q Ls st)) : Wp p e below Q F T (mkF m pc Ls (y :: x :: st)) :=
  Wp.st (fun _ z => Jvm.RoadKit.acmp (same := true) X hx rfl h1 h2 rfl hd rfl (decide_eq_true he) ho hq z) k
theorem acmpNe (X : Stand p l e R s m args below meth c T locs cells slots) (hx : p.tables.exec = Jvm.exec) {cd : ACond} {x y : Value} {o : Int} (hd : decode c.code pc = .ok (.if_acmp cd o, 3)) (h1 : x.isRef = true) (h2 : y.isRef = true) (he : ¬ x = y) (ho : 0 ≤ (pc : Int) + o) (hq : q = if acV cd false = true then ((pc : Int) + o).toNat else pc + 3) (k : Wp p e below Q F T (mkF m q Ls st)) : Wp p e below Q F T (mkF m pc Ls (y :: x :: st)) :=
  Wp.st (fun _ z => Jvm.RoadKit.acmp (same := false) X hx rfl h1 h2 rfl hd rfl (decide_eq_false he) ho hq z) k
theorem new (X : Stand p l e R s m args below meth c T locs cells slots) (hx : p.tables.exec = Jvm.exec) (hZ : Z.Warmed39 s.vm) {own C : String} {index n : Nat} (hown : s.vm.findClass own = some m.cls) (w : (Cond.classLink own index C).before a0 Z = true) (wi : (Cond.instantiable C n).before a0 Z = true) (wz : (Cond.initialized C).before a0 Z = true) (eT : T.heap = h) (hd : decode c.code pc = .ok (.new index, 3)) (hq : pc + 3 = q) (hc : cells + 1 ≤ R.cells) (hl : slots + n ≤ R.slots)
    (k : ∀ (T' : State) (h' : Heap) (a : Addr), h.size = a → Stand p l e R s m args below meth c T' locs (cells + 1) (slots + n) → T'.heap = h' → Ext h h' → Exa Z h' a C → (∀ {O nm d : String} {ty : FieldType}, Laid Z a0 C O nm d → parseFieldDescriptor d = some ty → Fld Z h' a O nm d (defaultValue ty)) → Wp p e below Q F T' (mkF m q Ls (.ref a :: st))) : Wp p e below Q F T (mkF m pc Ls st) := by
  subst hq
  obtain ⟨T', h', X', e', E, A, D, -, st'⟩ := newO X hx hZ hown w wi wz eT (g := mkF m pc Ls st) rfl hd hc hl
  exact Wp.st st' (k T' h' _ rfl X' e' E A D)
theorem newarray (X : Stand p l e R s m args below meth c T locs cells slots) (hx : p.tables.exec = Jvm.exec) (hZ : Z.Warmed39 s.vm) {aty : ArrayType} (w : (Cond.arrayClass (newarray.typeOf aty)).before a0 Z = true) (eT : T.heap = h) {n : Int32} (hd : decode c.code pc = .ok (.newarray aty, 2)) (hq : pc + 2 = q) (hn : ¬ n < 0) (cap : Nat) (hcap : n.toNatClampNeg ≤ cap) (hb : cap * 8 ≤ 536870912) (hc : cells + 1 ≤ R.cells) (hl : slots + cap ≤ R.slots)
    (k : ∀ (T' : State) (h' : Heap) (a : Addr) (kA : ClassId), h.size = a → Stand p l e R s m args below meth c T' locs (cells + 1) (slots + cap) → T'.heap = h' → Ext h h' → Arv Z h' a kA (newarray.typeOf aty) n [] (defaultValue (newarray.typeOf aty)) → Wp p e below Q F T' (mkF m q Ls (.ref a :: st))) : Wp p e below Q F T (mkF m pc Ls (.int n :: st)) := by
  subst hq
  obtain ⟨T', h', kA, X', e', E, A, st'⟩ := newP X hx hZ w eT (g := mkF m pc Ls (.int n :: st)) rfl hd rfl hn hcap hb hc hl
  exact Wp.st st' (k T' h' _ kA rfl X' e' E (Arv.new A hn))
theorem anewarray (X : Stand p l e R s m args below meth c T locs cells slots) (hx : p.tables.exec = Jvm.exec) (hZ : Z.Warmed39 s.vm) {own C : String} {index : Nat} (hown : s.vm.findClass own = some m.cls) (w1 : (Cond.classLink own index C).before a0 Z = true) (w2 : (Cond.arrayOver (.object C)).before a0 Z = true) (eT : T.heap = h) {n : Int32} (hd : decode c.code pc = .ok (.anewarray index, 3)) (hq : pc + 3 = q) (hn : ¬ n < 0) (cap : Nat) (hcap : n.toNatClampNeg ≤ cap) (hb : cap * 8 ≤ 536870912) (hc : cells + 1 ≤ R.cells) (hl : slots + cap ≤ R.slots)
    (k : ∀ (T' : State) (h' : Heap) (a : Addr) (kA : ClassId), h.size = a → Stand p l e R s m args below meth c T' locs (cells + 1) (slots + cap) → T'.heap = h' → Ext h h' → Arv Z h' a kA (.object C) n [] .null → Ovr Z kA C → Wp p e below Q F T' (mkF m q Ls (.ref a :: st))) : Wp p e below Q F T (mkF m pc Ls (.int n :: st)) := by
  subst hq
  obtain ⟨T', h', kA, X', e', E, A, O, st'⟩ := newR X hx hZ hown w1 w2 eT (g := mkF m pc Ls (.int n :: st)) rfl hd rfl hn hcap hb hc hl
  exact Wp.st st' (k T' h' _ kA rfl X' e' E (Arv.new A hn) O)
theorem getfield (X : Stand p l e R s m args below meth c T locs cells slots) (hx : p.tables.exec = Jvm.exec) (hZ : Z.Warmed39 s.vm) {own R0 O n d host : String} {index : Nat} (hown : s.vm.findClass own = some m.cls) (w : (Cond.fieldLink own index R0 n d).before a0 Z = true ∨ (Cond.fieldLinkNest own index R0 n d host).before a0 Z = true) (via : Via Z R0 O n d) (eT : T.heap = h) {a : Addr} {v : Value} (hF : Fld Z h a O n d v) (hd : decode c.code pc = .ok (.getfield index, 3)) (hq : pc + 3 = q)
    (k : ∀ (T' : State), Stand p l e R s m args below meth c T' locs cells slots → T'.heap = h → Wp p e below Q F T' (mkF m q Ls (v :: st))) : Wp p e below Q F T (mkF m pc Ls (.ref a :: st)) := by
  subst hq
  obtain ⟨T', X', e', st'⟩ := getF X hx hZ hown w via eT hF (g := mkF m pc Ls (.ref a :: st)) rfl rfl hd
  exact Wp.st st' (k T' X' e')
theorem getstatic (X : Stand p l e R s m args below meth c T locs cells slots) (hx : p.tables.exec = Jvm.exec) (hZ : Z.Warmed39 s.vm) {own R0 O n d host : String} {index : Nat} (hown : s.vm.findClass own = some m.cls) (w : (Cond.fieldLink own index R0 n d).before a0 Z = true ∨ (Cond.fieldLinkNest own index R0 n d host).before a0 Z = true) (via : Via Z R0 O n d) (eT : T.heap = h) {v : Value} (hF : Sta Z h O n d v) (hd : decode c.code pc = .ok (.getstatic index, 3)) (hq : pc + 3 = q)
    (k : ∀ (T' : State), Stand p l e R s m args below meth c T' locs cells slots → T'.heap = h → Wp p e below Q F T' (mkF m q Ls (v :: st))) : Wp p e below Q F T (mkF m pc Ls st) := by
  subst hq
  obtain ⟨T', X', e', st'⟩ := getS2 X hx hZ hown w via eT hF (g := mkF m pc Ls st) rfl hd
  exact Wp.st st' (k T' X' e')
theorem putfield (X : Stand p l e R s m args below meth c T locs cells slots) (hx : p.tables.exec = Jvm.exec) (hZ : Z.Warmed39 s.vm) {own R0 O n d host C : String} {index kk : Nat} {ty : FieldType} (hown : s.vm.findClass own = some m.cls) (w : (Cond.fieldLink own index R0 n d).before a0 Z = true ∨ (Cond.fieldLinkNest own index R0 n d host).before a0 Z = true) (via : Via Z R0 O n d) (eT : T.heap = h) {a : Addr} {v old : Value} (hF : Fld Z h a O n d old) (hE : Exa Z h a C) (hL : (Cond.lays C O n d).before a0 Z = true ∨ ((Cond.laysFinal C O n d).before a0 Z = true ∧ own = O ∧ meth.name = "<init>")) (wi : (Cond.instantiable C kk).before a0 Z = true)
    (hty : parseFieldDescriptor d = some ty) (hn : narrow ty v = v) (hf : fits ty v = true) (hd : decode c.code pc = .ok (.putfield index, 3)) (hq : pc + 3 = q)
    (k : ∀ (T' : State) (h' : Heap) (L' : List Loc), (∀ n0 ws, Fk n0 ws locs → (a ∈ ws ∨ n0 ≤ a) → Fk n0 ws L') → Stand p l e R s m args below meth c T' L' cells slots → T'.heap = h' → Wr h h' a (Jvm.RoadKit.slotOf Z O n d) v → Fld Z h' a O n d v → Wp p e below Q F T' (mkF m q Ls st)) : Wp p e below Q F T (mkF m pc Ls (v :: .ref a :: st)) := by
  subst hq
  obtain ⟨T', h', X', e', W, st'⟩ := putF X hx hZ hown w via eT hF hE hL wi hty hn hf (g := mkF m pc Ls (v :: .ref a :: st)) rfl rfl hd
  exact Wp.st st' (k T' h' _ (fun n0 ws N g => Fk.snoc N g) X' e' W (hF.same W))
theorem putfieldN (X : Stand p l e R s m args below meth c T locs cells slots) (hx : p.tables.exec = Jvm.exec) (hZ : Z.Warmed39 s.vm) {own R0 O n d C : String} {index kk : Nat} {ty : FieldType} (hown : s.vm.findClass own = some m.cls) (w : (Cond.fieldLink own index R0 n d).before a0 Z = true) (via : Via Z R0 O n d) (eT : T.heap = h) {a : Addr} {v v' old : Value} (hF : Fld Z h a O n d old) (hE : Exa Z h a C) (hL : (Cond.lays C O n d).before a0 Z = true ∨ ((Cond.laysFinal C O n d).before a0 Z = true ∧ own = O ∧ meth.name = "<init>")) (wi : (Cond.instantiable C kk).before a0 Z = true)
    (hty : parseFieldDescriptor d = some ty) (hn : narrow ty v = v') (hf : fits ty v' = true) (hd : decode c.code pc = .ok (.putfield index, 3)) (hq : pc + 3 = q)
    (k : ∀ (T' : State) (h' : Heap) (L' : List Loc), (∀ n0 ws, Fk n0 ws locs → (a ∈ ws ∨ n0 ≤ a) → Fk n0 ws L') → Stand p l e R s m args below meth c T' L' cells slots → T'.heap = h' → Wr h h' a (Jvm.RoadKit.slotOf Z O n d) v' → Fld Z h' a O n d v' → Wp p e below Q F T' (mkF m q Ls st)) : Wp p e below Q F T (mkF m pc Ls (v :: .ref a :: st)) := by
  subst hq
  obtain ⟨T', h', X', e', W, st'⟩ := putFN X hx hZ hown w via eT hF hE hL wi hty hn hf (g := mkF m pc Ls (v :: .ref a :: st)) rfl rfl hd
  exact Wp.st st' (k T' h' _ (fun n0 ws N g => Fk.snoc N g) X' e' W (hF.same W))
theorem objinit (X : Stand p l e R s m args below meth c T locs cells slots) (hx : p.tables.exec = Jvm.exec) (hZ : Z.Warmed39 s.vm) {own : String} {idx : Nat} (hown : s.vm.findClass own = some m.cls) (w1 : (Cond.methodLink own idx Lib.objectInit).before a0 Z = true) (w2 : (Cond.instanceMethod Lib.objectInit).before a0 Z = true)
    (w3 : (Cond.code Lib.objectInit ⟨#[0xb1]⟩ 1 none).before a0 Z = true) (eT : T.heap = h) (hsize : Ls.size = c.maxLocals) {a : Addr} (hd : decode c.code pc = .ok (.invokespecial idx, 3)) (hq : pc + 3 = q) (hf : 1 ≤ R.frames) (W : Nat) (hW : (st.map fun v => v.category).sum ≤ W) (hl : W + 12 ≤ R.locals)
    (k : ∀ (T' : State), Stand p l e R s m args below meth c T' locs cells slots → T'.heap = h → Wp p e below Q F T' (mkF m q Ls st)) : Wp p e below Q F T (mkF m pc Ls (.ref a :: st)) := by
  subst hq
  obtain ⟨T', X', e', st'⟩ := initO X hx hZ hown w1 w2 w3 eT (g := mkF m pc Ls (.ref a :: st)) rfl hsize rfl hd hf (W := W) (by show 2 * 0 + _ ≤ _; omega) hl
  exact Wp.st st' (k T' X' e')
theorem castY (X : Stand p l e R s m args below meth c T locs cells slots) (hx : p.tables.exec = Jvm.exec) (hZ : Z.Warmed39 s.vm) {own K : String} {index : Nat} (hown : s.vm.findClass own = some m.cls) (w : (Cond.classLink own index K).before a0 Z = true) (eT : T.heap = h) {a : Addr} (hI : Ins Z h a K true) (hd : decode c.code pc = .ok (.checkcast index, 3)) (hq : pc + 3 = q)
    (k : ∀ (T' : State), Stand p l e R s m args below meth c T' locs cells slots → T'.heap = h → Wp p e below Q F T' (mkF m q Ls (.ref a :: st))) : Wp p e below Q F T (mkF m pc Ls (.ref a :: st)) := by
  subst hq
  obtain ⟨T', X', e', st'⟩ := Jvm.RoadKit.castY X hx hZ hown w eT hI (g := mkF m pc Ls (.ref a :: st)) rfl rfl hd
  exact Wp.st st' (k T' X' e')
theorem instY (X : Stand p l e R s m args below meth c T locs cells slots) (hx : p.tables.exec = Jvm.exec) (hZ : Z.Warmed39 s.vm) {own K : String} {index : Nat} (hown : s.vm.findClass own = some m.cls) (w : (Cond.classLink own index K).before a0 Z = true) (eT : T.heap = h) {a : Addr} (hI : Ins Z h a K true) (hd : decode c.code pc = .ok (.instanceof index, 3)) (hq : pc + 3 = q)
    (k : ∀ (T' : State), Stand p l e R s m args below meth c T' locs cells slots → T'.heap = h → Wp p e below Q F T' (mkF m q Ls (.int 1 :: st))) : Wp p e below Q F T (mkF m pc Ls (.ref a :: st)) := by
  subst hq
  obtain ⟨T', X', e', st'⟩ := Jvm.RoadKit.instY X hx hZ hown w eT hI (g := mkF m pc Ls (.ref a :: st)) rfl rfl hd
  exact Wp.st st' (k T' X' e')
theorem instNo (X : Stand p l e R s m args below meth c T locs cells slots) (hx : p.tables.exec = Jvm.exec) (hZ : Z.Warmed39 s.vm) {own K C : String} {index : Nat} (hown : s.vm.findClass own = some m.cls) (w : (Cond.classLink own index K).before a0 Z = true) (eT : T.heap = h) {a : Addr} (hE : Exa Z h a C) (hF : ∃ c t, Z.vm.findClass C = some c ∧ Z.vm.findClass K = some t ∧ Z.vm.assignable c t = false) (hd : decode c.code pc = .ok (.instanceof index, 3)) (hq : pc + 3 = q)
    (k : ∀ (T' : State), Stand p l e R s m args below meth c T' locs cells slots → T'.heap = h → Wp p e below Q F T' (mkF m q Ls (.int 0 :: st))) : Wp p e below Q F T (mkF m pc Ls (.ref a :: st)) := by
  subst hq
  obtain ⟨T', X', e', st'⟩ := Jvm.RoadKit.instNo X hx hZ hown w eT hE hF (g := mkF m pc Ls (.ref a :: st)) rfl rfl hd
  exact Wp.st st' (k T' X' e')
theorem castNull (X : Stand p l e R s m args below meth c T locs cells slots) (hx : p.tables.exec = Jvm.exec) {index : Nat} (hd : decode c.code pc = .ok (.checkcast index, 3)) (hq : pc + 3 = q) (k : Wp p e below Q F T (mkF m q Ls (.null :: st))) : Wp p e below Q F T (mkF m pc Ls (.null :: st)) := by
  subst hq
  exact Wp.st (X.checkcastNull hx (g := mkF m pc Ls (.null :: st)) rfl rfl hd) k
theorem instNull (X : Stand p l e R s m args below meth c T locs cells slots) (hx : p.tables.exec = Jvm.exec) {index : Nat} (hd : decode c.code pc = .ok (.instanceof index, 3)) (hq : pc + 3 = q) (k : Wp p e below Q F T (mkF m q Ls (.int 0 :: st))) : Wp p e below Q F T (mkF m pc Ls (.null :: st)) := by
  subst hq
  exact Wp.st (X.instanceofNull hx (g := mkF m pc Ls (.null :: st)) rfl rfl hd) k
theorem pop2L (X : Stand p l e R s m args below meth c T locs cells slots) (hx : p.tables.exec = Jvm.exec) {x : Int64} (hd : decode c.code pc = .ok (.pop2, 1)) (hq : pc + 1 = q) (k : Wp p e below Q F T (mkF m q Ls st)) : Wp p e below Q F T (mkF m pc Ls (.long x :: st)) := by
  subst hq
  refine Wp.st (fun t z => ?_) k
  jvm_step X.here [X.here.top, hx, hd, Value.category]
  exact z
theorem ldcInt (X : Stand p l e R s m args below meth c T locs cells slots) (hx : p.tables.exec = Jvm.exec) (hZ : Z.Warmed39 s.vm) {own : String} {index : Nat} {v : Int32} (hown : s.vm.findClass own = some m.cls) (w : (Cond.constant own index v).before a0 Z = true) (hd : decode c.code pc = .ok (.ldc index, 2)) (hq : pc + 2 = q) (k : Wp p e below Q F T (mkF m q Ls (.int v :: st))) : Wp p e below Q F T (mkF m pc Ls st) := by
  subst hq
  exact Wp.st (X.ldcInt hx hown (mvT hZ w) (g := mkF m pc Ls st) rfl hd) k
theorem ldc2Long (X : Stand p l e R s m args below meth c T locs cells slots) (hx : p.tables.exec = Jvm.exec) (hZ : Z.Warmed39 s.vm) {own : String} {index : Nat} {v : Int64} (hown : s.vm.findClass own = some m.cls) (w : (Cond.constantLong own index v).before a0 Z = true) (hd : decode c.code pc = .ok (.ldc2_w index, 3)) (hq : pc + 3 = q) (k : Wp p e below Q F T (mkF m q Ls (.long v :: st))) : Wp p e below Q F T (mkF m pc Ls st) := by
  subst hq
  exact Wp.st (X.ldc2Long hx hown (mvT hZ w) (g := mkF m pc Ls st) rfl hd) k
/-- getfield by an entry that the sheet says resolved -/
theorem getfieldRef (X : Stand p l e R s m args below meth c T locs cells slots) (hx : p.tables.exec = Jvm.exec) (hZ : Z.Warmed39 s.vm) {own O n d : String} {index : Nat} (hown : s.vm.findClass own = some m.cls) (w : (Cond.fieldRef own index O n d).before a0 Z = true) (eT : T.heap = h) {a : Addr} {v : Value} (hF : Fld Z h a O n d v) (hd : decode c.code pc = .ok (.getfield index, 3)) (hq : pc + 3 = q)
    (k : Wp p e below Q F T (mkF m q Ls (v :: st))) : Wp p e below Q F T (mkF m pc Ls (.ref a :: st)) := by
  subst hq
  obtain ⟨cell, cf, kc, i, f, h1, h2, h3, h4, h5, h6, h7⟩ := hF
  have hW : Z.Warmed39 T.vm := wtrans hZ X.warmed
  have w' := Cond.fieldRef_warmed39 hW w
  have hcur : (Z.setVm T.vm).vm.findClass own = some m.cls := by
    show T.vm.findClass own = _
    rw [X.warmed.alike.findClass]; exact hown
  obtain ⟨c', k', i', f', r1, r2⟩ := Cond.fieldRef_spec hcur w'
  obtain ⟨k2, r3, -⟩ := State.fieldFound?_setVm (s := Z) hW.alike h2
  cases r1.symm.trans r3
  subst eT
  refine Wp.st (fun t z => ?_) k
  jvm_step X.here [hx, hd, getfield.wp_ready (e := e) (s := T) (f := mkF m pc Ls (.ref a :: st)) X.here.top r2 h3 rfl h1 h4 h7]
  exact z
/-- arrays -/
theorem arraylength (X : Stand p l e R s m args below meth c T locs cells slots) (hx : p.tables.exec = Jvm.exec) (hZ : Z.Warmed39 s.vm) (eT : T.heap = h) {a : Addr} {kA : ClassId} {ty : FieldType} {n : Int32} {vs : List Value} {dv : Value} (hA : Arv Z h a kA ty n vs dv) (hd : decode c.code pc = .ok (.arraylength, 1)) (hq : pc + 1 = q) (k : Wp p e below Q F T (mkF m q Ls (.int n :: st))) : Wp p e below Q F T (mkF m pc Ls (.ref a :: st)) := by
  subst hq
  obtain ⟨cl, Ar, -, S, M, -, -⟩ := hA
  refine Wp.st (X.arraylength hx (by rw [eT]; exact Ar.1) (State.isArrayOf_alike hZ.alike Ar.2.1) (g := mkF m pc Ls (.ref a :: st)) rfl rfl hd) ?_
  rw [len_of S M]; exact k
theorem setCore {Z : State} {h h' : Heap} {a : Addr} {cl : Cell} {kA : ClassId} {ty : FieldType} {n j : Int32} {vs : List Value} {dv v : Value} (Ar : Arr Z h a cl ty) (q1 : cl.cls = kA) (S : cl.slots.size = n.toNatClampNeg) (M : ¬ n < 0) (H : Has cl vs dv) (G : ∀ i, i < cl.slots.size → fits ty (vs.getD i dv) = true) (hv : fits ty v = true) (W : Wr h h' a j.toNatClampNeg v) (hj : j.toNatClampNeg < vs.length) : Arv Z h' a kA ty n (vs.set j.toNatClampNeg v) dv :=
  Arv.set Ar q1 S M H G hv W _ rfl hj
theorem caload (X : Stand p l e R s m args below meth c T locs cells slots) (hx : p.tables.exec = Jvm.exec) (hZ : Z.Warmed39 s.vm) (eT : T.heap = h) {a : Addr} {kA : ClassId} {n j : Int32} {vs : List Value} {dv : Value} {v : Int32} (hA : Arv Z h a kA .char n vs dv) (hj0 : ¬ j < 0) (hjn : j < n) (hv : vs.getD j.toNatClampNeg dv = .int v) (hd : decode c.code pc = .ok (.caload, 1)) (hq : pc + 1 = q) (k : Wp p e below Q F T (mkF m q Ls ((.int v) :: st))) : Wp p e below Q F T (mkF m pc Ls (.int j :: .ref a :: st)) := by
  subst hq
  obtain ⟨cl, Ar, -, S, M, H, -⟩ := hA
  have hin := inb_of S ⟨hj0, hjn⟩
  exact Wp.st (X.caload hx (j := j) (v := .int v) (by rw [eT]; exact Ar.1) (State.isArrayOf_alike hZ.alike Ar.2.1) Ar.2.2 hin (H.at hin hv) (g := mkF m pc Ls (.int j :: .ref a :: st)) rfl rfl hd) k
theorem iaload (X : Stand p l e R s m args below meth c T locs cells slots) (hx : p.tables.exec = Jvm.exec) (hZ : Z.Warmed39 s.vm) (eT : T.heap = h) {a : Addr} {kA : ClassId} {n j : Int32} {vs : List Value} {dv : Value} {v : Int32} (hA : Arv Z h a kA .int n vs dv) (hj0 : ¬ j < 0) (hjn : j < n) (hv : vs.getD j.toNatClampNeg dv = .int v) (hd : decode c.code pc = .ok (.iaload, 1)) (hq : pc + 1 = q) (k : Wp p e below Q F T (mkF m q Ls ((.int v) :: st))) : Wp p e below Q F T (mkF m pc Ls (.int j :: .ref a :: st)) := by
  subst hq
  obtain ⟨cl, Ar, -, S, M, H, -⟩ := hA
  have hin := inb_of S ⟨hj0, hjn⟩
  exact Wp.st (X.iaload hx (j := j) (v := .int v) (by rw [eT]; exact Ar.1) (State.isArrayOf_alike hZ.alike Ar.2.1) Ar.2.2 hin (H.at hin hv) (g := mkF m pc Ls (.int j :: .ref a :: st)) rfl rfl hd) k
theorem saload (X : Stand p l e R s m args below meth c T locs cells slots) (hx : p.tables.exec = Jvm.exec) (hZ : Z.Warmed39 s.vm) (eT : T.heap = h) {a : Addr} {kA : ClassId} {n j : Int32} {vs : List Value} {dv : Value} {v : Int32} (hA : Arv Z h a kA .short n vs dv) (hj0 : ¬ j < 0) (hjn : j < n) (hv : vs.getD j.toNatClampNeg dv = .int v) (hd : decode c.code pc = .ok (.saload, 1)) (hq : pc + 1 = q) (k : Wp p e below Q F T (mkF m q Ls ((.int v) :: st))) : Wp p e below Q F T (mkF m pc Ls (.int j :: .ref a :: st)) := by
  subst hq
  obtain ⟨cl, Ar, -, S, M, H, -⟩ := hA
  have hin := inb_of S ⟨hj0, hjn⟩
  exact Wp.st (X.saload hx (j := j) (v := .int v) (by rw [eT]; exact Ar.1) (State.isArrayOf_alike hZ.alike Ar.2.1) Ar.2.2 hin (H.at hin hv) (g := mkF m pc Ls (.int j :: .ref a :: st)) rfl rfl hd) k
theorem laload (X : Stand p l e R s m args below meth c T locs cells slots) (hx : p.tables.exec = Jvm.exec) (hZ : Z.Warmed39 s.vm) (eT : T.heap = h) {a : Addr} {kA : ClassId} {n j : Int32} {vs : List Value} {dv : Value} {v : Int64} (hA : Arv Z h a kA .long n vs dv) (hj0 : ¬ j < 0) (hjn : j < n) (hv : vs.getD j.toNatClampNeg dv = .long v) (hd : decode c.code pc = .ok (.laload, 1)) (hq : pc + 1 = q) (k : Wp p e below Q F T (mkF m q Ls ((.long v) :: st))) : Wp p e below Q F T (mkF m pc Ls (.int j :: .ref a :: st)) := by
  subst hq
  obtain ⟨cl, Ar, -, S, M, H, -⟩ := hA
  have hin := inb_of S ⟨hj0, hjn⟩
  exact Wp.st (X.laload hx (j := j) (v := .long v) (by rw [eT]; exact Ar.1) (State.isArrayOf_alike hZ.alike Ar.2.1) Ar.2.2 hin (H.at hin hv) (g := mkF m pc Ls (.int j :: .ref a :: st)) rfl rfl hd) k
theorem baload (X : Stand p l e R s m args below meth c T locs cells slots) (hx : p.tables.exec = Jvm.exec) (hZ : Z.Warmed39 s.vm) (eT : T.heap = h) {a : Addr} {kA : ClassId} {n j : Int32} {vs : List Value} {dv : Value} {v : Int32} (hA : Arv Z h a kA .byte n vs dv) (hj0 : ¬ j < 0) (hjn : j < n) (hv : vs.getD j.toNatClampNeg dv = .int v) (hd : decode c.code pc = .ok (.baload, 1)) (hq : pc + 1 = q) (k : Wp p e below Q F T (mkF m q Ls ((.int v) :: st))) : Wp p e below Q F T (mkF m pc Ls (.int j :: .ref a :: st)) := by
  subst hq
  obtain ⟨cl, Ar, -, S, M, H, -⟩ := hA
  have hin := inb_of S ⟨hj0, hjn⟩
  exact Wp.st (X.baloadBytes hx (j := j) (v := .int v) (by rw [eT]; exact Ar.1) (State.isArrayOf_alike hZ.alike Ar.2.1) Ar.2.2 hin (H.at hin hv) (g := mkF m pc Ls (.int j :: .ref a :: st)) rfl rfl hd) k
theorem aaload (X : Stand p l e R s m args below meth c T locs cells slots) (hx : p.tables.exec = Jvm.exec) (hZ : Z.Warmed39 s.vm) (eT : T.heap = h) {a : Addr} {kA : ClassId} {n j : Int32} {vs : List Value} {dv : Value} {v : Value} {C : FieldType} (hA : Arv Z h a kA C n vs dv) (hj0 : ¬ j < 0) (hjn : j < n) (hv : vs.getD j.toNatClampNeg dv = v) (hC : C.isReference = true) (hd : decode c.code pc = .ok (.aaload, 1)) (hq : pc + 1 = q) (k : Wp p e below Q F T (mkF m q Ls ((v) :: st))) : Wp p e below Q F T (mkF m pc Ls (.int j :: .ref a :: st)) := by
  subst hq
  obtain ⟨cl, Ar, -, S, M, H, -⟩ := hA
  have hin := inb_of S ⟨hj0, hjn⟩
  exact Wp.st (X.aaload hx (j := j) (v := v) (by rw [eT]; exact Ar.1) (State.isArrayOf_alike hZ.alike Ar.2.1) hC Ar.2.2 hin (H.at hin hv) (g := mkF m pc Ls (.int j :: .ref a :: st)) rfl rfl hd) k
theorem castore (X : Stand p l e R s m args below meth c T locs cells slots) (hx : p.tables.exec = Jvm.exec) (hZ : Z.Warmed39 s.vm) (eT : T.heap = h) {a : Addr} {kA : ClassId} {n j : Int32} {vs : List Value} {dv : Value} {v : Int32} (hA : Arv Z h a kA .char n vs dv) (hj0 : ¬ j < 0) (hjn : j < n) (i : Nat) (hi : j.toNatClampNeg = i) (hlen : i < vs.length) {w : Int32} (hw : (nar .char v) = w) (hd : decode c.code pc = .ok (.castore, 1)) (hq : pc + 1 = q)
    (k : ∀ (T' : State) (h' : Heap) (L' : List Loc), (∀ n0 ws, Fk n0 ws locs → (a ∈ ws ∨ n0 ≤ a) → Fk n0 ws L') → Stand p l e R s m args below meth c T' L' cells slots → T'.heap = h' → Wr h h' a i (.int w) → Arv Z h' a kA .char n (vs.set i (.int w)) dv → Wp p e below Q F T' (mkF m q Ls st)) : Wp p e below Q F T (mkF m pc Ls ((.int v) :: .int j :: .ref a :: st)) := by
  subst hq hi hw
  obtain ⟨cl, Ar, q1, S, M, H, G⟩ := hA
  obtain ⟨T', h', X', e', W, st'⟩ := stC X hx hZ eT Ar (j := j) (inb_of S ⟨hj0, hjn⟩) (g := mkF m pc Ls ((.int v) :: .int j :: .ref a :: st)) rfl rfl hd
  exact Wp.st st' (k T' h' _ (fun n0 ws N g => Fk.snoc N g) X' e' W (setCore Ar q1 S M H G (fits_nar_char _) W hlen))
theorem iastore (X : Stand p l e R s m args below meth c T locs cells slots) (hx : p.tables.exec = Jvm.exec) (hZ : Z.Warmed39 s.vm) (eT : T.heap = h) {a : Addr} {kA : ClassId} {n j : Int32} {vs : List Value} {dv : Value} {v : Int32} (hA : Arv Z h a kA .int n vs dv) (hj0 : ¬ j < 0) (hjn : j < n) (i : Nat) (hi : j.toNatClampNeg = i) (hlen : i < vs.length) {w : Int32} (hw : (v) = w) (hd : decode c.code pc = .ok (.iastore, 1)) (hq : pc + 1 = q)
    (k : ∀ (T' : State) (h' : Heap) (L' : List Loc), (∀ n0 ws, Fk n0 ws locs → (a ∈ ws ∨ n0 ≤ a) → Fk n0 ws L') → Stand p l e R s m args below meth c T' L' cells slots → T'.heap = h' → Wr h h' a i (.int w) → Arv Z h' a kA .int n (vs.set i (.int w)) dv → Wp p e below Q F T' (mkF m q Ls st)) : Wp p e below Q F T (mkF m pc Ls ((.int v) :: .int j :: .ref a :: st)) := by
  subst hq hi hw
  obtain ⟨cl, Ar, q1, S, M, H, G⟩ := hA
  obtain ⟨T', h', X', e', W, st'⟩ := stI X hx hZ eT Ar (j := j) (inb_of S ⟨hj0, hjn⟩) (g := mkF m pc Ls ((.int v) :: .int j :: .ref a :: st)) rfl rfl hd
  exact Wp.st st' (k T' h' _ (fun n0 ws N g => Fk.snoc N g) X' e' W (setCore Ar q1 S M H G rfl W hlen))
theorem bastore (X : Stand p l e R s m args below meth c T locs cells slots) (hx : p.tables.exec = Jvm.exec) (hZ : Z.Warmed39 s.vm) (eT : T.heap = h) {a : Addr} {kA : ClassId} {n j : Int32} {vs : List Value} {dv : Value} {v : Int32} (hA : Arv Z h a kA .byte n vs dv) (hj0 : ¬ j < 0) (hjn : j < n) (i : Nat) (hi : j.toNatClampNeg = i) (hlen : i < vs.length) {w : Int32} (hw : (nar .byte v) = w) (hd : decode c.code pc = .ok (.bastore, 1)) (hq : pc + 1 = q)
    (k : ∀ (T' : State) (h' : Heap) (L' : List Loc), (∀ n0 ws, Fk n0 ws locs → (a ∈ ws ∨ n0 ≤ a) → Fk n0 ws L') → Stand p l e R s m args below meth c T' L' cells slots → T'.heap = h' → Wr h h' a i (.int w) → Arv Z h' a kA .byte n (vs.set i (.int w)) dv → Wp p e below Q F T' (mkF m q Ls st)) : Wp p e below Q F T (mkF m pc Ls ((.int v) :: .int j :: .ref a :: st)) := by
  subst hq hi hw
  obtain ⟨cl, Ar, q1, S, M, H, G⟩ := hA
  obtain ⟨T', h', X', e', W, st'⟩ := stB X hx hZ eT Ar (j := j) (inb_of S ⟨hj0, hjn⟩) (g := mkF m pc Ls ((.int v) :: .int j :: .ref a :: st)) rfl rfl hd
  exact Wp.st st' (k T' h' _ (fun n0 ws N g => Fk.snoc N g) X' e' W (setCore Ar q1 S M H G (fits_nar_byte _) W hlen))
theorem lastore (X : Stand p l e R s m args below meth c T locs cells slots) (hx : p.tables.exec = Jvm.exec) (hZ : Z.Warmed39 s.vm) (eT : T.heap = h) {a : Addr} {kA : ClassId} {n j : Int32} {vs : List Value} {dv : Value} {v : Int64} (hA : Arv Z h a kA .long n vs dv) (hj0 : ¬ j < 0) (hjn : j < n) (i : Nat) (hi : j.toNatClampNeg = i) (hlen : i < vs.length) {w : Int64} (hw : (v) = w) (hd : decode c.code pc = .ok (.lastore, 1)) (hq : pc + 1 = q)
    (k : ∀ (T' : State) (h' : Heap) (L' : List Loc), (∀ n0 ws, Fk n0 ws locs → (a ∈ ws ∨ n0 ≤ a) → Fk n0 ws L') → Stand p l e R s m args below meth c T' L' cells slots → T'.heap = h' → Wr h h' a i (.long w) → Arv Z h' a kA .long n (vs.set i (.long w)) dv → Wp p e below Q F T' (mkF m q Ls st)) : Wp p e below Q F T (mkF m pc Ls ((.long v) :: .int j :: .ref a :: st)) := by
  subst hq hi hw
  obtain ⟨cl, Ar, q1, S, M, H, G⟩ := hA
  obtain ⟨T', h', X', e', W, st'⟩ := stJ X hx hZ eT Ar (j := j) (inb_of S ⟨hj0, hjn⟩) (g := mkF m pc Ls ((.long v) :: .int j :: .ref a :: st)) rfl rfl hd
  exact Wp.st st' (k T' h' _ (fun n0 ws N g => Fk.snoc N g) X' e' W (setCore Ar q1 S M H G rfl W hlen))
theorem aastore (X : Stand p l e R s m args below meth c T locs cells slots) (hx : p.tables.exec = Jvm.exec) (hZ : Z.Warmed39 s.vm) (eT : T.heap = h) {a : Addr} {kA : ClassId} {n j : Int32} {vs : List Value} {dv : Value} {v : Value} {ty : FieldType} (hA : Arv Z h a kA ty n vs dv) (hty : ty.isReference = true) (hf : fits ty v = true) (hS : Sto Z h a v) (hj0 : ¬ j < 0) (hjn : j < n) (i : Nat) (hi : j.toNatClampNeg = i) (hlen : i < vs.length) (hd : decode c.code pc = .ok (.aastore, 1)) (hq : pc + 1 = q)
    (k : ∀ (T' : State) (h' : Heap) (L' : List Loc), (∀ n0 ws, Fk n0 ws locs → (a ∈ ws ∨ n0 ≤ a) → Fk n0 ws L') → Stand p l e R s m args below meth c T' L' cells slots → T'.heap = h' → Wr h h' a i v → Arv Z h' a kA ty n (vs.set i v) dv → Wp p e below Q F T' (mkF m q Ls st)) : Wp p e below Q F T (mkF m pc Ls (v :: .int j :: .ref a :: st)) := by
  subst hq hi
  obtain ⟨cl, Ar, q1, S, M, H, G⟩ := hA
  obtain ⟨T', h', X', e', W, st'⟩ := stR X hx hZ eT Ar (j := j) (inb_of S ⟨hj0, hjn⟩) hty hS (g := mkF m pc Ls (v :: .int j :: .ref a :: st)) rfl rfl hd
  exact Wp.st st' (k T' h' _ (fun n0 ws N g => Fk.snoc N g) X' e' W (setCore Ar q1 S M H G hf W hlen))
/-- calls: what comes back, in the continuation -/
abbrev Go (p : Program) (l : Launch) (e : Env) (R : Room) (s : State) (m : MethodId) (args : Array Value) (below : List Frame) (meth : Method) (c : Code) (locs : List Loc) (cells slots : Nat) (Q : Option Value → State → List Loc → Prop) (F : Outcome → State → List Loc → Prop) (q : Nat) (Ls : Array Slot) (rest : List Value) (kc ks : Nat) (Qc : Option Value → Heap → List Loc → Prop) : Prop :=
  ∀ (T' : State) (h' : Heap) (v : Option Value) (L : List Loc), Stand p l e R s m args below meth c T' (locs ++ L) (cells + kc) (slots + ks) → T'.heap = h' → Qc v h' L → Wp p e below Q F T' (mkF m q Ls (v.toList ++ rest))
theorem callS (X : Stand p l e R s m args below meth c T locs cells slots) (hx : p.tables.exec = Jvm.exec) (hZ : Z.Warmed39 s.vm) {own : String} {index : Nat} {y : MethodName} {bytes : ByteArray} {maxL : Nat} {ret : Option FieldType} (hown : s.vm.findClass own = some m.cls) (w1 : (Cond.methodLink own index y).before a0 Z = true) (w2 : (Cond.static y).before a0 Z = true) (w3 : (Cond.initialized y.cls).before a0 Z = true) (w4 : (Cond.code y bytes maxL ret).before a0 Z = true)
    (hy : y.cls ≠ "java/lang/invoke/MethodHandle" ∧ y.cls ≠ "java/lang/invoke/VarHandle") {W : Nat} {as' : List Value} {kc ks : Nat} {Qc : Option Value → Heap → List Loc → Prop} (hK : Pay l R p e below s args y 3 W as'.toArray h kc ks Qc) (eT : T.heap = h) (hsize : Ls.size = c.maxLocals) {rest : List Value} (hlen : ∀ sig, parseMethodDescriptor y.desc = some sig → as'.length = sig.parameters.length)
    (hstack : st = as'.reverse ++ rest) (hW : (rest.map fun v => v.category).sum ≤ W) (hd : decode c.code pc = .ok (.invokestatic index, 3)) (hq : pc + 3 = q) (hc : cells + kc ≤ R.cells) (hs : slots + ks ≤ R.slots)
    (k : Go p l e R s m args below meth c locs cells slots Q F q Ls rest kc ks Qc) : Wp p e below Q F T (mkF m pc Ls st) := by
  subst hq
  obtain ⟨v, vm₁, ⟨T', L', k', n'⟩, -, X', ⟨L, hQ, r1, r2, r3⟩, st'⟩ := Jvm.LawKit.callS X hx (y := y) hown (mvT hZ w1) (mvT hZ w2) (mvT hZ w3) (mvT hZ w4) hy hK (g := mkF m pc Ls st) rfl hsize hlen hstack (by show 2 * 0 + _ ≤ _; omega) hd (fun _ _ => ⟨rfl, eT, hc, hs⟩)
  dsimp only [Pt.U, Pt.locs, Pt.cells, Pt.slots] at X' r1 r2 r3 st' hQ
  subst r1 r2 r3
  exact Wp.st st' (k T' _ v L X' rfl hQ)
theorem callI (X : Stand p l e R s m args below meth c T locs cells slots) (hx : p.tables.exec = Jvm.exec) (hZ : Z.Warmed39 s.vm) {own : String} {index : Nat} {y : MethodName} {bytes : ByteArray} {maxL : Nat} (hy1 : y.name = "<init>") (hown : s.vm.findClass own = some m.cls) (w1 : (Cond.methodLink own index y).before a0 Z = true) (w2 : (Cond.instanceMethod y).before a0 Z = true) (w4 : (Cond.code y bytes maxL none).before a0 Z = true)
    (hy : y.cls ≠ "java/lang/invoke/MethodHandle" ∧ y.cls ≠ "java/lang/invoke/VarHandle") {W : Nat} {a : Addr} {as' : List Value} {kc ks : Nat} {Qc : Option Value → Heap → List Loc → Prop} (hK : Pay l R p e below s args y 3 W (.ref a :: as').toArray h kc ks Qc) (eT : T.heap = h) (hsize : Ls.size = c.maxLocals) {rest : List Value} (hlen : ∀ sig, parseMethodDescriptor y.desc = some sig → as'.length = sig.parameters.length)
    (hstack : st = as'.reverse ++ .ref a :: rest) (hW : (rest.map fun v => v.category).sum ≤ W) (hd : decode c.code pc = .ok (.invokespecial index, 3)) (hq : pc + 3 = q) (hc : cells + kc ≤ R.cells) (hs : slots + ks ≤ R.slots)
    (k : Go p l e R s m args below meth c locs cells slots Q F q Ls rest kc ks Qc) : Wp p e below Q F T (mkF m pc Ls st) := by
  subst hq
  obtain ⟨v, vm₁, ⟨T', L', k', n'⟩, -, X', ⟨L, hQ, r1, r2, r3⟩, st'⟩ := X.specialBack hx (y := y) hy1 hown (mvT hZ w1) (mvT hZ w2) (mvT hZ w4) hy hK (g := mkF m pc Ls st) rfl hsize (Steps.refl _) hlen hstack (by show 2 * 0 + _ ≤ _; omega) hd (fun _ _ => ⟨rfl, eT, hc, hs⟩)
  dsimp only [Pt.U, Pt.locs, Pt.cells, Pt.slots] at X' r1 r2 r3 st' hQ
  subst r1 r2 r3
  exact Wp.tr st' (k T' _ v L X' rfl hQ)
theorem callV (X : Stand p l e R s m args below meth c T locs cells slots) (hx : p.tables.exec = Jvm.exec) (hZ : Z.Warmed39 s.vm) {own C : String} {index : Nat} {y z : MethodName} (hown : s.vm.findClass own = some m.cls) (w1 : (Cond.methodLink own index y).before a0 Z = true) (w2 : (Cond.declares y).before a0 Z = true) (hnf : NotFace s y) (w3 : (Cond.selects C y z).before a0 Z = true) (w4 : (Cond.instanceMethod z).before a0 Z = true)
    (hy : y.cls ≠ "java/lang/invoke/MethodHandle" ∧ y.cls ≠ "java/lang/invoke/VarHandle") {W : Nat} {a : Addr} {as' : List Value} {kc ks : Nat} {Qc : Option Value → Heap → List Loc → Prop} (hK : Pay l R p e below s args z 3 W (.ref a :: as').toArray h kc ks Qc) (eT : T.heap = h) (hE : Exa Z h a C) (hsize : Ls.size = c.maxLocals) {rest : List Value} (hlen : ∀ sig, parseMethodDescriptor y.desc = some sig → as'.length = sig.parameters.length)
    (hstack : st = as'.reverse ++ .ref a :: rest) (hW : (rest.map fun v => v.category).sum ≤ W) (hd : decode c.code pc = .ok (.invokevirtual index, 3)) (hq : pc + 3 = q) (hc : cells + kc ≤ R.cells) (hs : slots + ks ≤ R.slots)
    (k : Go p l e R s m args below meth c locs cells slots Q F q Ls rest kc ks Qc) : Wp p e below Q F T (mkF m pc Ls st) := by
  subst hq
  obtain ⟨cq, kq, qa, qb, qc⟩ := isOf hZ eT hE
  obtain ⟨v, vm₁, ⟨T', L', k', n'⟩, -, X', ⟨L, hQ, r1, r2, r3⟩, st'⟩ := X.virtualBack hx (y := y) (z := z) hown (mvT hZ w1) (mvT hZ w2) hnf (mvT hZ w3) (mvT hZ w4) hy hK qa qc (g := mkF m pc Ls st) rfl hsize (Steps.refl _) hlen hstack (by show 2 * 0 + _ ≤ _; omega) hd (fun _ _ => ⟨rfl, eT, hc, hs⟩)
  dsimp only [Pt.U, Pt.locs, Pt.cells, Pt.slots] at X' r1 r2 r3 st' hQ
  subst r1 r2 r3
  exact Wp.tr st' (k T' _ v L X' rfl hQ)
theorem callP (X : Stand p l e R s m args below meth c T locs cells slots) (hx : p.tables.exec = Jvm.exec) (hZ : Z.Warmed39 s.vm) {own C : String} {index : Nat} {y : MethodName} {bytes : ByteArray} {maxL : Nat} {ret : Option FieldType} (hown : s.vm.findClass own = some m.cls) (w1 : (Cond.methodLink own index y).before a0 Z = true) (w2 : (Cond.instanceMethod y).before a0 Z = true) (w3 : (Cond.selects y.cls y y).before a0 Z = true) (w5 : (Cond.privateMethod y).before a0 Z = true) (w4 : (Cond.code y bytes maxL ret).before a0 Z = true)
    (hy : y.cls ≠ "java/lang/invoke/MethodHandle" ∧ y.cls ≠ "java/lang/invoke/VarHandle") {W : Nat} {a : Addr} {as' : List Value} {kc ks : Nat} {Qc : Option Value → Heap → List Loc → Prop} (hK : Pay l R p e below s args y 3 W (.ref a :: as').toArray h kc ks Qc) (eT : T.heap = h) (hE : Exa Z h a C) (hsize : Ls.size = c.maxLocals) {rest : List Value} (hlen : ∀ sig, parseMethodDescriptor y.desc = some sig → as'.length = sig.parameters.length)
    (hstack : st = as'.reverse ++ .ref a :: rest) (hW : (rest.map fun v => v.category).sum ≤ W) (hd : decode c.code pc = .ok (.invokevirtual index, 3)) (hq : pc + 3 = q) (hc : cells + kc ≤ R.cells) (hs : slots + ks ≤ R.slots)
    (k : Go p l e R s m args below meth c locs cells slots Q F q Ls rest kc ks Qc) : Wp p e below Q F T (mkF m pc Ls st) := by
  subst hq
  obtain ⟨cq, q1, q2⟩ := hE.cell
  obtain ⟨v, vm₁, ⟨T', L', k', n'⟩, -, X', ⟨L, hQ, r1, r2, r3⟩, st'⟩ := X.privateBack hx (y := y) hown (mvT hZ w1) (mvT hZ w2) (mvT hZ w3) (Cond.privateMethod_at (mvP hZ w5 (args := #[]))) (mvT hZ w4) hy hK (g := mkF m pc Ls st) rfl hsize (Steps.refl _) (a := a) (by rw [eT]; exact q1) q2 hlen hstack (by show 2 * 0 + _ ≤ _; omega) hd (fun _ _ => ⟨rfl, eT, hc, hs⟩)
  dsimp only [Pt.U, Pt.locs, Pt.cells, Pt.slots] at X' r1 r2 r3 st' hQ
  subst r1 r2 r3
  exact Wp.tr st' (k T' _ v L X' rfl hQ)
theorem callF (X : Stand p l e R s m args below meth c T locs cells slots) (hx : p.tables.exec = Jvm.exec) (hZ : Z.Warmed39 s.vm) {own C : String} {index count : Nat} {y z : MethodName} (hown : s.vm.findClass own = some m.cls) (w1 : (Cond.methodLink own index y).before a0 Z = true) (w2 : (Cond.declares y).before a0 Z = true) (wf : (Cond.interfaceMethod y.cls y.cls y.name y.desc).before args s = true) (w3 : (Cond.selects C y z).before a0 Z = true) (w4 : (Cond.instanceMethod z).before a0 Z = true) (w5 : (Cond.publicMethod z).before a0 Z = true) (w6 : (Cond.unhidden C y.name y.desc).before a0 Z = true) (w7 : (Cond.castable C y.cls).before a0 Z = true)
    (hy : y.cls ≠ "java/lang/invoke/MethodHandle" ∧ y.cls ≠ "java/lang/invoke/VarHandle") {W : Nat} {a : Addr} {as' : List Value} {kc ks : Nat} {Qc : Option Value → Heap → List Loc → Prop} (hK : Pay l R p e below s args z 5 W (.ref a :: as').toArray h kc ks Qc) (eT : T.heap = h) (hE : Exa Z h a C) (hsize : Ls.size = c.maxLocals) {rest : List Value} (hlen : ∀ sig, parseMethodDescriptor y.desc = some sig → as'.length = sig.parameters.length)
    (hstack : st = as'.reverse ++ .ref a :: rest) (hW : (rest.map fun v => v.category).sum ≤ W) (hd : decode c.code pc = .ok (.invokeinterface index count, 5)) (hq : pc + 5 = q) (hc : cells + kc ≤ R.cells) (hs : slots + ks ≤ R.slots)
    (k : Go p l e R s m args below meth c locs cells slots Q F q Ls rest kc ks Qc) : Wp p e below Q F T (mkF m pc Ls st) := by
  subst hq
  obtain ⟨cq, kq, qa, qb, qc⟩ := isOf hZ eT hE
  obtain ⟨v, vm₁, ⟨T', L', k', n'⟩, -, X', ⟨L, hQ, r1, r2, r3⟩, st'⟩ := X.interfaceBack hx (xi := y) (y := z) hown (mvT hZ w1) (mvT hZ w2) wf (mvT hZ w3) (mvT hZ w4) (mvT hZ w5) (mvT hZ w6) (mvT hZ w7) hy hK qa qb qc (g := mkF m pc Ls st) rfl hsize (Steps.refl _) hlen hstack (by show 2 * 0 + _ ≤ _; omega) hd (fun _ _ => ⟨rfl, eT, hc, hs⟩)
  dsimp only [Pt.U, Pt.locs, Pt.cells, Pt.slots] at X' r1 r2 r3 st' hQ
  subst r1 r2 r3
  exact Wp.tr st' (k T' _ v L X' rfl hQ)

/-- ends, narrow: the body's own frame at the leave -/
theorem retI' (X : Stand p l e R s m args below meth c T locs cells slots) (hx : p.tables.exec = Jvm.exec) (hlk : meth.locks = false) (hr : meth.sig.returnType = some .int) {z : Int32} (hd : decode c.code pc = .ok (.ireturn, 1)) {C S : Nat} (hC : cells ≤ C) (hS : slots ≤ S) {Qc : Option Value → Heap → List Loc → Prop} (eT : T.heap = h) (k : Qc (some (.int z)) h locs) : Wp p e below (fun v t L => Qc v t.heap L) (NF s C S) T (mkF m pc Ls (.int z :: st)) := by
  obtain ⟨fs, h1, h2, h3, hW, hs⟩ := X.leave (v := some (.int z)) (fun h => by rw [hr] at h; cases h)
  refine ⟨_, _, _, ?_, h2, h3, (by subst eT; exact k), ⟨_, rfl⟩, hW, hs.mono hC hS⟩
  exact retOut X hx hr rfl (Or.inl ⟨rfl, Or.inl rfl, _, rfl⟩) hd h1
theorem retZ' (X : Stand p l e R s m args below meth c T locs cells slots) (hx : p.tables.exec = Jvm.exec) (hlk : meth.locks = false) {t : FieldType} (hr : meth.sig.returnType = some t) (ht : t = .boolean ∨ t = .byte ∨ t = .char ∨ t = .short) {z : Int32} (hd : decode c.code pc = .ok (.ireturn, 1)) {C S : Nat} (hC : cells ≤ C) (hS : slots ≤ S) {Qc : Option Value → Heap → List Loc → Prop} (eT : T.heap = h) (k : Qc (some (.int (nar t z))) h locs) : Wp p e below (fun v t L => Qc v t.heap L) (NF s C S) T (mkF m pc Ls (.int z :: st)) := by
  obtain ⟨fs, h1, h2, h3, hW, hs⟩ := X.leave (v := some (.int (nar t z))) (fun h => by rw [hr] at h; cases h)
  refine ⟨_, _, _, ?_, h2, h3, (by subst eT; exact k), ⟨_, rfl⟩, hW, hs.mono hC hS⟩
  exact retN X hx (t := t) hr ht hd h1
theorem retJ' (X : Stand p l e R s m args below meth c T locs cells slots) (hx : p.tables.exec = Jvm.exec) (hlk : meth.locks = false) (hr : meth.sig.returnType = some .long) {z : Int64} (hd : decode c.code pc = .ok (.lreturn, 1)) {C S : Nat} (hC : cells ≤ C) (hS : slots ≤ S) {Qc : Option Value → Heap → List Loc → Prop} (eT : T.heap = h) (k : Qc (some (.long z)) h locs) : Wp p e below (fun v t L => Qc v t.heap L) (NF s C S) T (mkF m pc Ls (.long z :: st)) := by
  obtain ⟨fs, h1, h2, h3, hW, hs⟩ := X.leave (v := some (.long z)) (fun h => by rw [hr] at h; cases h)
  refine ⟨_, _, _, ?_, h2, h3, (by subst eT; exact k), ⟨_, rfl⟩, hW, hs.mono hC hS⟩
  exact retOut X hx hr rfl (Or.inr (Or.inl ⟨rfl, rfl, _, rfl⟩)) hd h1
theorem retA' (X : Stand p l e R s m args below meth c T locs cells slots) (hx : p.tables.exec = Jvm.exec) (hlk : meth.locks = false) {t : FieldType} (hr : meth.sig.returnType = some t) (ht : t.isReference = true) {w : Value} (hw : w.isRef = true) (hd : decode c.code pc = .ok (.areturn, 1)) {C S : Nat} (hC : cells ≤ C) (hS : slots ≤ S) {Qc : Option Value → Heap → List Loc → Prop} (eT : T.heap = h) (k : Qc (some w) h locs) : Wp p e below (fun v t L => Qc v t.heap L) (NF s C S) T (mkF m pc Ls (w :: st)) := by
  obtain ⟨fs, h1, h2, h3, hW, hs⟩ := X.leave (v := some w) (fun h => by rw [hr] at h; cases h)
  refine ⟨_, _, _, ?_, h2, h3, (by subst eT; exact k), ⟨_, rfl⟩, hW, hs.mono hC hS⟩
  exact retOut X hx hr (narR ht) (Or.inr (Or.inr (Or.inr (Or.inr ⟨rfl, ht, hw⟩)))) hd h1
theorem ret0' (X : Stand p l e R s m args below meth c T locs cells slots) (hx : p.tables.exec = Jvm.exec) (hlk : meth.locks = false) (hr : meth.sig.returnType = none) (hd : decode c.code pc = .ok (.return_, 1)) {C S : Nat} (hC : cells ≤ C) (hS : slots ≤ S) {Qc : Option Value → Heap → List Loc → Prop} (eT : T.heap = h) (k : Qc none h locs) : Wp p e below (fun v t L => Qc v t.heap L) (NF s C S) T (mkF m pc Ls []) := by
  obtain ⟨fs, h1, h2, h3, hW, hs⟩ := X.leave (v := none) (fun _ => rfl)
  refine ⟨_, _, _, ?_, h2, h3, (by subst eT; exact k), ⟨_, rfl⟩, hW, hs.mono hC hS⟩
  exact X.returnOut hx hr hd h1
end B
end Wk
end Jvm.OwnW
namespace Jvm.Pilot.@@N@@
open Jvm Jvm.ClassFile Sem Op Lib Jvm.Free Jvm.Stand Jvm.LawKit Jvm.RoadKit Jvm.OwnW Bundle Jvm.Pilot.@@N@@.Jvm.D
theorem pn0 : plainName "java/time/temporal/ValueRange" = true := by first | (simp [plainName, overriddenIn]; done) | decide +kernel
theorem d6_0 : decode jdk_2423_method_6_code 0 = .ok (.aload_n 0, 1) := by decide +kernel
theorem d6_1 : decode jdk_2423_method_6_code 1 = .ok (.getfield 33, 3) := by decide +kernel
theorem d6_4 : decode jdk_2423_method_6_code 4 = .ok (.lreturn, 1) := by decide +kernel
def Q_rm_min (Z : State) (vr_ : Addr) (h0 : Heap) (v : Option Value) (h : Heap) (L : List Loc) : Prop := v = some (.long (-365243219162 : Int64)) ∧ Fk h0.size [] L ∧ h = h0
set_option maxRecDepth 65536 in
set_option maxHeartbeats 40000000 in
theorem rm_min (l : Launch) (Z : State) (a0 : Array Value) (hw : ∀ d ∈ tables_1, d.before a0 Z = true) (ws : List Jvm.Cond) (vr_ : Addr) (h0 : Heap) (O0 : Old Z Z.heap.size h0) (pf1 : Fld Z h0 vr_ "java/time/temporal/ValueRange" "minSmallest" "J" (.long (-365243219162 : Int64))) :
    Ctr l Z (⟨"java/time/temporal/ValueRange", "getMinimum", "()J"⟩ : MethodName) jdk_2423_method_6_code 1 (some .long) ws ({ frames := 0, cells := 0, slots := 0, locals := 0 } : Room) #[(.ref vr_)] h0 (Q_rm_min Z vr_ h0) := by
  refine Ctr.intro (Ls := fun _ => #[.val (.ref vr_)]) (plainFor_of_name pn0) (fun m => by first | rfl | (simp [entryFrame, mkF, argsToLocals, Value.category]; done)) ?_
  intro p e s m below meth c s₁ hx hby hml hr hlk hZ hown hnm hs0 X0 e0
  have w : ∀ (k : Nat) (d : Jvm.Cond), tables_1[k]? = some d → d.before a0 Z = true := fun k d q => hw d (List.mem_of_getElem? q)
  have N0 := Fk.nil h0.size []
  refine Wk.aloadN X0 hx (hb hby d6_0) rfl rfl rfl ?_
  refine Wk.getfield X0 hx hZ hown (host := "") (Or.inl (w 37 _ rfl)) Via.refl e0 pf1 (hb hby d6_1) rfl ?_
  intro T1 X1 e1
  exact Wk.retJ' X1 hx hlk hr (hb hby d6_4) (by decide) (by decide) (Qc := Q_rm_min Z vr_ h0) e1 ⟨rfl, N0, rfl⟩
theorem d7_0 : decode jdk_2423_method_9_code 0 = .ok (.aload_n 0, 1) := by decide +kernel
theorem d7_1 : decode jdk_2423_method_9_code 1 = .ok (.getfield 43, 3) := by decide +kernel
theorem d7_4 : decode jdk_2423_method_9_code 4 = .ok (.lreturn, 1) := by decide +kernel
def Q_rm_max (Z : State) (vr_ : Addr) (h0 : Heap) (v : Option Value) (h : Heap) (L : List Loc) : Prop := v = some (.long (365241780471 : Int64)) ∧ Fk h0.size [] L ∧ h = h0
set_option maxRecDepth 65536 in
set_option maxHeartbeats 40000000 in
theorem rm_max (l : Launch) (Z : State) (a0 : Array Value) (hw : ∀ d ∈ tables_1, d.before a0 Z = true) (ws : List Jvm.Cond) (vr_ : Addr) (h0 : Heap) (O0 : Old Z Z.heap.size h0) (pf1 : Fld Z h0 vr_ "java/time/temporal/ValueRange" "maxLargest" "J" (.long (365241780471 : Int64))) :
    Ctr l Z (⟨"java/time/temporal/ValueRange", "getMaximum", "()J"⟩ : MethodName) jdk_2423_method_9_code 1 (some .long) ws ({ frames := 0, cells := 0, slots := 0, locals := 0 } : Room) #[(.ref vr_)] h0 (Q_rm_max Z vr_ h0) := by
  refine Ctr.intro (Ls := fun _ => #[.val (.ref vr_)]) (plainFor_of_name pn0) (fun m => by first | rfl | (simp [entryFrame, mkF, argsToLocals, Value.category]; done)) ?_
  intro p e s m below meth c s₁ hx hby hml hr hlk hZ hown hnm hs0 X0 e0
  have w : ∀ (k : Nat) (d : Jvm.Cond), tables_1[k]? = some d → d.before a0 Z = true := fun k d q => hw d (List.mem_of_getElem? q)
  have N0 := Fk.nil h0.size []
  refine Wk.aloadN X0 hx (hb hby d7_0) rfl rfl rfl ?_
  refine Wk.getfield X0 hx hZ hown (host := "") (Or.inl (w 44 _ rfl)) Via.refl e0 pf1 (hb hby d7_1) rfl ?_
  intro T1 X1 e1
  exact Wk.retJ' X1 hx hlk hr (hb hby d7_4) (by decide) (by decide) (Qc := Q_rm_max Z vr_ h0) e1 ⟨rfl, N0, rfl⟩
theorem d5_0 : decode jdk_2423_method_11_code 0 = .ok (.lload_n 1, 1) := by decide +kernel
theorem d5_1 : decode jdk_2423_method_11_code 1 = .ok (.aload_n 0, 1) := by decide +kernel
theorem d5_2 : decode jdk_2423_method_11_code 2 = .ok (.invokevirtual 46, 3) := by decide +kernel
theorem pd1 : parseMethodDescriptor "()J" = some ⟨[], some .long⟩ := by decide +kernel
theorem d5_5 : decode jdk_2423_method_11_code 5 = .ok (.lcmp, 1) := by decide +kernel
theorem d5_6 : decode jdk_2423_method_11_code 6 = .ok (.ifCond .lt 16, 3) := by decide +kernel
theorem d5_9 : decode jdk_2423_method_11_code 9 = .ok (.lload_n 1, 1) := by decide +kernel
theorem d5_10 : decode jdk_2423_method_11_code 10 = .ok (.aload_n 0, 1) := by decide +kernel
theorem d5_11 : decode jdk_2423_method_11_code 11 = .ok (.invokevirtual 54, 3) := by decide +kernel
theorem d5_14 : decode jdk_2423_method_11_code 14 = .ok (.lcmp, 1) := by decide +kernel
theorem d5_15 : decode jdk_2423_method_11_code 15 = .ok (.ifCond .gt 7, 3) := by decide +kernel
theorem d5_18 : decode jdk_2423_method_11_code 18 = .ok (.iconst 1, 1) := by decide +kernel
theorem d5_19 : decode jdk_2423_method_11_code 19 = .ok (.goto 4, 3) := by decide +kernel
theorem d5_23 : decode jdk_2423_method_11_code 23 = .ok (.ireturn, 1) := by decide +kernel
def Q_rm_isv (Z : State) (vr_ : Addr) (q : Int64) (h0 : Heap) (v : Option Value) (h : Heap) (L : List Loc) : Prop := v = some (.int (1 : Int32)) ∧ Fk h0.size [] L ∧ h = h0
set_option maxRecDepth 65536 in
set_option maxHeartbeats 40000000 in
theorem rm_isv (l : Launch) (Z : State) (a0 : Array Value) (hw : ∀ d ∈ tables_1, d.before a0 Z = true) (ws : List Jvm.Cond) (vr_ : Addr) (q : Int64) (h0 : Heap) (O0 : Old Z Z.heap.size h0) (hE : Exa Z h0 vr_ "java/time/temporal/ValueRange") (pf1 : Fld Z h0 vr_ "java/time/temporal/ValueRange" "minSmallest" "J" (.long (-365243219162 : Int64))) (pf2 : Fld Z h0 vr_ "java/time/temporal/ValueRange" "maxLargest" "J" (.long (365241780471 : Int64))) (hlo : ¬ q < (-365243219162 : Int64)) (hhi : ¬ (365241780471 : Int64) < q) :
    Ctr l Z (⟨"java/time/temporal/ValueRange", "isValidValue", "(J)Z"⟩ : MethodName) jdk_2423_method_11_code 3 (some .boolean) ws ({ frames := 1, cells := 0, slots := 0, locals := 14 } : Room) #[(.ref vr_), (.long q)] h0 (Q_rm_isv Z vr_ q h0) := by
  refine Ctr.intro (Ls := fun _ => #[.val (.ref vr_), .val (.long q), .second]) (plainFor_of_name pn0) (fun m => by first | rfl | (simp [entryFrame, mkF, argsToLocals, Value.category]; done)) ?_
  intro p e s m below meth c s₁ hx hby hml hr hlk hZ hown hnm hs0 X0 e0
  have w : ∀ (k : Nat) (d : Jvm.Cond), tables_1[k]? = some d → d.before a0 Z = true := fun k d q => hw d (List.mem_of_getElem? q)
  have N0 := Fk.nil h0.size []
  refine Wk.lloadN X0 hx (hb hby d5_0) rfl rfl ?_
  refine Wk.aloadN X0 hx (hb hby d5_1) rfl rfl rfl ?_
  refine Wk.callV X0 hx hZ (y := (⟨"java/time/temporal/ValueRange", "getMinimum", "()J"⟩ : MethodName)) (z := (⟨"java/time/temporal/ValueRange", "getMinimum", "()J"⟩ : MethodName)) hown (w 32 _ rfl) (w 33 _ rfl) (notFace_of_selects (args := #[]) (mvT hZ (w 35 _ rfl))) (w 35 _ rfl) (w 34 _ rfl) (by decide) (as' := []) (backOf (W := 2) (rm_min l Z a0 hw [] vr_ h0 O0 pf1) hZ (w 36 _ rfl) (w 25 _ rfl) (by decide) (by decide)) e0 hE (by rw [hml]; rfl) (rest := [(.long q)]) (lenOf pd1 rfl) rfl (Nat.le_of_eq rfl) (hb hby d5_2) rfl (by decide) (by decide) ?_
  intro T1 h1 v1 L1 X1 e1 hQ1
  obtain ⟨rfl, Nq1, K1⟩ := hQ1
  have N1 := Fk.app N0 Nq1 (Nat.le_refl _) all0
  rw [K1] at e1
  show Wp p e below _ _ T1 (mkF m 5 #[.val (.ref vr_), .val (.long q), .second] [(.long (-365243219162 : Int64)), (.long q)])
  refine Wk.lcmp X1 hx (hb hby d5_5) rfl ?_
  refine Wk.ifNo X1 hx (hb hby d5_6) rfl ((if0 _ _).trans (flt (fun z => hlo ((lw_lt _ _).mp z))).1) ?_
  refine Wk.lloadN X1 hx (hb hby d5_9) rfl rfl ?_
  refine Wk.aloadN X1 hx (hb hby d5_10) rfl rfl rfl ?_
  refine Wk.callV X1 hx hZ (y := (⟨"java/time/temporal/ValueRange", "getMaximum", "()J"⟩ : MethodName)) (z := (⟨"java/time/temporal/ValueRange", "getMaximum", "()J"⟩ : MethodName)) hown (w 39 _ rfl) (w 40 _ rfl) (notFace_of_selects (args := #[]) (mvT hZ (w 42 _ rfl))) (w 42 _ rfl) (w 41 _ rfl) (by decide) (as' := []) (backOf (W := 2) (rm_max l Z a0 hw [] vr_ h0 O0 pf2) hZ (w 43 _ rfl) (w 25 _ rfl) (by decide) (by decide)) e1 hE (by rw [hml]; rfl) (rest := [(.long q)]) (lenOf pd1 rfl) rfl (Nat.le_of_eq rfl) (hb hby d5_11) rfl (by decide) (by decide) ?_
  intro T2 h2 v2 L2 X2 e2 hQ2
  obtain ⟨rfl, Nq2, K2⟩ := hQ2
  have N2 := Fk.app N1 Nq2 (Nat.le_refl _) all0
  rw [K2] at e2
  show Wp p e below _ _ T2 (mkF m 14 #[.val (.ref vr_), .val (.long q), .second] [(.long (365241780471 : Int64)), (.long q)])
  refine Wk.lcmp X2 hx (hb hby d5_14) rfl ?_
  refine Wk.ifNo X2 hx (hb hby d5_15) rfl ((if0 _ _).trans (flt (fun z => hhi ((lw_gt _ _).mp z))).2.2.1) ?_
  refine Wk.iconst X2 hx (v := (1 : Int32)) (hb hby d5_18) rfl rfl ?_
  refine Wk.goto X2 hx (hb hby d5_19) (by decide) (q := 23) rfl ?_
  exact Wk.retZ' X2 hx hlk hr (by simp) (hb hby d5_23) (by decide) (by decide) (Qc := Q_rm_isv Z vr_ q h0) e2 ⟨rfl, N2, rfl⟩
theorem d4_0 : decode jdk_2423_method_13_code 0 = .ok (.aload_n 0, 1) := by decide +kernel
theorem d4_1 : decode jdk_2423_method_13_code 1 = .ok (.lload_n 1, 1) := by decide +kernel
theorem d4_2 : decode jdk_2423_method_13_code 2 = .ok (.invokevirtual 63, 3) := by decide +kernel
theorem pd2 : parseMethodDescriptor "(J)Z" = some ⟨[.long], some .boolean⟩ := by decide +kernel
theorem d4_5 : decode jdk_2423_method_13_code 5 = .ok (.ifCond .ne 17, 3) := by decide +kernel
theorem d4_22 : decode jdk_2423_method_13_code 22 = .ok (.lload_n 1, 1) := by decide +kernel
theorem d4_23 : decode jdk_2423_method_13_code 23 = .ok (.lreturn, 1) := by decide +kernel
def Q_rm_chk (Z : State) (vr_ : Addr) (q : Int64) (u : Addr) (h0 : Heap) (v : Option Value) (h : Heap) (L : List Loc) : Prop := v = some (.long q) ∧ Fk h0.size [] L ∧ h = h0
set_option maxRecDepth 65536 in
set_option maxHeartbeats 40000000 in
theorem rm_chk (l : Launch) (Z : State) (a0 : Array Value) (hw : ∀ d ∈ tables_1, d.before a0 Z = true) (ws : List Jvm.Cond) (vr_ : Addr) (q : Int64) (u : Addr) (h0 : Heap) (O0 : Old Z Z.heap.size h0) (hE : Exa Z h0 vr_ "java/time/temporal/ValueRange") (pf1 : Fld Z h0 vr_ "java/time/temporal/ValueRange" "minSmallest" "J" (.long (-365243219162 : Int64))) (pf2 : Fld Z h0 vr_ "java/time/temporal/ValueRange" "maxLargest" "J" (.long (365241780471 : Int64))) (hlo : ¬ q < (-365243219162 : Int64)) (hhi : ¬ (365241780471 : Int64) < q) :
    Ctr l Z (⟨"java/time/temporal/ValueRange", "checkValidValue", "(JLjava/time/temporal/TemporalField;)J"⟩ : MethodName) jdk_2423_method_13_code 4 (some .long) ws ({ frames := 2, cells := 0, slots := 0, locals := 28 } : Room) #[(.ref vr_), (.long q), (.ref u)] h0 (Q_rm_chk Z vr_ q u h0) := by
  refine Ctr.intro (Ls := fun _ => #[.val (.ref vr_), .val (.long q), .second, .val (.ref u)]) (plainFor_of_name pn0) (fun m => by first | rfl | (simp [entryFrame, mkF, argsToLocals, Value.category]; done)) ?_
  intro p e s m below meth c s₁ hx hby hml hr hlk hZ hown hnm hs0 X0 e0
  have w : ∀ (k : Nat) (d : Jvm.Cond), tables_1[k]? = some d → d.before a0 Z = true := fun k d q => hw d (List.mem_of_getElem? q)
  have N0 := Fk.nil h0.size []
  refine Wk.aloadN X0 hx (hb hby d4_0) rfl rfl rfl ?_
  refine Wk.lloadN X0 hx (hb hby d4_1) rfl rfl ?_
  refine Wk.callV X0 hx hZ (y := (⟨"java/time/temporal/ValueRange", "isValidValue", "(J)Z"⟩ : MethodName)) (z := (⟨"java/time/temporal/ValueRange", "isValidValue", "(J)Z"⟩ : MethodName)) hown (w 27 _ rfl) (w 28 _ rfl) (notFace_of_selects (args := #[]) (mvT hZ (w 30 _ rfl))) (w 30 _ rfl) (w 29 _ rfl) (by decide) (as' := [(.long q)]) (backOf (W := 0) (rm_isv l Z a0 hw [] vr_ q h0 O0 hE pf1 pf2 hlo hhi) hZ (w 31 _ rfl) (w 25 _ rfl) (by decide) (by decide)) e0 hE (by rw [hml]; rfl) (rest := []) (lenOf pd2 rfl) rfl (Nat.le_of_eq rfl) (hb hby d4_2) rfl (by decide) (by decide) ?_
  intro T1 h1 v1 L1 X1 e1 hQ1
  obtain ⟨rfl, Nq1, K1⟩ := hQ1
  have N1 := Fk.app N0 Nq1 (Nat.le_refl _) all0
  rw [K1] at e1
  show Wp p e below _ _ T1 (mkF m 5 #[.val (.ref vr_), .val (.long q), .second, .val (.ref u)] [(.int (1 : Int32))])
  refine Wk.ifYes X1 hx (hb hby d4_5) (by decide) (q := 22) rfl ((if0 _ _).trans (feq (by decide : ¬ ((1 : Int32) = (0 : Int32)))).2) ?_
  refine Wk.lloadN X1 hx (hb hby d4_22) rfl rfl ?_
  exact Wk.retJ' X1 hx hlk hr (hb hby d4_23) (by decide) (by decide) (Qc := Q_rm_chk Z vr_ q u h0) e1 ⟨rfl, N1, rfl⟩
theorem pn3 : plainName "java/time/temporal/ChronoField" = true := by first | (simp [plainName, overriddenIn]; done) | decide +kernel
theorem d3_0 : decode jdk_2395_method_8_code 0 = .ok (.aload_n 0, 1) := by decide +kernel
theorem d3_1 : decode jdk_2395_method_8_code 1 = .ok (.getfield 124, 3) := by decide +kernel
theorem d3_4 : decode jdk_2395_method_8_code 4 = .ok (.areturn, 1) := by decide +kernel
def Q_rm_rng (Z : State) (u : Addr) (vr_ : Addr) (h0 : Heap) (v : Option Value) (h : Heap) (L : List Loc) : Prop := v = some (.ref vr_) ∧ Fk h0.size [] L ∧ h = h0
set_option maxRecDepth 65536 in
set_option maxHeartbeats 40000000 in
theorem rm_rng (l : Launch) (Z : State) (a0 : Array Value) (hw : ∀ d ∈ tables_1, d.before a0 Z = true) (ws : List Jvm.Cond) (u : Addr) (vr_ : Addr) (h0 : Heap) (O0 : Old Z Z.heap.size h0) (pf0 : Fld Z h0 u "java/time/temporal/ChronoField" "range" "Ljava/time/temporal/ValueRange;" (.ref vr_)) :
    Ctr l Z (⟨"java/time/temporal/ChronoField", "range", "()Ljava/time/temporal/ValueRange;"⟩ : MethodName) jdk_2395_method_8_code 1 (some (.object "java/time/temporal/ValueRange")) ws ({ frames := 0, cells := 0, slots := 0, locals := 0 } : Room) #[(.ref u)] h0 (Q_rm_rng Z u vr_ h0) := by
  refine Ctr.intro (Ls := fun _ => #[.val (.ref u)]) (plainFor_of_name pn3) (fun m => by first | rfl | (simp [entryFrame, mkF, argsToLocals, Value.category]; done)) ?_
  intro p e s m below meth c s₁ hx hby hml hr hlk hZ hown hnm hs0 X0 e0
  have w : ∀ (k : Nat) (d : Jvm.Cond), tables_1[k]? = some d → d.before a0 Z = true := fun k d q => hw d (List.mem_of_getElem? q)
  have N0 := Fk.nil h0.size []
  refine Wk.aloadN X0 hx (hb hby d3_0) rfl rfl rfl ?_
  refine Wk.getfield X0 hx hZ hown (host := "") (Or.inl (w 19 _ rfl)) Via.refl e0 pf0 (hb hby d3_1) rfl ?_
  intro T1 X1 e1
  exact Wk.retA' X1 hx hlk hr rfl rfl (hb hby d3_4) (by decide) (by decide) (Qc := Q_rm_rng Z u vr_ h0) e1 ⟨rfl, N0, rfl⟩
theorem d2_0 : decode jdk_2395_method_11_code 0 = .ok (.aload_n 0, 1) := by decide +kernel
theorem d2_1 : decode jdk_2395_method_11_code 1 = .ok (.invokevirtual 190, 3) := by decide +kernel
theorem pd4 : parseMethodDescriptor "()Ljava/time/temporal/ValueRange;" = some ⟨[], some (.object "java/time/temporal/ValueRange")⟩ := by decide +kernel
theorem d2_4 : decode jdk_2395_method_11_code 4 = .ok (.lload_n 1, 1) := by decide +kernel
theorem d2_5 : decode jdk_2395_method_11_code 5 = .ok (.aload_n 0, 1) := by decide +kernel
theorem d2_6 : decode jdk_2395_method_11_code 6 = .ok (.invokevirtual 193, 3) := by decide +kernel
theorem pd5 : parseMethodDescriptor "(JLjava/time/temporal/TemporalField;)J" = some ⟨[.long, (.object "java/time/temporal/TemporalField")], some .long⟩ := by decide +kernel
theorem d2_9 : decode jdk_2395_method_11_code 9 = .ok (.lreturn, 1) := by decide +kernel
def Q_rm_cck (Z : State) (u : Addr) (vr_ : Addr) (q : Int64) (h0 : Heap) (v : Option Value) (h : Heap) (L : List Loc) : Prop := v = some (.long q) ∧ Fk h0.size [] L ∧ h = h0
set_option maxRecDepth 65536 in
set_option maxHeartbeats 40000000 in
theorem rm_cck (l : Launch) (Z : State) (a0 : Array Value) (hw : ∀ d ∈ tables_1, d.before a0 Z = true) (ws : List Jvm.Cond) (u : Addr) (vr_ : Addr) (q : Int64) (h0 : Heap) (O0 : Old Z Z.heap.size h0) (hU : Exa Z h0 u "java/time/temporal/ChronoField") (pf0 : Fld Z h0 u "java/time/temporal/ChronoField" "range" "Ljava/time/temporal/ValueRange;" (.ref vr_)) (hE : Exa Z h0 vr_ "java/time/temporal/ValueRange") (pf1 : Fld Z h0 vr_ "java/time/temporal/ValueRange" "minSmallest" "J" (.long (-365243219162 : Int64))) (pf2 : Fld Z h0 vr_ "java/time/temporal/ValueRange" "maxLargest" "J" (.long (365241780471 : Int64))) (hlo : ¬ q < (-365243219162 : Int64)) (hhi : ¬ (365241780471 : Int64) < q) :
    Ctr l Z (⟨"java/time/temporal/ChronoField", "checkValidValue", "(J)J"⟩ : MethodName) jdk_2395_method_11_code 3 (some .long) ws ({ frames := 3, cells := 0, slots := 0, locals := 43 } : Room) #[(.ref u), (.long q)] h0 (Q_rm_cck Z u vr_ q h0) := by
  refine Ctr.intro (Ls := fun _ => #[.val (.ref u), .val (.long q), .second]) (plainFor_of_name pn3) (fun m => by first | rfl | (simp [entryFrame, mkF, argsToLocals, Value.category]; done)) ?_
  intro p e s m below meth c s₁ hx hby hml hr hlk hZ hown hnm hs0 X0 e0
  have w : ∀ (k : Nat) (d : Jvm.Cond), tables_1[k]? = some d → d.before a0 Z = true := fun k d q => hw d (List.mem_of_getElem? q)
  have N0 := Fk.nil h0.size []
  refine Wk.aloadN X0 hx (hb hby d2_0) rfl rfl rfl ?_
  refine Wk.callV X0 hx hZ (y := (⟨"java/time/temporal/ChronoField", "range", "()Ljava/time/temporal/ValueRange;"⟩ : MethodName)) (z := (⟨"java/time/temporal/ChronoField", "range", "()Ljava/time/temporal/ValueRange;"⟩ : MethodName)) hown (w 14 _ rfl) (w 15 _ rfl) (notFace_of_selects (args := #[]) (mvT hZ (w 17 _ rfl))) (w 17 _ rfl) (w 16 _ rfl) (by decide) (as' := []) (backOf (W := 0) (rm_rng l Z a0 hw [] u vr_ h0 O0 pf0) hZ (w 18 _ rfl) (w 8 _ rfl) (by decide) (by decide)) e0 hU (by rw [hml]; rfl) (rest := []) (lenOf pd4 rfl) rfl (Nat.le_of_eq rfl) (hb hby d2_1) rfl (by decide) (by decide) ?_
  intro T1 h1 v1 L1 X1 e1 hQ1
  obtain ⟨rfl, Nq1, K1⟩ := hQ1
  have N1 := Fk.app N0 Nq1 (Nat.le_refl _) all0
  rw [K1] at e1
  show Wp p e below _ _ T1 (mkF m 4 #[.val (.ref u), .val (.long q), .second] [(.ref vr_)])
  refine Wk.lloadN X1 hx (hb hby d2_4) rfl rfl ?_
  refine Wk.aloadN X1 hx (hb hby d2_5) rfl rfl rfl ?_
  refine Wk.callV X1 hx hZ (y := (⟨"java/time/temporal/ValueRange", "checkValidValue", "(JLjava/time/temporal/TemporalField;)J"⟩ : MethodName)) (z := (⟨"java/time/temporal/ValueRange", "checkValidValue", "(JLjava/time/temporal/TemporalField;)J"⟩ : MethodName)) hown (w 21 _ rfl) (w 22 _ rfl) (notFace_of_selects (args := #[]) (mvT hZ (w 24 _ rfl))) (w 24 _ rfl) (w 23 _ rfl) (by decide) (as' := [(.long q), (.ref u)]) (backOf (W := 0) (rm_chk l Z a0 hw [] vr_ q u h0 O0 hE pf1 pf2 hlo hhi) hZ (w 26 _ rfl) (w 25 _ rfl) (by decide) (by decide)) e1 hE (by rw [hml]; rfl) (rest := []) (lenOf pd5 rfl) rfl (Nat.le_of_eq rfl) (hb hby d2_6) rfl (by decide) (by decide) ?_
  intro T2 h2 v2 L2 X2 e2 hQ2
  obtain ⟨rfl, Nq2, K2⟩ := hQ2
  have N2 := Fk.app N1 Nq2 (Nat.le_refl _) all0
  rw [K2] at e2
  show Wp p e below _ _ T2 (mkF m 9 #[.val (.ref u), .val (.long q), .second] [(.long q)])
  exact Wk.retJ' X2 hx hlk hr (hb hby d2_9) (by decide) (by decide) (Qc := Q_rm_cck Z u vr_ q h0) e2 ⟨rfl, N2, rfl⟩
theorem pn6 : plainName "java/time/LocalDate" = true := by first | (simp [plainName, overriddenIn]; done) | decide +kernel
theorem d8_0 : decode jdk_2323_method_14_code 0 = .ok (.aload_n 0, 1) := by decide +kernel
theorem d8_1 : decode jdk_2323_method_14_code 1 = .ok (.invokespecial 243, 3) := by decide +kernel
theorem d8_4 : decode jdk_2323_method_14_code 4 = .ok (.aload_n 0, 1) := by decide +kernel
theorem d8_5 : decode jdk_2323_method_14_code 5 = .ok (.iload_n 1, 1) := by decide +kernel
theorem d8_6 : decode jdk_2323_method_14_code 6 = .ok (.putfield 246, 3) := by decide +kernel
theorem d8_9 : decode jdk_2323_method_14_code 9 = .ok (.aload_n 0, 1) := by decide +kernel
theorem d8_10 : decode jdk_2323_method_14_code 10 = .ok (.iload_n 2, 1) := by decide +kernel
theorem d8_11 : decode jdk_2323_method_14_code 11 = .ok (.i2s, 1) := by decide +kernel
theorem d8_12 : decode jdk_2323_method_14_code 12 = .ok (.putfield 250, 3) := by decide +kernel
theorem d8_15 : decode jdk_2323_method_14_code 15 = .ok (.aload_n 0, 1) := by decide +kernel
theorem d8_16 : decode jdk_2323_method_14_code 16 = .ok (.iload_n 3, 1) := by decide +kernel
theorem d8_17 : decode jdk_2323_method_14_code 17 = .ok (.i2s, 1) := by decide +kernel
theorem d8_18 : decode jdk_2323_method_14_code 18 = .ok (.putfield 253, 3) := by decide +kernel
theorem d8_21 : decode jdk_2323_method_14_code 21 = .ok (.return_, 1) := by decide +kernel
def Q_rm_ldi (Z : State) (a : Addr) (y : Int32) (mo : Int32) (dy : Int32) (h0 : Heap) (v : Option Value) (h : Heap) (L : List Loc) : Prop := v = none ∧ Fk h0.size [a] L ∧ Keep h0 h [a] ∧ Exa Z h a "java/time/LocalDate"
set_option maxRecDepth 65536 in
set_option maxHeartbeats 40000000 in
theorem rm_ldi (l : Launch) (Z : State) (a0 : Array Value) (hw : ∀ d ∈ tables_1, d.before a0 Z = true) (ws : List Jvm.Cond) (a : Addr) (y : Int32) (mo : Int32) (dy : Int32) (h0 : Heap) (O0 : Old Z Z.heap.size h0) (hE : Exa Z h0 a "java/time/LocalDate") (gyear : Fld Z h0 a "java/time/LocalDate" "year" "I" (.int (0 : Int32))) (gmonth : Fld Z h0 a "java/time/LocalDate" "month" "S" (.int (0 : Int32))) (gday : Fld Z h0 a "java/time/LocalDate" "day" "S" (.int (0 : Int32))) (ha : Z.heap.size ≤ a) :
    Ctr l Z (⟨"java/time/LocalDate", "<init>", "(III)V"⟩ : MethodName) jdk_2323_method_14_code 4 none ws ({ frames := 1, cells := 0, slots := 0, locals := 12 } : Room) #[(.ref a), (.int y), (.int mo), (.int dy)] h0 (Q_rm_ldi Z a y mo dy h0) := by
  refine Ctr.intro (Ls := fun _ => #[.val (.ref a), .val (.int y), .val (.int mo), .val (.int dy)]) (plainFor_of_name pn6) (fun m => by first | rfl | (simp [entryFrame, mkF, argsToLocals, Value.category]; done)) ?_
  intro p e s m below meth c s₁ hx hby hml hr hlk hZ hown hnm hs0 X0 e0
  have w : ∀ (k : Nat) (d : Jvm.Cond), tables_1[k]? = some d → d.before a0 Z = true := fun k d q => hw d (List.mem_of_getElem? q)
  have N0 := Fk.nil h0.size [a]
  refine Wk.aloadN X0 hx (hb hby d8_0) rfl rfl rfl ?_
  refine Wk.objinit X0 hx hZ hown (w 60 _ rfl) (w 61 _ rfl) (w 62 _ rfl) e0 (by rw [hml]; rfl) (hb hby d8_1) rfl (by decide) 0 (Nat.le_of_eq rfl) (by decide) ?_
  intro T1 X1 e1
  refine Wk.aloadN X1 hx (hb hby d8_4) rfl rfl rfl ?_
  refine Wk.iloadN X1 hx (hb hby d8_5) rfl rfl ?_
  refine Wk.putfield X1 hx hZ hown (host := "") (Or.inl (w 63 _ rfl)) Via.refl e1 gyear hE (Or.inr ⟨(w 64 _ rfl), rfl, hnm⟩) (w 55 _ rfl) (ty := .int) (by decide) rfl rfl (hb hby d8_6) rfl ?_
  intro T2 h2 L2 M2 X2 e2 W2 Fw2
  have N2 := M2 _ _ N0 (Or.inl (List.mem_of_getElem? (i := 0) rfl))
  have O3 : Old Z Z.heap.size h2 := O0.wr W2 ha
  have f4 : Fld Z h2 a "java/time/LocalDate" "month" "S" (.int (0 : Int32)) := gmonth.other W2 (Or.inr (slot_ne (Or.inr (w 66 _ rfl)) (Or.inr (w 64 _ rfl)) (by decide) (t := .short) (t' := .int) (by decide) (by decide)))
  have f5 : Fld Z h2 a "java/time/LocalDate" "day" "S" (.int (0 : Int32)) := gday.other W2 (Or.inr (slot_ne (Or.inr (w 68 _ rfl)) (Or.inr (w 64 _ rfl)) (by decide) (t := .short) (t' := .int) (by decide) (by decide)))
  have E2' : Exa Z h2 a "java/time/LocalDate" := hE.wr W2
  refine Wk.aloadN X2 hx (hb hby d8_9) rfl rfl rfl ?_
  refine Wk.iloadN X2 hx (hb hby d8_10) rfl rfl ?_
  refine Wk.i2s X2 hx (hb hby d8_11) rfl ?_
  intro c6 hc6
  refine Wk.putfieldN X2 hx hZ hown (w 65 _ rfl) Via.refl e2 (v' := (.int (nar .short c6))) f4 E2' (Or.inr ⟨(w 66 _ rfl), rfl, hnm⟩) (w 55 _ rfl) (ty := .short) (by decide) rfl (fits_nar_short _) (hb hby d8_12) rfl ?_
  intro T7 h7 L7 M7 X7 e7 W7 Fw7
  have N7 := M7 _ _ N2 (Or.inl (List.mem_of_getElem? (i := 0) rfl))
  have O8 : Old Z Z.heap.size h7 := O3.wr W7 ha
  have f9 : Fld Z h7 a "java/time/LocalDate" "year" "I" (.int y) := Fw2.other W7 (Or.inr (slot_ne (Or.inr (w 64 _ rfl)) (Or.inr (w 66 _ rfl)) (by decide) (t := .int) (t' := .short) (by decide) (by decide)))
  have f10 : Fld Z h7 a "java/time/LocalDate" "day" "S" (.int (0 : Int32)) := f5.other W7 (Or.inr (slot_ne (Or.inr (w 68 _ rfl)) (Or.inr (w 66 _ rfl)) (by decide) (t := .short) (t' := .short) (by decide) (by decide)))
  have E7' : Exa Z h7 a "java/time/LocalDate" := E2'.wr W7
  refine Wk.aloadN X7 hx (hb hby d8_15) rfl rfl rfl ?_
  refine Wk.iloadN X7 hx (hb hby d8_16) rfl rfl ?_
  refine Wk.i2s X7 hx (hb hby d8_17) rfl ?_
  intro c11 hc11
  refine Wk.putfieldN X7 hx hZ hown (w 67 _ rfl) Via.refl e7 (v' := (.int (nar .short c11))) f10 E7' (Or.inr ⟨(w 68 _ rfl), rfl, hnm⟩) (w 55 _ rfl) (ty := .short) (by decide) rfl (fits_nar_short _) (hb hby d8_18) rfl ?_
  intro T12 h12 L12 M12 X12 e12 W12 Fw12
  have N12 := M12 _ _ N7 (Or.inl (List.mem_of_getElem? (i := 0) rfl))
  have O13 : Old Z Z.heap.size h12 := O8.wr W12 ha
  have f14 : Fld Z h12 a "java/time/LocalDate" "month" "S" (.int (nar .short c6)) := Fw7.other W12 (Or.inr (slot_ne (Or.inr (w 66 _ rfl)) (Or.inr (w 68 _ rfl)) (by decide) (t := .short) (t' := .short) (by decide) (by decide)))
  have f15 : Fld Z h12 a "java/time/LocalDate" "year" "I" (.int y) := f9.other W12 (Or.inr (slot_ne (Or.inr (w 64 _ rfl)) (Or.inr (w 68 _ rfl)) (by decide) (t := .int) (t' := .short) (by decide) (by decide)))
  have E12' : Exa Z h12 a "java/time/LocalDate" := E7'.wr W12
  have KK16 : Keep h0 h12 [a] := ((((Keep.refl h0 [a]).wr W2 (Or.inl (List.mem_of_getElem? (i := 0) rfl))).wr W7 (Or.inl (List.mem_of_getElem? (i := 0) rfl))).wr W12 (Or.inl (List.mem_of_getElem? (i := 0) rfl)))
  exact Wk.ret0' X12 hx hlk hr (hb hby d8_21) (by decide) (by decide) (Qc := Q_rm_ldi Z a y mo dy h0) e12 ⟨rfl, N12, KK16, E12'⟩
theorem d1_0 : decode jdk_2323_method_8_code 0 = .ok (.getstatic 161, 3) := by decide +kernel
theorem d1_3 : decode jdk_2323_method_8_code 3 = .ok (.lload_n 0, 1) := by decide +kernel
theorem d1_4 : decode jdk_2323_method_8_code 4 = .ok (.invokevirtual 45, 3) := by decide +kernel
theorem pd7 : parseMethodDescriptor "(J)J" = some ⟨[.long], some .long⟩ := by decide +kernel
theorem d1_7 : decode jdk_2323_method_8_code 7 = .ok (.pop2, 1) := by decide +kernel
theorem d1_8 : decode jdk_2323_method_8_code 8 = .ok (.lload_n 0, 1) := by decide +kernel
theorem d1_9 : decode jdk_2323_method_8_code 9 = .ok (.ldc2_w 164, 3) := by decide +kernel
theorem d1_12 : decode jdk_2323_method_8_code 12 = .ok (.ladd, 1) := by decide +kernel
theorem d1_13 : decode jdk_2323_method_8_code 13 = .ok (.lstore_n 2, 1) := by decide +kernel
theorem d1_14 : decode jdk_2323_method_8_code 14 = .ok (.lload_n 2, 1) := by decide +kernel
theorem d1_15 : decode jdk_2323_method_8_code 15 = .ok (.ldc2_w 166, 3) := by decide +kernel
theorem d1_18 : decode jdk_2323_method_8_code 18 = .ok (.lsub, 1) := by decide +kernel
theorem d1_19 : decode jdk_2323_method_8_code 19 = .ok (.lstore_n 2, 1) := by decide +kernel
theorem d1_20 : decode jdk_2323_method_8_code 20 = .ok (.lconst 0, 1) := by decide +kernel
theorem d1_21 : decode jdk_2323_method_8_code 21 = .ok (.lstore 4, 2) := by decide +kernel
theorem d1_23 : decode jdk_2323_method_8_code 23 = .ok (.lload_n 2, 1) := by decide +kernel
theorem d1_24 : decode jdk_2323_method_8_code 24 = .ok (.lconst 0, 1) := by decide +kernel
theorem d1_25 : decode jdk_2323_method_8_code 25 = .ok (.lcmp, 1) := by decide +kernel
theorem d1_26 : decode jdk_2323_method_8_code 26 = .ok (.ifCond .ge 32, 3) := by decide +kernel
theorem d1_29 : decode jdk_2323_method_8_code 29 = .ok (.lload_n 2, 1) := by decide +kernel
theorem d1_30 : decode jdk_2323_method_8_code 30 = .ok (.lconst 1, 1) := by decide +kernel
theorem d1_31 : decode jdk_2323_method_8_code 31 = .ok (.ladd, 1) := by decide +kernel
theorem d1_32 : decode jdk_2323_method_8_code 32 = .ok (.ldc2_w 168, 3) := by decide +kernel
theorem d1_35 : decode jdk_2323_method_8_code 35 = .ok (.ldiv, 1) := by decide +kernel
theorem d1_36 : decode jdk_2323_method_8_code 36 = .ok (.lconst 1, 1) := by decide +kernel
theorem d1_37 : decode jdk_2323_method_8_code 37 = .ok (.lsub, 1) := by decide +kernel
theorem d1_38 : decode jdk_2323_method_8_code 38 = .ok (.lstore 6, 2) := by decide +kernel
theorem d1_40 : decode jdk_2323_method_8_code 40 = .ok (.lload 6, 2) := by decide +kernel
theorem d1_42 : decode jdk_2323_method_8_code 42 = .ok (.ldc2_w 170, 3) := by decide +kernel
theorem d1_45 : decode jdk_2323_method_8_code 45 = .ok (.lmul, 1) := by decide +kernel
theorem d1_46 : decode jdk_2323_method_8_code 46 = .ok (.lstore 4, 2) := by decide +kernel
theorem d1_48 : decode jdk_2323_method_8_code 48 = .ok (.lload_n 2, 1) := by decide +kernel
theorem d1_49 : decode jdk_2323_method_8_code 49 = .ok (.lload 6, 2) := by decide +kernel
theorem d1_51 : decode jdk_2323_method_8_code 51 = .ok (.lneg, 1) := by decide +kernel
theorem d1_52 : decode jdk_2323_method_8_code 52 = .ok (.ldc2_w 168, 3) := by decide +kernel
theorem d1_55 : decode jdk_2323_method_8_code 55 = .ok (.lmul, 1) := by decide +kernel
theorem d1_56 : decode jdk_2323_method_8_code 56 = .ok (.ladd, 1) := by decide +kernel
theorem d1_57 : decode jdk_2323_method_8_code 57 = .ok (.lstore_n 2, 1) := by decide +kernel
theorem d1_58 : decode jdk_2323_method_8_code 58 = .ok (.ldc2_w 170, 3) := by decide +kernel
theorem d1_61 : decode jdk_2323_method_8_code 61 = .ok (.lload_n 2, 1) := by decide +kernel
theorem d1_62 : decode jdk_2323_method_8_code 62 = .ok (.lmul, 1) := by decide +kernel
theorem d1_63 : decode jdk_2323_method_8_code 63 = .ok (.ldc2_w 172, 3) := by decide +kernel
theorem d1_66 : decode jdk_2323_method_8_code 66 = .ok (.ladd, 1) := by decide +kernel
theorem d1_67 : decode jdk_2323_method_8_code 67 = .ok (.ldc2_w 168, 3) := by decide +kernel
theorem d1_70 : decode jdk_2323_method_8_code 70 = .ok (.ldiv, 1) := by decide +kernel
theorem d1_71 : decode jdk_2323_method_8_code 71 = .ok (.lstore 6, 2) := by decide +kernel
theorem d1_73 : decode jdk_2323_method_8_code 73 = .ok (.lload_n 2, 1) := by decide +kernel
theorem d1_74 : decode jdk_2323_method_8_code 74 = .ok (.ldc2_w 174, 3) := by decide +kernel
theorem d1_77 : decode jdk_2323_method_8_code 77 = .ok (.lload 6, 2) := by decide +kernel
theorem d1_79 : decode jdk_2323_method_8_code 79 = .ok (.lmul, 1) := by decide +kernel
theorem d1_80 : decode jdk_2323_method_8_code 80 = .ok (.lload 6, 2) := by decide +kernel
theorem d1_82 : decode jdk_2323_method_8_code 82 = .ok (.ldc2_w 176, 3) := by decide +kernel
theorem d1_85 : decode jdk_2323_method_8_code 85 = .ok (.ldiv, 1) := by decide +kernel
theorem d1_86 : decode jdk_2323_method_8_code 86 = .ok (.ladd, 1) := by decide +kernel
theorem d1_87 : decode jdk_2323_method_8_code 87 = .ok (.lload 6, 2) := by decide +kernel
theorem d1_89 : decode jdk_2323_method_8_code 89 = .ok (.ldc2_w 178, 3) := by decide +kernel
theorem d1_92 : decode jdk_2323_method_8_code 92 = .ok (.ldiv, 1) := by decide +kernel
theorem d1_93 : decode jdk_2323_method_8_code 93 = .ok (.lsub, 1) := by decide +kernel
theorem d1_94 : decode jdk_2323_method_8_code 94 = .ok (.lload 6, 2) := by decide +kernel
theorem d1_96 : decode jdk_2323_method_8_code 96 = .ok (.ldc2_w 170, 3) := by decide +kernel
theorem d1_99 : decode jdk_2323_method_8_code 99 = .ok (.ldiv, 1) := by decide +kernel
theorem d1_100 : decode jdk_2323_method_8_code 100 = .ok (.ladd, 1) := by decide +kernel
theorem d1_101 : decode jdk_2323_method_8_code 101 = .ok (.lsub, 1) := by decide +kernel
theorem d1_102 : decode jdk_2323_method_8_code 102 = .ok (.lstore 8, 2) := by decide +kernel
theorem d1_104 : decode jdk_2323_method_8_code 104 = .ok (.lload 8, 2) := by decide +kernel
theorem d1_106 : decode jdk_2323_method_8_code 106 = .ok (.lconst 0, 1) := by decide +kernel
theorem d1_107 : decode jdk_2323_method_8_code 107 = .ok (.lcmp, 1) := by decide +kernel
theorem d1_108 : decode jdk_2323_method_8_code 108 = .ok (.ifCond .ge 40, 3) := by decide +kernel
theorem d1_111 : decode jdk_2323_method_8_code 111 = .ok (.lload 6, 2) := by decide +kernel
theorem d1_113 : decode jdk_2323_method_8_code 113 = .ok (.lconst 1, 1) := by decide +kernel
theorem d1_114 : decode jdk_2323_method_8_code 114 = .ok (.lsub, 1) := by decide +kernel
theorem d1_115 : decode jdk_2323_method_8_code 115 = .ok (.lstore 6, 2) := by decide +kernel
theorem d1_117 : decode jdk_2323_method_8_code 117 = .ok (.lload_n 2, 1) := by decide +kernel
theorem d1_118 : decode jdk_2323_method_8_code 118 = .ok (.ldc2_w 174, 3) := by decide +kernel
theorem d1_121 : decode jdk_2323_method_8_code 121 = .ok (.lload 6, 2) := by decide +kernel
theorem d1_123 : decode jdk_2323_method_8_code 123 = .ok (.lmul, 1) := by decide +kernel
theorem d1_124 : decode jdk_2323_method_8_code 124 = .ok (.lload 6, 2) := by decide +kernel
theorem d1_126 : decode jdk_2323_method_8_code 126 = .ok (.ldc2_w 176, 3) := by decide +kernel
theorem d1_129 : decode jdk_2323_method_8_code 129 = .ok (.ldiv, 1) := by decide +kernel
theorem d1_130 : decode jdk_2323_method_8_code 130 = .ok (.ladd, 1) := by decide +kernel
theorem d1_131 : decode jdk_2323_method_8_code 131 = .ok (.lload 6, 2) := by decide +kernel
theorem d1_133 : decode jdk_2323_method_8_code 133 = .ok (.ldc2_w 178, 3) := by decide +kernel
theorem d1_136 : decode jdk_2323_method_8_code 136 = .ok (.ldiv, 1) := by decide +kernel
theorem d1_137 : decode jdk_2323_method_8_code 137 = .ok (.lsub, 1) := by decide +kernel
theorem d1_138 : decode jdk_2323_method_8_code 138 = .ok (.lload 6, 2) := by decide +kernel
theorem d1_140 : decode jdk_2323_method_8_code 140 = .ok (.ldc2_w 170, 3) := by decide +kernel
theorem d1_143 : decode jdk_2323_method_8_code 143 = .ok (.ldiv, 1) := by decide +kernel
theorem d1_144 : decode jdk_2323_method_8_code 144 = .ok (.ladd, 1) := by decide +kernel
theorem d1_145 : decode jdk_2323_method_8_code 145 = .ok (.lsub, 1) := by decide +kernel
theorem d1_146 : decode jdk_2323_method_8_code 146 = .ok (.lstore 8, 2) := by decide +kernel
theorem d1_148 : decode jdk_2323_method_8_code 148 = .ok (.lload 6, 2) := by decide +kernel
theorem d1_150 : decode jdk_2323_method_8_code 150 = .ok (.lload 4, 2) := by decide +kernel
theorem d1_152 : decode jdk_2323_method_8_code 152 = .ok (.ladd, 1) := by decide +kernel
theorem d1_153 : decode jdk_2323_method_8_code 153 = .ok (.lstore 6, 2) := by decide +kernel
theorem d1_155 : decode jdk_2323_method_8_code 155 = .ok (.lload 8, 2) := by decide +kernel
theorem d1_157 : decode jdk_2323_method_8_code 157 = .ok (.l2i, 1) := by decide +kernel
theorem d1_158 : decode jdk_2323_method_8_code 158 = .ok (.istore 10, 2) := by decide +kernel
theorem d1_160 : decode jdk_2323_method_8_code 160 = .ok (.iload 10, 2) := by decide +kernel
theorem d1_162 : decode jdk_2323_method_8_code 162 = .ok (.iconst 5, 1) := by decide +kernel
theorem d1_163 : decode jdk_2323_method_8_code 163 = .ok (.imul, 1) := by decide +kernel
theorem d1_164 : decode jdk_2323_method_8_code 164 = .ok (.iconst 2, 1) := by decide +kernel
theorem d1_165 : decode jdk_2323_method_8_code 165 = .ok (.iadd, 1) := by decide +kernel
theorem d1_166 : decode jdk_2323_method_8_code 166 = .ok (.sipush 153, 3) := by decide +kernel
theorem d1_169 : decode jdk_2323_method_8_code 169 = .ok (.idiv, 1) := by decide +kernel
theorem d1_170 : decode jdk_2323_method_8_code 170 = .ok (.istore 11, 2) := by decide +kernel
theorem d1_172 : decode jdk_2323_method_8_code 172 = .ok (.iload 11, 2) := by decide +kernel
theorem d1_174 : decode jdk_2323_method_8_code 174 = .ok (.iconst 3, 1) := by decide +kernel
theorem d1_175 : decode jdk_2323_method_8_code 175 = .ok (.iadd, 1) := by decide +kernel
theorem d1_176 : decode jdk_2323_method_8_code 176 = .ok (.istore 12, 2) := by decide +kernel
theorem d1_178 : decode jdk_2323_method_8_code 178 = .ok (.iload 12, 2) := by decide +kernel
theorem d1_180 : decode jdk_2323_method_8_code 180 = .ok (.bipush 12, 2) := by decide +kernel
theorem d1_182 : decode jdk_2323_method_8_code 182 = .ok (.if_icmp .le 6, 3) := by decide +kernel
theorem d1_185 : decode jdk_2323_method_8_code 185 = .ok (.iinc 12 (-12), 3) := by decide +kernel
theorem d1_188 : decode jdk_2323_method_8_code 188 = .ok (.iload 10, 2) := by decide +kernel
theorem d1_190 : decode jdk_2323_method_8_code 190 = .ok (.iload 11, 2) := by decide +kernel
theorem d1_192 : decode jdk_2323_method_8_code 192 = .ok (.sipush 306, 3) := by decide +kernel
theorem d1_195 : decode jdk_2323_method_8_code 195 = .ok (.imul, 1) := by decide +kernel
theorem d1_196 : decode jdk_2323_method_8_code 196 = .ok (.iconst 5, 1) := by decide +kernel
theorem d1_197 : decode jdk_2323_method_8_code 197 = .ok (.iadd, 1) := by decide +kernel
theorem d1_198 : decode jdk_2323_method_8_code 198 = .ok (.bipush 10, 2) := by decide +kernel
theorem d1_200 : decode jdk_2323_method_8_code 200 = .ok (.idiv, 1) := by decide +kernel
theorem d1_201 : decode jdk_2323_method_8_code 201 = .ok (.isub, 1) := by decide +kernel
theorem d1_202 : decode jdk_2323_method_8_code 202 = .ok (.iconst 1, 1) := by decide +kernel
theorem d1_203 : decode jdk_2323_method_8_code 203 = .ok (.iadd, 1) := by decide +kernel
theorem d1_204 : decode jdk_2323_method_8_code 204 = .ok (.istore 13, 2) := by decide +kernel
theorem d1_206 : decode jdk_2323_method_8_code 206 = .ok (.iload 10, 2) := by decide +kernel
theorem d1_208 : decode jdk_2323_method_8_code 208 = .ok (.sipush 306, 3) := by decide +kernel
theorem d1_211 : decode jdk_2323_method_8_code 211 = .ok (.if_icmp .lt 9, 3) := by decide +kernel
theorem d1_220 : decode jdk_2323_method_8_code 220 = .ok (.new 1, 3) := by decide +kernel
theorem d1_223 : decode jdk_2323_method_8_code 223 = .ok (.dup, 1) := by decide +kernel
theorem d1_224 : decode jdk_2323_method_8_code 224 = .ok (.lload 6, 2) := by decide +kernel
theorem d1_226 : decode jdk_2323_method_8_code 226 = .ok (.l2i, 1) := by decide +kernel
theorem d1_227 : decode jdk_2323_method_8_code 227 = .ok (.iload 12, 2) := by decide +kernel
theorem d1_229 : decode jdk_2323_method_8_code 229 = .ok (.iload 13, 2) := by decide +kernel
theorem d1_231 : decode jdk_2323_method_8_code 231 = .ok (.invokespecial 121, 3) := by decide +kernel
theorem pd8 : parseMethodDescriptor "(III)V" = some ⟨[.int, .int, .int], none⟩ := by decide +kernel
theorem d1_234 : decode jdk_2323_method_8_code 234 = .ok (.areturn, 1) := by decide +kernel
theorem d1_214 : decode jdk_2323_method_8_code 214 = .ok (.lload 6, 2) := by decide +kernel
theorem d1_216 : decode jdk_2323_method_8_code 216 = .ok (.lconst 1, 1) := by decide +kernel
theorem d1_217 : decode jdk_2323_method_8_code 217 = .ok (.ladd, 1) := by decide +kernel
theorem d1_218 : decode jdk_2323_method_8_code 218 = .ok (.lstore 6, 2) := by decide +kernel
def Q_rm_ofe (Z : State) (q : Int64) (u : Addr) (vr_ : Addr) (h0 : Heap) (v : Option Value) (h : Heap) (L : List Loc) : Prop := ∃ x : Addr, v = some (.ref x) ∧ Fk h0.size [] L ∧ Keep h0 h [] ∧ h0.size ≤ x ∧ Exa Z h x "java/time/LocalDate"
set_option maxRecDepth 65536 in
set_option maxHeartbeats 40000000 in
theorem rm_ofe (l : Launch) (Z : State) (a0 : Array Value) (hw : ∀ d ∈ tables_1, d.before a0 Z = true) (ws : List Jvm.Cond) (q : Int64) (u : Addr) (vr_ : Addr) (h0 : Heap) (O0 : Old Z Z.heap.size h0) (sU : Sta Z Z.heap "java/time/temporal/ChronoField" "EPOCH_DAY" "Ljava/time/temporal/ChronoField;" (.ref u)) (hU : Exa Z h0 u "java/time/temporal/ChronoField") (pf0 : Fld Z h0 u "java/time/temporal/ChronoField" "range" "Ljava/time/temporal/ValueRange;" (.ref vr_)) (hE : Exa Z h0 vr_ "java/time/temporal/ValueRange") (pf1 : Fld Z h0 vr_ "java/time/temporal/ValueRange" "minSmallest" "J" (.long (-365243219162 : Int64))) (pf2 : Fld Z h0 vr_ "java/time/temporal/ValueRange" "maxLargest" "J" (.long (365241780471 : Int64))) (hlo : ¬ q < (-365243219162 : Int64)) (hhi : ¬ (365241780471 : Int64) < q) :
    Ctr l Z (⟨"java/time/LocalDate", "ofEpochDay", "(J)Ljava/time/LocalDate;"⟩ : MethodName) jdk_2323_method_8_code 14 (some (.object "java/time/LocalDate")) ws ({ frames := 4, cells := 1, slots := 3, locals := 57 } : Room) #[(.long q)] h0 (Q_rm_ofe Z q u vr_ h0) := by
  refine Ctr.intro (Ls := fun _ => #[.val (.long q), .second, .unset, .unset, .unset, .unset, .unset, .unset, .unset, .unset, .unset, .unset, .unset, .unset]) (plainFor_of_name pn6) (fun m => by first | rfl | (simp [entryFrame, mkF, argsToLocals, Value.category]; done)) ?_
  intro p e s m below meth c s₁ hx hby hml hr hlk hZ hown hnm hs0 X0 e0
  have w : ∀ (k : Nat) (d : Jvm.Cond), tables_1[k]? = some d → d.before a0 Z = true := fun k d q => hw d (List.mem_of_getElem? q)
  have N0 := Fk.nil h0.size []
  refine Wk.getstatic X0 hx hZ hown (host := "") (Or.inl (w 7 _ rfl)) Via.refl e0 (sU.ext O0.2) (hb hby d1_0) rfl ?_
  intro T1 X1 e1
  refine Wk.lloadN X1 hx (hb hby d1_3) rfl rfl ?_
  refine Wk.callV X1 hx hZ (y := (⟨"java/time/temporal/ChronoField", "checkValidValue", "(J)J"⟩ : MethodName)) (z := (⟨"java/time/temporal/ChronoField", "checkValidValue", "(J)J"⟩ : MethodName)) hown (w 9 _ rfl) (w 10 _ rfl) (notFace_of_selects (args := #[]) (mvT hZ (w 12 _ rfl))) (w 12 _ rfl) (w 11 _ rfl) (by decide) (as' := [(.long q)]) (backOf (W := 0) (rm_cck l Z a0 hw [] u vr_ q h0 O0 hU pf0 hE pf1 pf2 hlo hhi) hZ (w 13 _ rfl) (w 8 _ rfl) (by decide) (by decide)) e1 hU (by rw [hml]; rfl) (rest := []) (lenOf pd7 rfl) rfl (Nat.le_of_eq rfl) (hb hby d1_4) rfl (by decide) (by decide) ?_
  intro T2 h2 v2 L2 X2 e2 hQ2
  obtain ⟨rfl, Nq2, K2⟩ := hQ2
  have N2 := Fk.app N0 Nq2 (Nat.le_refl _) all0
  rw [K2] at e2
  show Wp p e below _ _ T2 (mkF m 7 #[.val (.long q), .second, .unset, .unset, .unset, .unset, .unset, .unset, .unset, .unset, .unset, .unset, .unset, .unset] [(.long q)])
  refine Wk.pop2L X2 hx (hb hby d1_7) rfl ?_
  refine Wk.lloadN X2 hx (hb hby d1_8) rfl rfl ?_
  refine Wk.ldc2Long X2 hx hZ hown (w 46 _ rfl) (hb hby d1_9) rfl ?_
  refine Wk.ladd X2 hx (hb hby d1_12) rfl ?_
  refine Wk.lstoreNA X2 hx (Ls' := fun z => #[.val (.long q), .second, .val (.long z), .second, .unset, .unset, .unset, .unset, .unset, .unset, .unset, .unset, .unset, .unset]) (hb hby d1_13) rfl (fun _ => rfl) ?_
  intro j3 hj3
  show Wp p e below _ _ T2 (mkF m 14 #[.val (.long q), .second, .val (.long j3), .second, .unset, .unset, .unset, .unset, .unset, .unset, .unset, .unset, .unset, .unset] [])
  refine Wk.lloadN X2 hx (hb hby d1_14) rfl rfl ?_
  refine Wk.ldc2Long X2 hx hZ hown (w 47 _ rfl) (hb hby d1_15) rfl ?_
  refine Wk.lsub X2 hx (hb hby d1_18) rfl ?_
  refine Wk.lstoreNA X2 hx (Ls' := fun z => #[.val (.long q), .second, .val (.long z), .second, .unset, .unset, .unset, .unset, .unset, .unset, .unset, .unset, .unset, .unset]) (hb hby d1_19) rfl (fun _ => rfl) ?_
  intro j4 hj4
  show Wp p e below _ _ T2 (mkF m 20 #[.val (.long q), .second, .val (.long j4), .second, .unset, .unset, .unset, .unset, .unset, .unset, .unset, .unset, .unset, .unset] [])
  refine Wk.lconst X2 hx (v := (0 : Int64)) (hb hby d1_20) rfl rfl ?_
  refine Wk.lstore X2 hx (Ls' := #[.val (.long q), .second, .val (.long j4), .second, .val (.long (0 : Int64)), .second, .unset, .unset, .unset, .unset, .unset, .unset, .unset, .unset]) (hb hby d1_21) rfl rfl ?_
  refine Wk.lloadN X2 hx (hb hby d1_23) rfl rfl ?_
  refine Wk.lconst X2 hx (v := (0 : Int64)) (hb hby d1_24) rfl rfl ?_
  refine Wk.lcmp X2 hx (hb hby d1_25) rfl ?_
  by_cases hc5 : (lcmpW j4 (0 : Int64)) < (0 : Int32)
  · skip
    refine Wk.ifNo X2 hx (hb hby d1_26) rfl ((if0 _ _).trans (tlt hc5).2.1) ?_
    refine Wk.lloadN X2 hx (hb hby d1_29) rfl rfl ?_
    refine Wk.lconst X2 hx (v := (1 : Int64)) (hb hby d1_30) rfl rfl ?_
    refine Wk.ladd X2 hx (hb hby d1_31) rfl ?_
    refine Wk.ldc2Long X2 hx hZ hown (w 50 _ rfl) (hb hby d1_32) rfl ?_
    refine Wk.ldiv X2 hx (hb hby d1_35) rfl (by decide) ?_
    refine Wk.lconst X2 hx (v := (1 : Int64)) (hb hby d1_36) rfl rfl ?_
    refine Wk.lsub X2 hx (hb hby d1_37) rfl ?_
    refine Wk.lstoreA X2 hx (Ls' := fun z => #[.val (.long q), .second, .val (.long j4), .second, .val (.long (0 : Int64)), .second, .val (.long z), .second, .unset, .unset, .unset, .unset, .unset, .unset]) (hb hby d1_38) rfl (fun _ => rfl) ?_
    intro j6 hj6
    show Wp p e below _ _ T2 (mkF m 40 #[.val (.long q), .second, .val (.long j4), .second, .val (.long (0 : Int64)), .second, .val (.long j6), .second, .unset, .unset, .unset, .unset, .unset, .unset] [])
    refine Wk.lload X2 hx (hb hby d1_40) rfl rfl ?_
    refine Wk.ldc2Long X2 hx hZ hown (w 48 _ rfl) (hb hby d1_42) rfl ?_
    refine Wk.lmul X2 hx (hb hby d1_45) rfl ?_
    refine Wk.lstoreA X2 hx (Ls' := fun z => #[.val (.long q), .second, .val (.long j4), .second, .val (.long z), .second, .val (.long j6), .second, .unset, .unset, .unset, .unset, .unset, .unset]) (hb hby d1_46) rfl (fun _ => rfl) ?_
    intro j7 hj7
    show Wp p e below _ _ T2 (mkF m 48 #[.val (.long q), .second, .val (.long j4), .second, .val (.long j7), .second, .val (.long j6), .second, .unset, .unset, .unset, .unset, .unset, .unset] [])
    refine Wk.lloadN X2 hx (hb hby d1_48) rfl rfl ?_
    refine Wk.lload X2 hx (hb hby d1_49) rfl rfl ?_
    refine Wk.lneg X2 hx (hb hby d1_51) rfl ?_
    refine Wk.ldc2Long X2 hx hZ hown (w 50 _ rfl) (hb hby d1_52) rfl ?_
    refine Wk.lmul X2 hx (hb hby d1_55) rfl ?_
    refine Wk.ladd X2 hx (hb hby d1_56) rfl ?_
    refine Wk.lstoreNA X2 hx (Ls' := fun z => #[.val (.long q), .second, .val (.long z), .second, .val (.long j7), .second, .val (.long j6), .second, .unset, .unset, .unset, .unset, .unset, .unset]) (hb hby d1_57) rfl (fun _ => rfl) ?_
    intro j8 hj8
    show Wp p e below _ _ T2 (mkF m 58 #[.val (.long q), .second, .val (.long j8), .second, .val (.long j7), .second, .val (.long j6), .second, .unset, .unset, .unset, .unset, .unset, .unset] [])
    refine Wk.ldc2Long X2 hx hZ hown (w 48 _ rfl) (hb hby d1_58) rfl ?_
    refine Wk.lloadN X2 hx (hb hby d1_61) rfl rfl ?_
    refine Wk.lmul X2 hx (hb hby d1_62) rfl ?_
    refine Wk.ldc2Long X2 hx hZ hown (w 49 _ rfl) (hb hby d1_63) rfl ?_
    refine Wk.ladd X2 hx (hb hby d1_66) rfl ?_
    refine Wk.ldc2Long X2 hx hZ hown (w 50 _ rfl) (hb hby d1_67) rfl ?_
    refine Wk.ldiv X2 hx (hb hby d1_70) rfl (by decide) ?_
    refine Wk.lstoreA X2 hx (Ls' := fun z => #[.val (.long q), .second, .val (.long j8), .second, .val (.long j7), .second, .val (.long z), .second, .unset, .unset, .unset, .unset, .unset, .unset]) (hb hby d1_71) rfl (fun _ => rfl) ?_
    intro j9 hj9
    show Wp p e below _ _ T2 (mkF m 73 #[.val (.long q), .second, .val (.long j8), .second, .val (.long j7), .second, .val (.long j9), .second, .unset, .unset, .unset, .unset, .unset, .unset] [])
    refine Wk.lloadN X2 hx (hb hby d1_73) rfl rfl ?_
    refine Wk.ldc2Long X2 hx hZ hown (w 51 _ rfl) (hb hby d1_74) rfl ?_
    refine Wk.lload X2 hx (hb hby d1_77) rfl rfl ?_
    refine Wk.lmul X2 hx (hb hby d1_79) rfl ?_
    refine Wk.lload X2 hx (hb hby d1_80) rfl rfl ?_
    refine Wk.ldc2Long X2 hx hZ hown (w 52 _ rfl) (hb hby d1_82) rfl ?_
    refine Wk.ldiv X2 hx (hb hby d1_85) rfl (by decide) ?_
    refine Wk.ladd X2 hx (hb hby d1_86) rfl ?_
    refine Wk.lload X2 hx (hb hby d1_87) rfl rfl ?_
    refine Wk.ldc2Long X2 hx hZ hown (w 53 _ rfl) (hb hby d1_89) rfl ?_
    refine Wk.ldiv X2 hx (hb hby d1_92) rfl (by decide) ?_
    refine Wk.lsub X2 hx (hb hby d1_93) rfl ?_
    refine Wk.lload X2 hx (hb hby d1_94) rfl rfl ?_
    refine Wk.ldc2Long X2 hx hZ hown (w 48 _ rfl) (hb hby d1_96) rfl ?_
    refine Wk.ldiv X2 hx (hb hby d1_99) rfl (by decide) ?_
    refine Wk.ladd X2 hx (hb hby d1_100) rfl ?_
    refine Wk.lsub X2 hx (hb hby d1_101) rfl ?_
    refine Wk.lstoreA X2 hx (Ls' := fun z => #[.val (.long q), .second, .val (.long j8), .second, .val (.long j7), .second, .val (.long j9), .second, .val (.long z), .second, .unset, .unset, .unset, .unset]) (hb hby d1_102) rfl (fun _ => rfl) ?_
    intro j10 hj10
    show Wp p e below _ _ T2 (mkF m 104 #[.val (.long q), .second, .val (.long j8), .second, .val (.long j7), .second, .val (.long j9), .second, .val (.long j10), .second, .unset, .unset, .unset, .unset] [])
    refine Wk.lload X2 hx (hb hby d1_104) rfl rfl ?_
    refine Wk.lconst X2 hx (v := (0 : Int64)) (hb hby d1_106) rfl rfl ?_
    refine Wk.lcmp X2 hx (hb hby d1_107) rfl ?_
    by_cases hc11 : (lcmpW j10 (0 : Int64)) < (0 : Int32)
    · skip
      refine Wk.ifNo X2 hx (hb hby d1_108) rfl ((if0 _ _).trans (tlt hc11).2.1) ?_
      refine Wk.lload X2 hx (hb hby d1_111) rfl rfl ?_
      refine Wk.lconst X2 hx (v := (1 : Int64)) (hb hby d1_113) rfl rfl ?_
      refine Wk.lsub X2 hx (hb hby d1_114) rfl ?_
      refine Wk.lstoreA X2 hx (Ls' := fun z => #[.val (.long q), .second, .val (.long j8), .second, .val (.long j7), .second, .val (.long z), .second, .val (.long j10), .second, .unset, .unset, .unset, .unset]) (hb hby d1_115) rfl (fun _ => rfl) ?_
      intro j12 hj12
      show Wp p e below _ _ T2 (mkF m 117 #[.val (.long q), .second, .val (.long j8), .second, .val (.long j7), .second, .val (.long j12), .second, .val (.long j10), .second, .unset, .unset, .unset, .unset] [])
      refine Wk.lloadN X2 hx (hb hby d1_117) rfl rfl ?_
      refine Wk.ldc2Long X2 hx hZ hown (w 51 _ rfl) (hb hby d1_118) rfl ?_
      refine Wk.lload X2 hx (hb hby d1_121) rfl rfl ?_
      refine Wk.lmul X2 hx (hb hby d1_123) rfl ?_
      refine Wk.lload X2 hx (hb hby d1_124) rfl rfl ?_
      refine Wk.ldc2Long X2 hx hZ hown (w 52 _ rfl) (hb hby d1_126) rfl ?_
      refine Wk.ldiv X2 hx (hb hby d1_129) rfl (by decide) ?_
      refine Wk.ladd X2 hx (hb hby d1_130) rfl ?_
      refine Wk.lload X2 hx (hb hby d1_131) rfl rfl ?_
      refine Wk.ldc2Long X2 hx hZ hown (w 53 _ rfl) (hb hby d1_133) rfl ?_
      refine Wk.ldiv X2 hx (hb hby d1_136) rfl (by decide) ?_
      refine Wk.lsub X2 hx (hb hby d1_137) rfl ?_
      refine Wk.lload X2 hx (hb hby d1_138) rfl rfl ?_
      refine Wk.ldc2Long X2 hx hZ hown (w 48 _ rfl) (hb hby d1_140) rfl ?_
      refine Wk.ldiv X2 hx (hb hby d1_143) rfl (by decide) ?_
      refine Wk.ladd X2 hx (hb hby d1_144) rfl ?_
      refine Wk.lsub X2 hx (hb hby d1_145) rfl ?_
      refine Wk.lstoreA X2 hx (Ls' := fun z => #[.val (.long q), .second, .val (.long j8), .second, .val (.long j7), .second, .val (.long j12), .second, .val (.long z), .second, .unset, .unset, .unset, .unset]) (hb hby d1_146) rfl (fun _ => rfl) ?_
      intro j13 hj13
      show Wp p e below _ _ T2 (mkF m 148 #[.val (.long q), .second, .val (.long j8), .second, .val (.long j7), .second, .val (.long j12), .second, .val (.long j13), .second, .unset, .unset, .unset, .unset] [])
      refine Wk.lload X2 hx (hb hby d1_148) rfl rfl ?_
      refine Wk.lload X2 hx (hb hby d1_150) rfl rfl ?_
      refine Wk.ladd X2 hx (hb hby d1_152) rfl ?_
      refine Wk.lstoreA X2 hx (Ls' := fun z => #[.val (.long q), .second, .val (.long j8), .second, .val (.long j7), .second, .val (.long z), .second, .val (.long j13), .second, .unset, .unset, .unset, .unset]) (hb hby d1_153) rfl (fun _ => rfl) ?_
      intro j14 hj14
      show Wp p e below _ _ T2 (mkF m 155 #[.val (.long q), .second, .val (.long j8), .second, .val (.long j7), .second, .val (.long j14), .second, .val (.long j13), .second, .unset, .unset, .unset, .unset] [])
      refine Wk.lload X2 hx (hb hby d1_155) rfl rfl ?_
      refine Wk.l2i X2 hx (hb hby d1_157) rfl ?_
      refine Wk.istoreA X2 hx (Ls' := fun z => #[.val (.long q), .second, .val (.long j8), .second, .val (.long j7), .second, .val (.long j14), .second, .val (.long j13), .second, .val (.int z), .unset, .unset, .unset]) (hb hby d1_158) rfl (fun _ => rfl) ?_
      intro i15 hi15
      show Wp p e below _ _ T2 (mkF m 160 #[.val (.long q), .second, .val (.long j8), .second, .val (.long j7), .second, .val (.long j14), .second, .val (.long j13), .second, .val (.int i15), .unset, .unset, .unset] [])
      refine Wk.iload X2 hx (hb hby d1_160) rfl rfl ?_
      refine Wk.iconst X2 hx (v := (5 : Int32)) (hb hby d1_162) rfl rfl ?_
      refine Wk.imul X2 hx (hb hby d1_163) rfl ?_
      refine Wk.iconst X2 hx (v := (2 : Int32)) (hb hby d1_164) rfl rfl ?_
      refine Wk.iadd X2 hx (hb hby d1_165) rfl ?_
      refine Wk.sipush X2 hx (v := (153 : Int32)) (hb hby d1_166) rfl rfl ?_
      refine Wk.idiv X2 hx (hb hby d1_169) rfl (by decide) ?_
      refine Wk.istoreA X2 hx (Ls' := fun z => #[.val (.long q), .second, .val (.long j8), .second, .val (.long j7), .second, .val (.long j14), .second, .val (.long j13), .second, .val (.int i15), .val (.int z), .unset, .unset]) (hb hby d1_170) rfl (fun _ => rfl) ?_
      intro i16 hi16
      show Wp p e below _ _ T2 (mkF m 172 #[.val (.long q), .second, .val (.long j8), .second, .val (.long j7), .second, .val (.long j14), .second, .val (.long j13), .second, .val (.int i15), .val (.int i16), .unset, .unset] [])
      refine Wk.iload X2 hx (hb hby d1_172) rfl rfl ?_
      refine Wk.iconst X2 hx (v := (3 : Int32)) (hb hby d1_174) rfl rfl ?_
      refine Wk.iadd X2 hx (hb hby d1_175) rfl ?_
      refine Wk.istoreA X2 hx (Ls' := fun z => #[.val (.long q), .second, .val (.long j8), .second, .val (.long j7), .second, .val (.long j14), .second, .val (.long j13), .second, .val (.int i15), .val (.int i16), .val (.int z), .unset]) (hb hby d1_176) rfl (fun _ => rfl) ?_
      intro i17 hi17
      show Wp p e below _ _ T2 (mkF m 178 #[.val (.long q), .second, .val (.long j8), .second, .val (.long j7), .second, .val (.long j14), .second, .val (.long j13), .second, .val (.int i15), .val (.int i16), .val (.int i17), .unset] [])
      refine Wk.iload X2 hx (hb hby d1_178) rfl rfl ?_
      refine Wk.bipush X2 hx (v := (12 : Int32)) (hb hby d1_180) rfl rfl ?_
      by_cases hc18 : (12 : Int32) < i17
      · skip
        refine Wk.icmpNo X2 hx (hb hby d1_182) rfl (tlt hc18).2.2.2 ?_
        refine Wk.iinc X2 hx (Ls' := #[.val (.long q), .second, .val (.long j8), .second, .val (.long j7), .second, .val (.long j14), .second, .val (.long j13), .second, .val (.int i15), .val (.int i16), .val (.int (i17 + (-12 : Int32))), .unset]) (hb hby d1_185) rfl rfl rfl ?_
        refine Wk.iload X2 hx (hb hby d1_188) rfl rfl ?_
        refine Wk.iload X2 hx (hb hby d1_190) rfl rfl ?_
        refine Wk.sipush X2 hx (v := (306 : Int32)) (hb hby d1_192) rfl rfl ?_
        refine Wk.imul X2 hx (hb hby d1_195) rfl ?_
        refine Wk.iconst X2 hx (v := (5 : Int32)) (hb hby d1_196) rfl rfl ?_
        refine Wk.iadd X2 hx (hb hby d1_197) rfl ?_
        refine Wk.bipush X2 hx (v := (10 : Int32)) (hb hby d1_198) rfl rfl ?_
        refine Wk.idiv X2 hx (hb hby d1_200) rfl (by decide) ?_
        refine Wk.isub X2 hx (hb hby d1_201) rfl ?_
        refine Wk.iconst X2 hx (v := (1 : Int32)) (hb hby d1_202) rfl rfl ?_
        refine Wk.iadd X2 hx (hb hby d1_203) rfl ?_
        refine Wk.istoreA X2 hx (Ls' := fun z => #[.val (.long q), .second, .val (.long j8), .second, .val (.long j7), .second, .val (.long j14), .second, .val (.long j13), .second, .val (.int i15), .val (.int i16), .val (.int (i17 + (-12 : Int32))), .val (.int z)]) (hb hby d1_204) rfl (fun _ => rfl) ?_
        intro i19 hi19
        show Wp p e below _ _ T2 (mkF m 206 #[.val (.long q), .second, .val (.long j8), .second, .val (.long j7), .second, .val (.long j14), .second, .val (.long j13), .second, .val (.int i15), .val (.int i16), .val (.int (i17 + (-12 : Int32))), .val (.int i19)] [])
        refine Wk.iload X2 hx (hb hby d1_206) rfl rfl ?_
        refine Wk.sipush X2 hx (v := (306 : Int32)) (hb hby d1_208) rfl rfl ?_
        by_cases hc20 : i15 < (306 : Int32)
        · skip
          refine Wk.icmpYes X2 hx (hb hby d1_211) (by decide) (q := 220) rfl (tlt hc20).1 ?_
          refine Wk.new X2 hx hZ hown (w 54 _ rfl) (w 55 _ rfl) (w 5 _ rfl) e2 (hb hby d1_220) rfl (by decide) (by decide) ?_
          intro T21 h21 a21 g21 X21 e21 E21 A21 D21
          have O22 : Old Z Z.heap.size h21 := O0.ext E21
          have f23 : Fld Z h21 a21 "java/time/LocalDate" "year" "I" (.int (0 : Int32)) := D21 (Or.inr (w 64 _ rfl)) (ty := .int) (by decide)
          have f24 : Fld Z h21 a21 "java/time/LocalDate" "month" "S" (.int (0 : Int32)) := D21 (Or.inr (w 66 _ rfl)) (ty := .short) (by decide)
          have f25 : Fld Z h21 a21 "java/time/LocalDate" "day" "S" (.int (0 : Int32)) := D21 (Or.inr (w 68 _ rfl)) (ty := .short) (by decide)
          refine Wk.dup X21 hx (hb hby d1_223) rfl rfl ?_
          refine Wk.lload X21 hx (hb hby d1_224) rfl rfl ?_
          refine Wk.l2i X21 hx (hb hby d1_226) rfl ?_
          refine Wk.iload X21 hx (hb hby d1_227) rfl rfl ?_
          refine Wk.iload X21 hx (hb hby d1_229) rfl rfl ?_
          refine Wk.callI X21 hx hZ rfl hown (w 56 _ rfl) (w 57 _ rfl) (w 59 _ rfl) (by decide) (as' := [(.int j14.toInt32), (.int (i17 + (-12 : Int32))), (.int i19)]) (backOf (W := 1) (rm_ldi l Z a0 hw [] a21 j14.toInt32 (i17 + (-12 : Int32)) i19 h21 O22 A21 f23 f24 f25 (Nat.le_trans (Nat.le_trans (Nat.le_trans (Nat.le_of_eq O0.1.symm) O0.2.1) (Keep.refl h0 []).1) (Nat.le_of_eq g21))) hZ (w 59 _ rfl) (w 5 _ rfl) (by decide) (by decide)) e21 (by rw [hml]; rfl) (rest := [(.ref a21)]) (lenOf pd8 rfl) rfl (Nat.le_of_eq rfl) (hb hby d1_231) rfl (by decide) (by decide) ?_
          intro T26 h26 v26 L26 X26 e26 hQ26
          obtain ⟨rfl, Nq26, K26, q26_0⟩ := hQ26
          have KK27 : Keep h0 h21 [] := ((Keep.refl h0 []).ext E21)
          have N26 := Fk.app N2 Nq26 KK27.1 (allS (Or.inr (Nat.le_of_eq g21)) all0)
          have O28 : Old Z Z.heap.size h26 := O22.keep K26 (allS (Nat.le_trans (Nat.le_trans (Nat.le_trans (Nat.le_of_eq O0.1.symm) O0.2.1) (Keep.refl h0 []).1) (Nat.le_of_eq g21)) all0)
          show Wp p e below _ _ T26 (mkF m 234 #[.val (.long q), .second, .val (.long j8), .second, .val (.long j7), .second, .val (.long j14), .second, .val (.long j13), .second, .val (.int i15), .val (.int i16), .val (.int (i17 + (-12 : Int32))), .val (.int i19)] [(.ref a21)])
          have KK29 : Keep h0 h26 [] := (KK27.trans K26 (allS (Or.inr (Nat.le_of_eq g21)) all0))
          exact Wk.retA' X26 hx hlk hr rfl rfl (hb hby d1_234) (by decide) (by decide) (Qc := Q_rm_ofe Z q u vr_ h0) e26 ⟨a21, rfl, N26, KK29, (Nat.le_of_eq g21), q26_0⟩
        · skip
          refine Wk.icmpNo X2 hx (hb hby d1_211) rfl (flt hc20).1 ?_
          refine Wk.lload X2 hx (hb hby d1_214) rfl rfl ?_
          refine Wk.lconst X2 hx (v := (1 : Int64)) (hb hby d1_216) rfl rfl ?_
          refine Wk.ladd X2 hx (hb hby d1_217) rfl ?_
          refine Wk.lstoreA X2 hx (Ls' := fun z => #[.val (.long q), .second, .val (.long j8), .second, .val (.long j7), .second, .val (.long z), .second, .val (.long j13), .second, .val (.int i15), .val (.int i16), .val (.int (i17 + (-12 : Int32))), .val (.int i19)]) (hb hby d1_218) rfl (fun _ => rfl) ?_
          intro j30 hj30
          show Wp p e below _ _ T2 (mkF m 220 #[.val (.long q), .second, .val (.long j8), .second, .val (.long j7), .second, .val (.long j30), .second, .val (.long j13), .second, .val (.int i15), .val (.int i16), .val (.int (i17 + (-12 : Int32))), .val (.int i19)] [])
          refine Wk.new X2 hx hZ hown (w 54 _ rfl) (w 55 _ rfl) (w 5 _ rfl) e2 (hb hby d1_220) rfl (by decide) (by decide) ?_
          intro T31 h31 a31 g31 X31 e31 E31 A31 D31
          have O32 : Old Z Z.heap.size h31 := O0.ext E31
          have f33 : Fld Z h31 a31 "java/time/LocalDate" "year" "I" (.int (0 : Int32)) := D31 (Or.inr (w 64 _ rfl)) (ty := .int) (by decide)
          have f34 : Fld Z h31 a31 "java/time/LocalDate" "month" "S" (.int (0 : Int32)) := D31 (Or.inr (w 66 _ rfl)) (ty := .short) (by decide)
          have f35 : Fld Z h31 a31 "java/time/LocalDate" "day" "S" (.int (0 : Int32)) := D31 (Or.inr (w 68 _ rfl)) (ty := .short) (by decide)
          refine Wk.dup X31 hx (hb hby d1_223) rfl rfl ?_
          refine Wk.lload X31 hx (hb hby d1_224) rfl rfl ?_
          refine Wk.l2i X31 hx (hb hby d1_226) rfl ?_
          refine Wk.iload X31 hx (hb hby d1_227) rfl rfl ?_
          refine Wk.iload X31 hx (hb hby d1_229) rfl rfl ?_
          refine Wk.callI X31 hx hZ rfl hown (w 56 _ rfl) (w 57 _ rfl) (w 59 _ rfl) (by decide) (as' := [(.int j30.toInt32), (.int (i17 + (-12 : Int32))), (.int i19)]) (backOf (W := 1) (rm_ldi l Z a0 hw [] a31 j30.toInt32 (i17 + (-12 : Int32)) i19 h31 O32 A31 f33 f34 f35 (Nat.le_trans (Nat.le_trans (Nat.le_trans (Nat.le_of_eq O0.1.symm) O0.2.1) (Keep.refl h0 []).1) (Nat.le_of_eq g31))) hZ (w 59 _ rfl) (w 5 _ rfl) (by decide) (by decide)) e31 (by rw [hml]; rfl) (rest := [(.ref a31)]) (lenOf pd8 rfl) rfl (Nat.le_of_eq rfl) (hb hby d1_231) rfl (by decide) (by decide) ?_
          intro T36 h36 v36 L36 X36 e36 hQ36
          obtain ⟨rfl, Nq36, K36, q36_0⟩ := hQ36
          have KK37 : Keep h0 h31 [] := ((Keep.refl h0 []).ext E31)
          have N36 := Fk.app N2 Nq36 KK37.1 (allS (Or.inr (Nat.le_of_eq g31)) all0)
          have O38 : Old Z Z.heap.size h36 := O32.keep K36 (allS (Nat.le_trans (Nat.le_trans (Nat.le_trans (Nat.le_of_eq O0.1.symm) O0.2.1) (Keep.refl h0 []).1) (Nat.le_of_eq g31)) all0)
          show Wp p e below _ _ T36 (mkF m 234 #[.val (.long q), .second, .val (.long j8), .second, .val (.long j7), .second, .val (.long j30), .second, .val (.long j13), .second, .val (.int i15), .val (.int i16), .val (.int (i17 + (-12 : Int32))), .val (.int i19)] [(.ref a31)])
          have KK39 : Keep h0 h36 [] := (KK37.trans K36 (allS (Or.inr (Nat.le_of_eq g31)) all0))
          exact Wk.retA' X36 hx hlk hr rfl rfl (hb hby d1_234) (by decide) (by decide) (Qc := Q_rm_ofe Z q u vr_ h0) e36 ⟨a31, rfl, N36, KK39, (Nat.le_of_eq g31), q36_0⟩
      · skip
        refine Wk.icmpYes X2 hx (hb hby d1_182) (by decide) (q := 188) rfl (flt hc18).2.2.2 ?_
        refine Wk.iload X2 hx (hb hby d1_188) rfl rfl ?_
        refine Wk.iload X2 hx (hb hby d1_190) rfl rfl ?_
        refine Wk.sipush X2 hx (v := (306 : Int32)) (hb hby d1_192) rfl rfl ?_
        refine Wk.imul X2 hx (hb hby d1_195) rfl ?_
        refine Wk.iconst X2 hx (v := (5 : Int32)) (hb hby d1_196) rfl rfl ?_
        refine Wk.iadd X2 hx (hb hby d1_197) rfl ?_
        refine Wk.bipush X2 hx (v := (10 : Int32)) (hb hby d1_198) rfl rfl ?_
        refine Wk.idiv X2 hx (hb hby d1_200) rfl (by decide) ?_
        refine Wk.isub X2 hx (hb hby d1_201) rfl ?_
        refine Wk.iconst X2 hx (v := (1 : Int32)) (hb hby d1_202) rfl rfl ?_
        refine Wk.iadd X2 hx (hb hby d1_203) rfl ?_
        refine Wk.istoreA X2 hx (Ls' := fun z => #[.val (.long q), .second, .val (.long j8), .second, .val (.long j7), .second, .val (.long j14), .second, .val (.long j13), .second, .val (.int i15), .val (.int i16), .val (.int i17), .val (.int z)]) (hb hby d1_204) rfl (fun _ => rfl) ?_
        intro i40 hi40
        show Wp p e below _ _ T2 (mkF m 206 #[.val (.long q), .second, .val (.long j8), .second, .val (.long j7), .second, .val (.long j14), .second, .val (.long j13), .second, .val (.int i15), .val (.int i16), .val (.int i17), .val (.int i40)] [])
        refine Wk.iload X2 hx (hb hby d1_206) rfl rfl ?_
        refine Wk.sipush X2 hx (v := (306 : Int32)) (hb hby d1_208) rfl rfl ?_
        by_cases hc41 : i15 < (306 : Int32)
        · skip
          refine Wk.icmpYes X2 hx (hb hby d1_211) (by decide) (q := 220) rfl (tlt hc41).1 ?_
          refine Wk.new X2 hx hZ hown (w 54 _ rfl) (w 55 _ rfl) (w 5 _ rfl) e2 (hb hby d1_220) rfl (by decide) (by decide) ?_
          intro T42 h42 a42 g42 X42 e42 E42 A42 D42
          have O43 : Old Z Z.heap.size h42 := O0.ext E42
          have f44 : Fld Z h42 a42 "java/time/LocalDate" "year" "I" (.int (0 : Int32)) := D42 (Or.inr (w 64 _ rfl)) (ty := .int) (by decide)
          have f45 : Fld Z h42 a42 "java/time/LocalDate" "month" "S" (.int (0 : Int32)) := D42 (Or.inr (w 66 _ rfl)) (ty := .short) (by decide)
          have f46 : Fld Z h42 a42 "java/time/LocalDate" "day" "S" (.int (0 : Int32)) := D42 (Or.inr (w 68 _ rfl)) (ty := .short) (by decide)
          refine Wk.dup X42 hx (hb hby d1_223) rfl rfl ?_
          refine Wk.lload X42 hx (hb hby d1_224) rfl rfl ?_
          refine Wk.l2i X42 hx (hb hby d1_226) rfl ?_
          refine Wk.iload X42 hx (hb hby d1_227) rfl rfl ?_
          refine Wk.iload X42 hx (hb hby d1_229) rfl rfl ?_
          refine Wk.callI X42 hx hZ rfl hown (w 56 _ rfl) (w 57 _ rfl) (w 59 _ rfl) (by decide) (as' := [(.int j14.toInt32), (.int i17), (.int i40)]) (backOf (W := 1) (rm_ldi l Z a0 hw [] a42 j14.toInt32 i17 i40 h42 O43 A42 f44 f45 f46 (Nat.le_trans (Nat.le_trans (Nat.le_trans (Nat.le_of_eq O0.1.symm) O0.2.1) (Keep.refl h0 []).1) (Nat.le_of_eq g42))) hZ (w 59 _ rfl) (w 5 _ rfl) (by decide) (by decide)) e42 (by rw [hml]; rfl) (rest := [(.ref a42)]) (lenOf pd8 rfl) rfl (Nat.le_of_eq rfl) (hb hby d1_231) rfl (by decide) (by decide) ?_
          intro T47 h47 v47 L47 X47 e47 hQ47
          obtain ⟨rfl, Nq47, K47, q47_0⟩ := hQ47
          have KK48 : Keep h0 h42 [] := ((Keep.refl h0 []).ext E42)
          have N47 := Fk.app N2 Nq47 KK48.1 (allS (Or.inr (Nat.le_of_eq g42)) all0)
          have O49 : Old Z Z.heap.size h47 := O43.keep K47 (allS (Nat.le_trans (Nat.le_trans (Nat.le_trans (Nat.le_of_eq O0.1.symm) O0.2.1) (Keep.refl h0 []).1) (Nat.le_of_eq g42)) all0)
          show Wp p e below _ _ T47 (mkF m 234 #[.val (.long q), .second, .val (.long j8), .second, .val (.long j7), .second, .val (.long j14), .second, .val (.long j13), .second, .val (.int i15), .val (.int i16), .val (.int i17), .val (.int i40)] [(.ref a42)])
          have KK50 : Keep h0 h47 [] := (KK48.trans K47 (allS (Or.inr (Nat.le_of_eq g42)) all0))
          exact Wk.retA' X47 hx hlk hr rfl rfl (hb hby d1_234) (by decide) (by decide) (Qc := Q_rm_ofe Z q u vr_ h0) e47 ⟨a42, rfl, N47, KK50, (Nat.le_of_eq g42), q47_0⟩
        · skip
          refine Wk.icmpNo X2 hx (hb hby d1_211) rfl (flt hc41).1 ?_
          refine Wk.lload X2 hx (hb hby d1_214) rfl rfl ?_
          refine Wk.lconst X2 hx (v := (1 : Int64)) (hb hby d1_216) rfl rfl ?_
          refine Wk.ladd X2 hx (hb hby d1_217) rfl ?_
          refine Wk.lstoreA X2 hx (Ls' := fun z => #[.val (.long q), .second, .val (.long j8), .second, .val (.long j7), .second, .val (.long z), .second, .val (.long j13), .second, .val (.int i15), .val (.int i16), .val (.int i17), .val (.int i40)]) (hb hby d1_218) rfl (fun _ => rfl) ?_
          intro j51 hj51
          show Wp p e below _ _ T2 (mkF m 220 #[.val (.long q), .second, .val (.long j8), .second, .val (.long j7), .second, .val (.long j51), .second, .val (.long j13), .second, .val (.int i15), .val (.int i16), .val (.int i17), .val (.int i40)] [])
          refine Wk.new X2 hx hZ hown (w 54 _ rfl) (w 55 _ rfl) (w 5 _ rfl) e2 (hb hby d1_220) rfl (by decide) (by decide) ?_
          intro T52 h52 a52 g52 X52 e52 E52 A52 D52
          have O53 : Old Z Z.heap.size h52 := O0.ext E52
          have f54 : Fld Z h52 a52 "java/time/LocalDate" "year" "I" (.int (0 : Int32)) := D52 (Or.inr (w 64 _ rfl)) (ty := .int) (by decide)
          have f55 : Fld Z h52 a52 "java/time/LocalDate" "month" "S" (.int (0 : Int32)) := D52 (Or.inr (w 66 _ rfl)) (ty := .short) (by decide)
          have f56 : Fld Z h52 a52 "java/time/LocalDate" "day" "S" (.int (0 : Int32)) := D52 (Or.inr (w 68 _ rfl)) (ty := .short) (by decide)
          refine Wk.dup X52 hx (hb hby d1_223) rfl rfl ?_
          refine Wk.lload X52 hx (hb hby d1_224) rfl rfl ?_
          refine Wk.l2i X52 hx (hb hby d1_226) rfl ?_
          refine Wk.iload X52 hx (hb hby d1_227) rfl rfl ?_
          refine Wk.iload X52 hx (hb hby d1_229) rfl rfl ?_
          refine Wk.callI X52 hx hZ rfl hown (w 56 _ rfl) (w 57 _ rfl) (w 59 _ rfl) (by decide) (as' := [(.int j51.toInt32), (.int i17), (.int i40)]) (backOf (W := 1) (rm_ldi l Z a0 hw [] a52 j51.toInt32 i17 i40 h52 O53 A52 f54 f55 f56 (Nat.le_trans (Nat.le_trans (Nat.le_trans (Nat.le_of_eq O0.1.symm) O0.2.1) (Keep.refl h0 []).1) (Nat.le_of_eq g52))) hZ (w 59 _ rfl) (w 5 _ rfl) (by decide) (by decide)) e52 (by rw [hml]; rfl) (rest := [(.ref a52)]) (lenOf pd8 rfl) rfl (Nat.le_of_eq rfl) (hb hby d1_231) rfl (by decide) (by decide) ?_
          intro T57 h57 v57 L57 X57 e57 hQ57
          obtain ⟨rfl, Nq57, K57, q57_0⟩ := hQ57
          have KK58 : Keep h0 h52 [] := ((Keep.refl h0 []).ext E52)
          have N57 := Fk.app N2 Nq57 KK58.1 (allS (Or.inr (Nat.le_of_eq g52)) all0)
          have O59 : Old Z Z.heap.size h57 := O53.keep K57 (allS (Nat.le_trans (Nat.le_trans (Nat.le_trans (Nat.le_of_eq O0.1.symm) O0.2.1) (Keep.refl h0 []).1) (Nat.le_of_eq g52)) all0)
          show Wp p e below _ _ T57 (mkF m 234 #[.val (.long q), .second, .val (.long j8), .second, .val (.long j7), .second, .val (.long j51), .second, .val (.long j13), .second, .val (.int i15), .val (.int i16), .val (.int i17), .val (.int i40)] [(.ref a52)])
          have KK60 : Keep h0 h57 [] := (KK58.trans K57 (allS (Or.inr (Nat.le_of_eq g52)) all0))
          exact Wk.retA' X57 hx hlk hr rfl rfl (hb hby d1_234) (by decide) (by decide) (Qc := Q_rm_ofe Z q u vr_ h0) e57 ⟨a52, rfl, N57, KK60, (Nat.le_of_eq g52), q57_0⟩
    · skip
      refine Wk.ifYes X2 hx (hb hby d1_108) (by decide) (q := 148) rfl ((if0 _ _).trans (flt hc11).2.1) ?_
      refine Wk.lload X2 hx (hb hby d1_148) rfl rfl ?_
      refine Wk.lload X2 hx (hb hby d1_150) rfl rfl ?_
      refine Wk.ladd X2 hx (hb hby d1_152) rfl ?_
      refine Wk.lstoreA X2 hx (Ls' := fun z => #[.val (.long q), .second, .val (.long j8), .second, .val (.long j7), .second, .val (.long z), .second, .val (.long j10), .second, .unset, .unset, .unset, .unset]) (hb hby d1_153) rfl (fun _ => rfl) ?_
      intro j61 hj61
      show Wp p e below _ _ T2 (mkF m 155 #[.val (.long q), .second, .val (.long j8), .second, .val (.long j7), .second, .val (.long j61), .second, .val (.long j10), .second, .unset, .unset, .unset, .unset] [])
      refine Wk.lload X2 hx (hb hby d1_155) rfl rfl ?_
      refine Wk.l2i X2 hx (hb hby d1_157) rfl ?_
      refine Wk.istoreA X2 hx (Ls' := fun z => #[.val (.long q), .second, .val (.long j8), .second, .val (.long j7), .second, .val (.long j61), .second, .val (.long j10), .second, .val (.int z), .unset, .unset, .unset]) (hb hby d1_158) rfl (fun _ => rfl) ?_
      intro i62 hi62
      show Wp p e below _ _ T2 (mkF m 160 #[.val (.long q), .second, .val (.long j8), .second, .val (.long j7), .second, .val (.long j61), .second, .val (.long j10), .second, .val (.int i62), .unset, .unset, .unset] [])
      refine Wk.iload X2 hx (hb hby d1_160) rfl rfl ?_
      refine Wk.iconst X2 hx (v := (5 : Int32)) (hb hby d1_162) rfl rfl ?_
      refine Wk.imul X2 hx (hb hby d1_163) rfl ?_
      refine Wk.iconst X2 hx (v := (2 : Int32)) (hb hby d1_164) rfl rfl ?_
      refine Wk.iadd X2 hx (hb hby d1_165) rfl ?_
      refine Wk.sipush X2 hx (v := (153 : Int32)) (hb hby d1_166) rfl rfl ?_
      refine Wk.idiv X2 hx (hb hby d1_169) rfl (by decide) ?_
      refine Wk.istoreA X2 hx (Ls' := fun z => #[.val (.long q), .second, .val (.long j8), .second, .val (.long j7), .second, .val (.long j61), .second, .val (.long j10), .second, .val (.int i62), .val (.int z), .unset, .unset]) (hb hby d1_170) rfl (fun _ => rfl) ?_
      intro i63 hi63
      show Wp p e below _ _ T2 (mkF m 172 #[.val (.long q), .second, .val (.long j8), .second, .val (.long j7), .second, .val (.long j61), .second, .val (.long j10), .second, .val (.int i62), .val (.int i63), .unset, .unset] [])
      refine Wk.iload X2 hx (hb hby d1_172) rfl rfl ?_
      refine Wk.iconst X2 hx (v := (3 : Int32)) (hb hby d1_174) rfl rfl ?_
      refine Wk.iadd X2 hx (hb hby d1_175) rfl ?_
      refine Wk.istoreA X2 hx (Ls' := fun z => #[.val (.long q), .second, .val (.long j8), .second, .val (.long j7), .second, .val (.long j61), .second, .val (.long j10), .second, .val (.int i62), .val (.int i63), .val (.int z), .unset]) (hb hby d1_176) rfl (fun _ => rfl) ?_
      intro i64 hi64
      show Wp p e below _ _ T2 (mkF m 178 #[.val (.long q), .second, .val (.long j8), .second, .val (.long j7), .second, .val (.long j61), .second, .val (.long j10), .second, .val (.int i62), .val (.int i63), .val (.int i64), .unset] [])
      refine Wk.iload X2 hx (hb hby d1_178) rfl rfl ?_
      refine Wk.bipush X2 hx (v := (12 : Int32)) (hb hby d1_180) rfl rfl ?_
      by_cases hc65 : (12 : Int32) < i64
      · skip
        refine Wk.icmpNo X2 hx (hb hby d1_182) rfl (tlt hc65).2.2.2 ?_
        refine Wk.iinc X2 hx (Ls' := #[.val (.long q), .second, .val (.long j8), .second, .val (.long j7), .second, .val (.long j61), .second, .val (.long j10), .second, .val (.int i62), .val (.int i63), .val (.int (i64 + (-12 : Int32))), .unset]) (hb hby d1_185) rfl rfl rfl ?_
        refine Wk.iload X2 hx (hb hby d1_188) rfl rfl ?_
        refine Wk.iload X2 hx (hb hby d1_190) rfl rfl ?_
        refine Wk.sipush X2 hx (v := (306 : Int32)) (hb hby d1_192) rfl rfl ?_
        refine Wk.imul X2 hx (hb hby d1_195) rfl ?_
        refine Wk.iconst X2 hx (v := (5 : Int32)) (hb hby d1_196) rfl rfl ?_
        refine Wk.iadd X2 hx (hb hby d1_197) rfl ?_
        refine Wk.bipush X2 hx (v := (10 : Int32)) (hb hby d1_198) rfl rfl ?_
        refine Wk.idiv X2 hx (hb hby d1_200) rfl (by decide) ?_
        refine Wk.isub X2 hx (hb hby d1_201) rfl ?_
        refine Wk.iconst X2 hx (v := (1 : Int32)) (hb hby d1_202) rfl rfl ?_
        refine Wk.iadd X2 hx (hb hby d1_203) rfl ?_
        refine Wk.istoreA X2 hx (Ls' := fun z => #[.val (.long q), .second, .val (.long j8), .second, .val (.long j7), .second, .val (.long j61), .second, .val (.long j10), .second, .val (.int i62), .val (.int i63), .val (.int (i64 + (-12 : Int32))), .val (.int z)]) (hb hby d1_204) rfl (fun _ => rfl) ?_
        intro i66 hi66
        show Wp p e below _ _ T2 (mkF m 206 #[.val (.long q), .second, .val (.long j8), .second, .val (.long j7), .second, .val (.long j61), .second, .val (.long j10), .second, .val (.int i62), .val (.int i63), .val (.int (i64 + (-12 : Int32))), .val (.int i66)] [])
        refine Wk.iload X2 hx (hb hby d1_206) rfl rfl ?_
        refine Wk.sipush X2 hx (v := (306 : Int32)) (hb hby d1_208) rfl rfl ?_
        by_cases hc67 : i62 < (306 : Int32)
        · skip
          refine Wk.icmpYes X2 hx (hb hby d1_211) (by decide) (q := 220) rfl (tlt hc67).1 ?_
          refine Wk.new X2 hx hZ hown (w 54 _ rfl) (w 55 _ rfl) (w 5 _ rfl) e2 (hb hby d1_220) rfl (by decide) (by decide) ?_
          intro T68 h68 a68 g68 X68 e68 E68 A68 D68
          have O69 : Old Z Z.heap.size h68 := O0.ext E68
          have f70 : Fld Z h68 a68 "java/time/LocalDate" "year" "I" (.int (0 : Int32)) := D68 (Or.inr (w 64 _ rfl)) (ty := .int) (by decide)
          have f71 : Fld Z h68 a68 "java/time/LocalDate" "month" "S" (.int (0 : Int32)) := D68 (Or.inr (w 66 _ rfl)) (ty := .short) (by decide)
          have f72 : Fld Z h68 a68 "java/time/LocalDate" "day" "S" (.int (0 : Int32)) := D68 (Or.inr (w 68 _ rfl)) (ty := .short) (by decide)
          refine Wk.dup X68 hx (hb hby d1_223) rfl rfl ?_
          refine Wk.lload X68 hx (hb hby d1_224) rfl rfl ?_
          refine Wk.l2i X68 hx (hb hby d1_226) rfl ?_
          refine Wk.iload X68 hx (hb hby d1_227) rfl rfl ?_
          refine Wk.iload X68 hx (hb hby d1_229) rfl rfl ?_
          refine Wk.callI X68 hx hZ rfl hown (w 56 _ rfl) (w 57 _ rfl) (w 59 _ rfl) (by decide) (as' := [(.int j61.toInt32), (.int (i64 + (-12 : Int32))), (.int i66)]) (backOf (W := 1) (rm_ldi l Z a0 hw [] a68 j61.toInt32 (i64 + (-12 : Int32)) i66 h68 O69 A68 f70 f71 f72 (Nat.le_trans (Nat.le_trans (Nat.le_trans (Nat.le_of_eq O0.1.symm) O0.2.1) (Keep.refl h0 []).1) (Nat.le_of_eq g68))) hZ (w 59 _ rfl) (w 5 _ rfl) (by decide) (by decide)) e68 (by rw [hml]; rfl) (rest := [(.ref a68)]) (lenOf pd8 rfl) rfl (Nat.le_of_eq rfl) (hb hby d1_231) rfl (by decide) (by decide) ?_
          intro T73 h73 v73 L73 X73 e73 hQ73
          obtain ⟨rfl, Nq73, K73, q73_0⟩ := hQ73
          have KK74 : Keep h0 h68 [] := ((Keep.refl h0 []).ext E68)
          have N73 := Fk.app N2 Nq73 KK74.1 (allS (Or.inr (Nat.le_of_eq g68)) all0)
          have O75 : Old Z Z.heap.size h73 := O69.keep K73 (allS (Nat.le_trans (Nat.le_trans (Nat.le_trans (Nat.le_of_eq O0.1.symm) O0.2.1) (Keep.refl h0 []).1) (Nat.le_of_eq g68)) all0)
          show Wp p e below _ _ T73 (mkF m 234 #[.val (.long q), .second, .val (.long j8), .second, .val (.long j7), .second, .val (.long j61), .second, .val (.long j10), .second, .val (.int i62), .val (.int i63), .val (.int (i64 + (-12 : Int32))), .val (.int i66)] [(.ref a68)])
          have KK76 : Keep h0 h73 [] := (KK74.trans K73 (allS (Or.inr (Nat.le_of_eq g68)) all0))
          exact Wk.retA' X73 hx hlk hr rfl rfl (hb hby d1_234) (by decide) (by decide) (Qc := Q_rm_ofe Z q u vr_ h0) e73 ⟨a68, rfl, N73, KK76, (Nat.le_of_eq g68), q73_0⟩
        · skip
          refine Wk.icmpNo X2 hx (hb hby d1_211) rfl (flt hc67).1 ?_
          refine Wk.lload X2 hx (hb hby d1_214) rfl rfl ?_
          refine Wk.lconst X2 hx (v := (1 : Int64)) (hb hby d1_216) rfl rfl ?_
          refine Wk.ladd X2 hx (hb hby d1_217) rfl ?_
          refine Wk.lstoreA X2 hx (Ls' := fun z => #[.val (.long q), .second, .val (.long j8), .second, .val (.long j7), .second, .val (.long z), .second, .val (.long j10), .second, .val (.int i62), .val (.int i63), .val (.int (i64 + (-12 : Int32))), .val (.int i66)]) (hb hby d1_218) rfl (fun _ => rfl) ?_
          intro j77 hj77
          show Wp p e below _ _ T2 (mkF m 220 #[.val (.long q), .second, .val (.long j8), .second, .val (.long j7), .second, .val (.long j77), .second, .val (.long j10), .second, .val (.int i62), .val (.int i63), .val (.int (i64 + (-12 : Int32))), .val (.int i66)] [])
          refine Wk.new X2 hx hZ hown (w 54 _ rfl) (w 55 _ rfl) (w 5 _ rfl) e2 (hb hby d1_220) rfl (by decide) (by decide) ?_
          intro T78 h78 a78 g78 X78 e78 E78 A78 D78
          have O79 : Old Z Z.heap.size h78 := O0.ext E78
          have f80 : Fld Z h78 a78 "java/time/LocalDate" "year" "I" (.int (0 : Int32)) := D78 (Or.inr (w 64 _ rfl)) (ty := .int) (by decide)
          have f81 : Fld Z h78 a78 "java/time/LocalDate" "month" "S" (.int (0 : Int32)) := D78 (Or.inr (w 66 _ rfl)) (ty := .short) (by decide)
          have f82 : Fld Z h78 a78 "java/time/LocalDate" "day" "S" (.int (0 : Int32)) := D78 (Or.inr (w 68 _ rfl)) (ty := .short) (by decide)
          refine Wk.dup X78 hx (hb hby d1_223) rfl rfl ?_
          refine Wk.lload X78 hx (hb hby d1_224) rfl rfl ?_
          refine Wk.l2i X78 hx (hb hby d1_226) rfl ?_
          refine Wk.iload X78 hx (hb hby d1_227) rfl rfl ?_
          refine Wk.iload X78 hx (hb hby d1_229) rfl rfl ?_
          refine Wk.callI X78 hx hZ rfl hown (w 56 _ rfl) (w 57 _ rfl) (w 59 _ rfl) (by decide) (as' := [(.int j77.toInt32), (.int (i64 + (-12 : Int32))), (.int i66)]) (backOf (W := 1) (rm_ldi l Z a0 hw [] a78 j77.toInt32 (i64 + (-12 : Int32)) i66 h78 O79 A78 f80 f81 f82 (Nat.le_trans (Nat.le_trans (Nat.le_trans (Nat.le_of_eq O0.1.symm) O0.2.1) (Keep.refl h0 []).1) (Nat.le_of_eq g78))) hZ (w 59 _ rfl) (w 5 _ rfl) (by decide) (by decide)) e78 (by rw [hml]; rfl) (rest := [(.ref a78)]) (lenOf pd8 rfl) rfl (Nat.le_of_eq rfl) (hb hby d1_231) rfl (by decide) (by decide) ?_
          intro T83 h83 v83 L83 X83 e83 hQ83
          obtain ⟨rfl, Nq83, K83, q83_0⟩ := hQ83
          have KK84 : Keep h0 h78 [] := ((Keep.refl h0 []).ext E78)
          have N83 := Fk.app N2 Nq83 KK84.1 (allS (Or.inr (Nat.le_of_eq g78)) all0)
          have O85 : Old Z Z.heap.size h83 := O79.keep K83 (allS (Nat.le_trans (Nat.le_trans (Nat.le_trans (Nat.le_of_eq O0.1.symm) O0.2.1) (Keep.refl h0 []).1) (Nat.le_of_eq g78)) all0)
          show Wp p e below _ _ T83 (mkF m 234 #[.val (.long q), .second, .val (.long j8), .second, .val (.long j7), .second, .val (.long j77), .second, .val (.long j10), .second, .val (.int i62), .val (.int i63), .val (.int (i64 + (-12 : Int32))), .val (.int i66)] [(.ref a78)])
          have KK86 : Keep h0 h83 [] := (KK84.trans K83 (allS (Or.inr (Nat.le_of_eq g78)) all0))
          exact Wk.retA' X83 hx hlk hr rfl rfl (hb hby d1_234) (by decide) (by decide) (Qc := Q_rm_ofe Z q u vr_ h0) e83 ⟨a78, rfl, N83, KK86, (Nat.le_of_eq g78), q83_0⟩
      · skip
        refine Wk.icmpYes X2 hx (hb hby d1_182) (by decide) (q := 188) rfl (flt hc65).2.2.2 ?_
        refine Wk.iload X2 hx (hb hby d1_188) rfl rfl ?_
        refine Wk.iload X2 hx (hb hby d1_190) rfl rfl ?_
        refine Wk.sipush X2 hx (v := (306 : Int32)) (hb hby d1_192) rfl rfl ?_
        refine Wk.imul X2 hx (hb hby d1_195) rfl ?_
        refine Wk.iconst X2 hx (v := (5 : Int32)) (hb hby d1_196) rfl rfl ?_
        refine Wk.iadd X2 hx (hb hby d1_197) rfl ?_
        refine Wk.bipush X2 hx (v := (10 : Int32)) (hb hby d1_198) rfl rfl ?_
        refine Wk.idiv X2 hx (hb hby d1_200) rfl (by decide) ?_
        refine Wk.isub X2 hx (hb hby d1_201) rfl ?_
        refine Wk.iconst X2 hx (v := (1 : Int32)) (hb hby d1_202) rfl rfl ?_
        refine Wk.iadd X2 hx (hb hby d1_203) rfl ?_
        refine Wk.istoreA X2 hx (Ls' := fun z => #[.val (.long q), .second, .val (.long j8), .second, .val (.long j7), .second, .val (.long j61), .second, .val (.long j10), .second, .val (.int i62), .val (.int i63), .val (.int i64), .val (.int z)]) (hb hby d1_204) rfl (fun _ => rfl) ?_
        intro i87 hi87
        show Wp p e below _ _ T2 (mkF m 206 #[.val (.long q), .second, .val (.long j8), .second, .val (.long j7), .second, .val (.long j61), .second, .val (.long j10), .second, .val (.int i62), .val (.int i63), .val (.int i64), .val (.int i87)] [])
        refine Wk.iload X2 hx (hb hby d1_206) rfl rfl ?_
        refine Wk.sipush X2 hx (v := (306 : Int32)) (hb hby d1_208) rfl rfl ?_
        by_cases hc88 : i62 < (306 : Int32)
        · skip
          refine Wk.icmpYes X2 hx (hb hby d1_211) (by decide) (q := 220) rfl (tlt hc88).1 ?_
          refine Wk.new X2 hx hZ hown (w 54 _ rfl) (w 55 _ rfl) (w 5 _ rfl) e2 (hb hby d1_220) rfl (by decide) (by decide) ?_
          intro T89 h89 a89 g89 X89 e89 E89 A89 D89
          have O90 : Old Z Z.heap.size h89 := O0.ext E89
          have f91 : Fld Z h89 a89 "java/time/LocalDate" "year" "I" (.int (0 : Int32)) := D89 (Or.inr (w 64 _ rfl)) (ty := .int) (by decide)
          have f92 : Fld Z h89 a89 "java/time/LocalDate" "month" "S" (.int (0 : Int32)) := D89 (Or.inr (w 66 _ rfl)) (ty := .short) (by decide)
          have f93 : Fld Z h89 a89 "java/time/LocalDate" "day" "S" (.int (0 : Int32)) := D89 (Or.inr (w 68 _ rfl)) (ty := .short) (by decide)
          refine Wk.dup X89 hx (hb hby d1_223) rfl rfl ?_
          refine Wk.lload X89 hx (hb hby d1_224) rfl rfl ?_
          refine Wk.l2i X89 hx (hb hby d1_226) rfl ?_
          refine Wk.iload X89 hx (hb hby d1_227) rfl rfl ?_
          refine Wk.iload X89 hx (hb hby d1_229) rfl rfl ?_
          refine Wk.callI X89 hx hZ rfl hown (w 56 _ rfl) (w 57 _ rfl) (w 59 _ rfl) (by decide) (as' := [(.int j61.toInt32), (.int i64), (.int i87)]) (backOf (W := 1) (rm_ldi l Z a0 hw [] a89 j61.toInt32 i64 i87 h89 O90 A89 f91 f92 f93 (Nat.le_trans (Nat.le_trans (Nat.le_trans (Nat.le_of_eq O0.1.symm) O0.2.1) (Keep.refl h0 []).1) (Nat.le_of_eq g89))) hZ (w 59 _ rfl) (w 5 _ rfl) (by decide) (by decide)) e89 (by rw [hml]; rfl) (rest := [(.ref a89)]) (lenOf pd8 rfl) rfl (Nat.le_of_eq rfl) (hb hby d1_231) rfl (by decide) (by decide) ?_
          intro T94 h94 v94 L94 X94 e94 hQ94
          obtain ⟨rfl, Nq94, K94, q94_0⟩ := hQ94
          have KK95 : Keep h0 h89 [] := ((Keep.refl h0 []).ext E89)
          have N94 := Fk.app N2 Nq94 KK95.1 (allS (Or.inr (Nat.le_of_eq g89)) all0)
          have O96 : Old Z Z.heap.size h94 := O90.keep K94 (allS (Nat.le_trans (Nat.le_trans (Nat.le_trans (Nat.le_of_eq O0.1.symm) O0.2.1) (Keep.refl h0 []).1) (Nat.le_of_eq g89)) all0)
          show Wp p e below _ _ T94 (mkF m 234 #[.val (.long q), .second, .val (.long j8), .second, .val (.long j7), .second, .val (.long j61), .second, .val (.long j10), .second, .val (.int i62), .val (.int i63), .val (.int i64), .val (.int i87)] [(.ref a89)])
          have KK97 : Keep h0 h94 [] := (KK95.trans K94 (allS (Or.inr (Nat.le_of_eq g89)) all0))
          exact Wk.retA' X94 hx hlk hr rfl rfl (hb hby d1_234) (by decide) (by decide) (Qc := Q_rm_ofe Z q u vr_ h0) e94 ⟨a89, rfl, N94, KK97, (Nat.le_of_eq g89), q94_0⟩
        · skip
          refine Wk.icmpNo X2 hx (hb hby d1_211) rfl (flt hc88).1 ?_
          refine Wk.lload X2 hx (hb hby d1_214) rfl rfl ?_
          refine Wk.lconst X2 hx (v := (1 : Int64)) (hb hby d1_216) rfl rfl ?_
          refine Wk.ladd X2 hx (hb hby d1_217) rfl ?_
          refine Wk.lstoreA X2 hx (Ls' := fun z => #[.val (.long q), .second, .val (.long j8), .second, .val (.long j7), .second, .val (.long z), .second, .val (.long j10), .second, .val (.int i62), .val (.int i63), .val (.int i64), .val (.int i87)]) (hb hby d1_218) rfl (fun _ => rfl) ?_
          intro j98 hj98
          show Wp p e below _ _ T2 (mkF m 220 #[.val (.long q), .second, .val (.long j8), .second, .val (.long j7), .second, .val (.long j98), .second, .val (.long j10), .second, .val (.int i62), .val (.int i63), .val (.int i64), .val (.int i87)] [])
          refine Wk.new X2 hx hZ hown (w 54 _ rfl) (w 55 _ rfl) (w 5 _ rfl) e2 (hb hby d1_220) rfl (by decide) (by decide) ?_
          intro T99 h99 a99 g99 X99 e99 E99 A99 D99
          have O100 : Old Z Z.heap.size h99 := O0.ext E99
          have f101 : Fld Z h99 a99 "java/time/LocalDate" "year" "I" (.int (0 : Int32)) := D99 (Or.inr (w 64 _ rfl)) (ty := .int) (by decide)
          have f102 : Fld Z h99 a99 "java/time/LocalDate" "month" "S" (.int (0 : Int32)) := D99 (Or.inr (w 66 _ rfl)) (ty := .short) (by decide)
          have f103 : Fld Z h99 a99 "java/time/LocalDate" "day" "S" (.int (0 : Int32)) := D99 (Or.inr (w 68 _ rfl)) (ty := .short) (by decide)
          refine Wk.dup X99 hx (hb hby d1_223) rfl rfl ?_
          refine Wk.lload X99 hx (hb hby d1_224) rfl rfl ?_
          refine Wk.l2i X99 hx (hb hby d1_226) rfl ?_
          refine Wk.iload X99 hx (hb hby d1_227) rfl rfl ?_
          refine Wk.iload X99 hx (hb hby d1_229) rfl rfl ?_
          refine Wk.callI X99 hx hZ rfl hown (w 56 _ rfl) (w 57 _ rfl) (w 59 _ rfl) (by decide) (as' := [(.int j98.toInt32), (.int i64), (.int i87)]) (backOf (W := 1) (rm_ldi l Z a0 hw [] a99 j98.toInt32 i64 i87 h99 O100 A99 f101 f102 f103 (Nat.le_trans (Nat.le_trans (Nat.le_trans (Nat.le_of_eq O0.1.symm) O0.2.1) (Keep.refl h0 []).1) (Nat.le_of_eq g99))) hZ (w 59 _ rfl) (w 5 _ rfl) (by decide) (by decide)) e99 (by rw [hml]; rfl) (rest := [(.ref a99)]) (lenOf pd8 rfl) rfl (Nat.le_of_eq rfl) (hb hby d1_231) rfl (by decide) (by decide) ?_
          intro T104 h104 v104 L104 X104 e104 hQ104
          obtain ⟨rfl, Nq104, K104, q104_0⟩ := hQ104
          have KK105 : Keep h0 h99 [] := ((Keep.refl h0 []).ext E99)
          have N104 := Fk.app N2 Nq104 KK105.1 (allS (Or.inr (Nat.le_of_eq g99)) all0)
          have O106 : Old Z Z.heap.size h104 := O100.keep K104 (allS (Nat.le_trans (Nat.le_trans (Nat.le_trans (Nat.le_of_eq O0.1.symm) O0.2.1) (Keep.refl h0 []).1) (Nat.le_of_eq g99)) all0)
          show Wp p e below _ _ T104 (mkF m 234 #[.val (.long q), .second, .val (.long j8), .second, .val (.long j7), .second, .val (.long j98), .second, .val (.long j10), .second, .val (.int i62), .val (.int i63), .val (.int i64), .val (.int i87)] [(.ref a99)])
          have KK107 : Keep h0 h104 [] := (KK105.trans K104 (allS (Or.inr (Nat.le_of_eq g99)) all0))
          exact Wk.retA' X104 hx hlk hr rfl rfl (hb hby d1_234) (by decide) (by decide) (Qc := Q_rm_ofe Z q u vr_ h0) e104 ⟨a99, rfl, N104, KK107, (Nat.le_of_eq g99), q104_0⟩
  · skip
    refine Wk.ifYes X2 hx (hb hby d1_26) (by decide) (q := 58) rfl ((if0 _ _).trans (flt hc5).2.1) ?_
    refine Wk.ldc2Long X2 hx hZ hown (w 48 _ rfl) (hb hby d1_58) rfl ?_
    refine Wk.lloadN X2 hx (hb hby d1_61) rfl rfl ?_
    refine Wk.lmul X2 hx (hb hby d1_62) rfl ?_
    refine Wk.ldc2Long X2 hx hZ hown (w 49 _ rfl) (hb hby d1_63) rfl ?_
    refine Wk.ladd X2 hx (hb hby d1_66) rfl ?_
    refine Wk.ldc2Long X2 hx hZ hown (w 50 _ rfl) (hb hby d1_67) rfl ?_
    refine Wk.ldiv X2 hx (hb hby d1_70) rfl (by decide) ?_
    refine Wk.lstoreA X2 hx (Ls' := fun z => #[.val (.long q), .second, .val (.long j4), .second, .val (.long (0 : Int64)), .second, .val (.long z), .second, .unset, .unset, .unset, .unset, .unset, .unset]) (hb hby d1_71) rfl (fun _ => rfl) ?_
    intro j108 hj108
    show Wp p e below _ _ T2 (mkF m 73 #[.val (.long q), .second, .val (.long j4), .second, .val (.long (0 : Int64)), .second, .val (.long j108), .second, .unset, .unset, .unset, .unset, .unset, .unset] [])
    refine Wk.lloadN X2 hx (hb hby d1_73) rfl rfl ?_
    refine Wk.ldc2Long X2 hx hZ hown (w 51 _ rfl) (hb hby d1_74) rfl ?_
    refine Wk.lload X2 hx (hb hby d1_77) rfl rfl ?_
    refine Wk.lmul X2 hx (hb hby d1_79) rfl ?_
    refine Wk.lload X2 hx (hb hby d1_80) rfl rfl ?_
    refine Wk.ldc2Long X2 hx hZ hown (w 52 _ rfl) (hb hby d1_82) rfl ?_
    refine Wk.ldiv X2 hx (hb hby d1_85) rfl (by decide) ?_
    refine Wk.ladd X2 hx (hb hby d1_86) rfl ?_
    refine Wk.lload X2 hx (hb hby d1_87) rfl rfl ?_
    refine Wk.ldc2Long X2 hx hZ hown (w 53 _ rfl) (hb hby d1_89) rfl ?_
    refine Wk.ldiv X2 hx (hb hby d1_92) rfl (by decide) ?_
    refine Wk.lsub X2 hx (hb hby d1_93) rfl ?_
    refine Wk.lload X2 hx (hb hby d1_94) rfl rfl ?_
    refine Wk.ldc2Long X2 hx hZ hown (w 48 _ rfl) (hb hby d1_96) rfl ?_
    refine Wk.ldiv X2 hx (hb hby d1_99) rfl (by decide) ?_
    refine Wk.ladd X2 hx (hb hby d1_100) rfl ?_
    refine Wk.lsub X2 hx (hb hby d1_101) rfl ?_
    refine Wk.lstoreA X2 hx (Ls' := fun z => #[.val (.long q), .second, .val (.long j4), .second, .val (.long (0 : Int64)), .second, .val (.long j108), .second, .val (.long z), .second, .unset, .unset, .unset, .unset]) (hb hby d1_102) rfl (fun _ => rfl) ?_
    intro j109 hj109
    show Wp p e below _ _ T2 (mkF m 104 #[.val (.long q), .second, .val (.long j4), .second, .val (.long (0 : Int64)), .second, .val (.long j108), .second, .val (.long j109), .second, .unset, .unset, .unset, .unset] [])
    refine Wk.lload X2 hx (hb hby d1_104) rfl rfl ?_
    refine Wk.lconst X2 hx (v := (0 : Int64)) (hb hby d1_106) rfl rfl ?_
    refine Wk.lcmp X2 hx (hb hby d1_107) rfl ?_
    by_cases hc110 : (lcmpW j109 (0 : Int64)) < (0 : Int32)
    · skip
      refine Wk.ifNo X2 hx (hb hby d1_108) rfl ((if0 _ _).trans (tlt hc110).2.1) ?_
      refine Wk.lload X2 hx (hb hby d1_111) rfl rfl ?_
      refine Wk.lconst X2 hx (v := (1 : Int64)) (hb hby d1_113) rfl rfl ?_
      refine Wk.lsub X2 hx (hb hby d1_114) rfl ?_
      refine Wk.lstoreA X2 hx (Ls' := fun z => #[.val (.long q), .second, .val (.long j4), .second, .val (.long (0 : Int64)), .second, .val (.long z), .second, .val (.long j109), .second, .unset, .unset, .unset, .unset]) (hb hby d1_115) rfl (fun _ => rfl) ?_
      intro j111 hj111
      show Wp p e below _ _ T2 (mkF m 117 #[.val (.long q), .second, .val (.long j4), .second, .val (.long (0 : Int64)), .second, .val (.long j111), .second, .val (.long j109), .second, .unset, .unset, .unset, .unset] [])
      refine Wk.lloadN X2 hx (hb hby d1_117) rfl rfl ?_
      refine Wk.ldc2Long X2 hx hZ hown (w 51 _ rfl) (hb hby d1_118) rfl ?_
      refine Wk.lload X2 hx (hb hby d1_121) rfl rfl ?_
      refine Wk.lmul X2 hx (hb hby d1_123) rfl ?_
      refine Wk.lload X2 hx (hb hby d1_124) rfl rfl ?_
      refine Wk.ldc2Long X2 hx hZ hown (w 52 _ rfl) (hb hby d1_126) rfl ?_
      refine Wk.ldiv X2 hx (hb hby d1_129) rfl (by decide) ?_
      refine Wk.ladd X2 hx (hb hby d1_130) rfl ?_
      refine Wk.lload X2 hx (hb hby d1_131) rfl rfl ?_
      refine Wk.ldc2Long X2 hx hZ hown (w 53 _ rfl) (hb hby d1_133) rfl ?_
      refine Wk.ldiv X2 hx (hb hby d1_136) rfl (by decide) ?_
      refine Wk.lsub X2 hx (hb hby d1_137) rfl ?_
      refine Wk.lload X2 hx (hb hby d1_138) rfl rfl ?_
      refine Wk.ldc2Long X2 hx hZ hown (w 48 _ rfl) (hb hby d1_140) rfl ?_
      refine Wk.ldiv X2 hx (hb hby d1_143) rfl (by decide) ?_
      refine Wk.ladd X2 hx (hb hby d1_144) rfl ?_
      refine Wk.lsub X2 hx (hb hby d1_145) rfl ?_
      refine Wk.lstoreA X2 hx (Ls' := fun z => #[.val (.long q), .second, .val (.long j4), .second, .val (.long (0 : Int64)), .second, .val (.long j111), .second, .val (.long z), .second, .unset, .unset, .unset, .unset]) (hb hby d1_146) rfl (fun _ => rfl) ?_
      intro j112 hj112
      show Wp p e below _ _ T2 (mkF m 148 #[.val (.long q), .second, .val (.long j4), .second, .val (.long (0 : Int64)), .second, .val (.long j111), .second, .val (.long j112), .second, .unset, .unset, .unset, .unset] [])
      refine Wk.lload X2 hx (hb hby d1_148) rfl rfl ?_
      refine Wk.lload X2 hx (hb hby d1_150) rfl rfl ?_
      refine Wk.ladd X2 hx (hb hby d1_152) rfl ?_
      refine Wk.lstoreA X2 hx (Ls' := fun z => #[.val (.long q), .second, .val (.long j4), .second, .val (.long (0 : Int64)), .second, .val (.long z), .second, .val (.long j112), .second, .unset, .unset, .unset, .unset]) (hb hby d1_153) rfl (fun _ => rfl) ?_
      intro j113 hj113
      show Wp p e below _ _ T2 (mkF m 155 #[.val (.long q), .second, .val (.long j4), .second, .val (.long (0 : Int64)), .second, .val (.long j113), .second, .val (.long j112), .second, .unset, .unset, .unset, .unset] [])
      refine Wk.lload X2 hx (hb hby d1_155) rfl rfl ?_
      refine Wk.l2i X2 hx (hb hby d1_157) rfl ?_
      refine Wk.istoreA X2 hx (Ls' := fun z => #[.val (.long q), .second, .val (.long j4), .second, .val (.long (0 : Int64)), .second, .val (.long j113), .second, .val (.long j112), .second, .val (.int z), .unset, .unset, .unset]) (hb hby d1_158) rfl (fun _ => rfl) ?_
      intro i114 hi114
      show Wp p e below _ _ T2 (mkF m 160 #[.val (.long q), .second, .val (.long j4), .second, .val (.long (0 : Int64)), .second, .val (.long j113), .second, .val (.long j112), .second, .val (.int i114), .unset, .unset, .unset] [])
      refine Wk.iload X2 hx (hb hby d1_160) rfl rfl ?_
      refine Wk.iconst X2 hx (v := (5 : Int32)) (hb hby d1_162) rfl rfl ?_
      refine Wk.imul X2 hx (hb hby d1_163) rfl ?_
      refine Wk.iconst X2 hx (v := (2 : Int32)) (hb hby d1_164) rfl rfl ?_
      refine Wk.iadd X2 hx (hb hby d1_165) rfl ?_
      refine Wk.sipush X2 hx (v := (153 : Int32)) (hb hby d1_166) rfl rfl ?_
      refine Wk.idiv X2 hx (hb hby d1_169) rfl (by decide) ?_
      refine Wk.istoreA X2 hx (Ls' := fun z => #[.val (.long q), .second, .val (.long j4), .second, .val (.long (0 : Int64)), .second, .val (.long j113), .second, .val (.long j112), .second, .val (.int i114), .val (.int z), .unset, .unset]) (hb hby d1_170) rfl (fun _ => rfl) ?_
      intro i115 hi115
      show Wp p e below _ _ T2 (mkF m 172 #[.val (.long q), .second, .val (.long j4), .second, .val (.long (0 : Int64)), .second, .val (.long j113), .second, .val (.long j112), .second, .val (.int i114), .val (.int i115), .unset, .unset] [])
      refine Wk.iload X2 hx (hb hby d1_172) rfl rfl ?_
      refine Wk.iconst X2 hx (v := (3 : Int32)) (hb hby d1_174) rfl rfl ?_
      refine Wk.iadd X2 hx (hb hby d1_175) rfl ?_
      refine Wk.istoreA X2 hx (Ls' := fun z => #[.val (.long q), .second, .val (.long j4), .second, .val (.long (0 : Int64)), .second, .val (.long j113), .second, .val (.long j112), .second, .val (.int i114), .val (.int i115), .val (.int z), .unset]) (hb hby d1_176) rfl (fun _ => rfl) ?_
      intro i116 hi116
      show Wp p e below _ _ T2 (mkF m 178 #[.val (.long q), .second, .val (.long j4), .second, .val (.long (0 : Int64)), .second, .val (.long j113), .second, .val (.long j112), .second, .val (.int i114), .val (.int i115), .val (.int i116), .unset] [])
      refine Wk.iload X2 hx (hb hby d1_178) rfl rfl ?_
      refine Wk.bipush X2 hx (v := (12 : Int32)) (hb hby d1_180) rfl rfl ?_
      by_cases hc117 : (12 : Int32) < i116
      · skip
        refine Wk.icmpNo X2 hx (hb hby d1_182) rfl (tlt hc117).2.2.2 ?_
        refine Wk.iinc X2 hx (Ls' := #[.val (.long q), .second, .val (.long j4), .second, .val (.long (0 : Int64)), .second, .val (.long j113), .second, .val (.long j112), .second, .val (.int i114), .val (.int i115), .val (.int (i116 + (-12 : Int32))), .unset]) (hb hby d1_185) rfl rfl rfl ?_
        refine Wk.iload X2 hx (hb hby d1_188) rfl rfl ?_
        refine Wk.iload X2 hx (hb hby d1_190) rfl rfl ?_
        refine Wk.sipush X2 hx (v := (306 : Int32)) (hb hby d1_192) rfl rfl ?_
        refine Wk.imul X2 hx (hb hby d1_195) rfl ?_
        refine Wk.iconst X2 hx (v := (5 : Int32)) (hb hby d1_196) rfl rfl ?_
        refine Wk.iadd X2 hx (hb hby d1_197) rfl ?_
        refine Wk.bipush X2 hx (v := (10 : Int32)) (hb hby d1_198) rfl rfl ?_
        refine Wk.idiv X2 hx (hb hby d1_200) rfl (by decide) ?_
        refine Wk.isub X2 hx (hb hby d1_201) rfl ?_
        refine Wk.iconst X2 hx (v := (1 : Int32)) (hb hby d1_202) rfl rfl ?_
        refine Wk.iadd X2 hx (hb hby d1_203) rfl ?_
        refine Wk.istoreA X2 hx (Ls' := fun z => #[.val (.long q), .second, .val (.long j4), .second, .val (.long (0 : Int64)), .second, .val (.long j113), .second, .val (.long j112), .second, .val (.int i114), .val (.int i115), .val (.int (i116 + (-12 : Int32))), .val (.int z)]) (hb hby d1_204) rfl (fun _ => rfl) ?_
        intro i118 hi118
        show Wp p e below _ _ T2 (mkF m 206 #[.val (.long q), .second, .val (.long j4), .second, .val (.long (0 : Int64)), .second, .val (.long j113), .second, .val (.long j112), .second, .val (.int i114), .val (.int i115), .val (.int (i116 + (-12 : Int32))), .val (.int i118)] [])
        refine Wk.iload X2 hx (hb hby d1_206) rfl rfl ?_
        refine Wk.sipush X2 hx (v := (306 : Int32)) (hb hby d1_208) rfl rfl ?_
        by_cases hc119 : i114 < (306 : Int32)
        · skip
          refine Wk.icmpYes X2 hx (hb hby d1_211) (by decide) (q := 220) rfl (tlt hc119).1 ?_
          refine Wk.new X2 hx hZ hown (w 54 _ rfl) (w 55 _ rfl) (w 5 _ rfl) e2 (hb hby d1_220) rfl (by decide) (by decide) ?_
          intro T120 h120 a120 g120 X120 e120 E120 A120 D120
          have O121 : Old Z Z.heap.size h120 := O0.ext E120
          have f122 : Fld Z h120 a120 "java/time/LocalDate" "year" "I" (.int (0 : Int32)) := D120 (Or.inr (w 64 _ rfl)) (ty := .int) (by decide)
          have f123 : Fld Z h120 a120 "java/time/LocalDate" "month" "S" (.int (0 : Int32)) := D120 (Or.inr (w 66 _ rfl)) (ty := .short) (by decide)
          have f124 : Fld Z h120 a120 "java/time/LocalDate" "day" "S" (.int (0 : Int32)) := D120 (Or.inr (w 68 _ rfl)) (ty := .short) (by decide)
          refine Wk.dup X120 hx (hb hby d1_223) rfl rfl ?_
          refine Wk.lload X120 hx (hb hby d1_224) rfl rfl ?_
          refine Wk.l2i X120 hx (hb hby d1_226) rfl ?_
          refine Wk.iload X120 hx (hb hby d1_227) rfl rfl ?_
          refine Wk.iload X120 hx (hb hby d1_229) rfl rfl ?_
          refine Wk.callI X120 hx hZ rfl hown (w 56 _ rfl) (w 57 _ rfl) (w 59 _ rfl) (by decide) (as' := [(.int j113.toInt32), (.int (i116 + (-12 : Int32))), (.int i118)]) (backOf (W := 1) (rm_ldi l Z a0 hw [] a120 j113.toInt32 (i116 + (-12 : Int32)) i118 h120 O121 A120 f122 f123 f124 (Nat.le_trans (Nat.le_trans (Nat.le_trans (Nat.le_of_eq O0.1.symm) O0.2.1) (Keep.refl h0 []).1) (Nat.le_of_eq g120))) hZ (w 59 _ rfl) (w 5 _ rfl) (by decide) (by decide)) e120 (by rw [hml]; rfl) (rest := [(.ref a120)]) (lenOf pd8 rfl) rfl (Nat.le_of_eq rfl) (hb hby d1_231) rfl (by decide) (by decide) ?_
          intro T125 h125 v125 L125 X125 e125 hQ125
          obtain ⟨rfl, Nq125, K125, q125_0⟩ := hQ125
          have KK126 : Keep h0 h120 [] := ((Keep.refl h0 []).ext E120)
          have N125 := Fk.app N2 Nq125 KK126.1 (allS (Or.inr (Nat.le_of_eq g120)) all0)
          have O127 : Old Z Z.heap.size h125 := O121.keep K125 (allS (Nat.le_trans (Nat.le_trans (Nat.le_trans (Nat.le_of_eq O0.1.symm) O0.2.1) (Keep.refl h0 []).1) (Nat.le_of_eq g120)) all0)
          show Wp p e below _ _ T125 (mkF m 234 #[.val (.long q), .second, .val (.long j4), .second, .val (.long (0 : Int64)), .second, .val (.long j113), .second, .val (.long j112), .second, .val (.int i114), .val (.int i115), .val (.int (i116 + (-12 : Int32))), .val (.int i118)] [(.ref a120)])
          have KK128 : Keep h0 h125 [] := (KK126.trans K125 (allS (Or.inr (Nat.le_of_eq g120)) all0))
          exact Wk.retA' X125 hx hlk hr rfl rfl (hb hby d1_234) (by decide) (by decide) (Qc := Q_rm_ofe Z q u vr_ h0) e125 ⟨a120, rfl, N125, KK128, (Nat.le_of_eq g120), q125_0⟩
        · skip
          refine Wk.icmpNo X2 hx (hb hby d1_211) rfl (flt hc119).1 ?_
          refine Wk.lload X2 hx (hb hby d1_214) rfl rfl ?_
          refine Wk.lconst X2 hx (v := (1 : Int64)) (hb hby d1_216) rfl rfl ?_
          refine Wk.ladd X2 hx (hb hby d1_217) rfl ?_
          refine Wk.lstoreA X2 hx (Ls' := fun z => #[.val (.long q), .second, .val (.long j4), .second, .val (.long (0 : Int64)), .second, .val (.long z), .second, .val (.long j112), .second, .val (.int i114), .val (.int i115), .val (.int (i116 + (-12 : Int32))), .val (.int i118)]) (hb hby d1_218) rfl (fun _ => rfl) ?_
          intro j129 hj129
          show Wp p e below _ _ T2 (mkF m 220 #[.val (.long q), .second, .val (.long j4), .second, .val (.long (0 : Int64)), .second, .val (.long j129), .second, .val (.long j112), .second, .val (.int i114), .val (.int i115), .val (.int (i116 + (-12 : Int32))), .val (.int i118)] [])
          refine Wk.new X2 hx hZ hown (w 54 _ rfl) (w 55 _ rfl) (w 5 _ rfl) e2 (hb hby d1_220) rfl (by decide) (by decide) ?_
          intro T130 h130 a130 g130 X130 e130 E130 A130 D130
          have O131 : Old Z Z.heap.size h130 := O0.ext E130
          have f132 : Fld Z h130 a130 "java/time/LocalDate" "year" "I" (.int (0 : Int32)) := D130 (Or.inr (w 64 _ rfl)) (ty := .int) (by decide)
          have f133 : Fld Z h130 a130 "java/time/LocalDate" "month" "S" (.int (0 : Int32)) := D130 (Or.inr (w 66 _ rfl)) (ty := .short) (by decide)
          have f134 : Fld Z h130 a130 "java/time/LocalDate" "day" "S" (.int (0 : Int32)) := D130 (Or.inr (w 68 _ rfl)) (ty := .short) (by decide)
          refine Wk.dup X130 hx (hb hby d1_223) rfl rfl ?_
          refine Wk.lload X130 hx (hb hby d1_224) rfl rfl ?_
          refine Wk.l2i X130 hx (hb hby d1_226) rfl ?_
          refine Wk.iload X130 hx (hb hby d1_227) rfl rfl ?_
          refine Wk.iload X130 hx (hb hby d1_229) rfl rfl ?_
          refine Wk.callI X130 hx hZ rfl hown (w 56 _ rfl) (w 57 _ rfl) (w 59 _ rfl) (by decide) (as' := [(.int j129.toInt32), (.int (i116 + (-12 : Int32))), (.int i118)]) (backOf (W := 1) (rm_ldi l Z a0 hw [] a130 j129.toInt32 (i116 + (-12 : Int32)) i118 h130 O131 A130 f132 f133 f134 (Nat.le_trans (Nat.le_trans (Nat.le_trans (Nat.le_of_eq O0.1.symm) O0.2.1) (Keep.refl h0 []).1) (Nat.le_of_eq g130))) hZ (w 59 _ rfl) (w 5 _ rfl) (by decide) (by decide)) e130 (by rw [hml]; rfl) (rest := [(.ref a130)]) (lenOf pd8 rfl) rfl (Nat.le_of_eq rfl) (hb hby d1_231) rfl (by decide) (by decide) ?_
          intro T135 h135 v135 L135 X135 e135 hQ135
          obtain ⟨rfl, Nq135, K135, q135_0⟩ := hQ135
          have KK136 : Keep h0 h130 [] := ((Keep.refl h0 []).ext E130)
          have N135 := Fk.app N2 Nq135 KK136.1 (allS (Or.inr (Nat.le_of_eq g130)) all0)
          have O137 : Old Z Z.heap.size h135 := O131.keep K135 (allS (Nat.le_trans (Nat.le_trans (Nat.le_trans (Nat.le_of_eq O0.1.symm) O0.2.1) (Keep.refl h0 []).1) (Nat.le_of_eq g130)) all0)
          show Wp p e below _ _ T135 (mkF m 234 #[.val (.long q), .second, .val (.long j4), .second, .val (.long (0 : Int64)), .second, .val (.long j129), .second, .val (.long j112), .second, .val (.int i114), .val (.int i115), .val (.int (i116 + (-12 : Int32))), .val (.int i118)] [(.ref a130)])
          have KK138 : Keep h0 h135 [] := (KK136.trans K135 (allS (Or.inr (Nat.le_of_eq g130)) all0))
          exact Wk.retA' X135 hx hlk hr rfl rfl (hb hby d1_234) (by decide) (by decide) (Qc := Q_rm_ofe Z q u vr_ h0) e135 ⟨a130, rfl, N135, KK138, (Nat.le_of_eq g130), q135_0⟩
      · skip
        refine Wk.icmpYes X2 hx (hb hby d1_182) (by decide) (q := 188) rfl (flt hc117).2.2.2 ?_
        refine Wk.iload X2 hx (hb hby d1_188) rfl rfl ?_
        refine Wk.iload X2 hx (hb hby d1_190) rfl rfl ?_
        refine Wk.sipush X2 hx (v := (306 : Int32)) (hb hby d1_192) rfl rfl ?_
        refine Wk.imul X2 hx (hb hby d1_195) rfl ?_
        refine Wk.iconst X2 hx (v := (5 : Int32)) (hb hby d1_196) rfl rfl ?_
        refine Wk.iadd X2 hx (hb hby d1_197) rfl ?_
        refine Wk.bipush X2 hx (v := (10 : Int32)) (hb hby d1_198) rfl rfl ?_
        refine Wk.idiv X2 hx (hb hby d1_200) rfl (by decide) ?_
        refine Wk.isub X2 hx (hb hby d1_201) rfl ?_
        refine Wk.iconst X2 hx (v := (1 : Int32)) (hb hby d1_202) rfl rfl ?_
        refine Wk.iadd X2 hx (hb hby d1_203) rfl ?_
        refine Wk.istoreA X2 hx (Ls' := fun z => #[.val (.long q), .second, .val (.long j4), .second, .val (.long (0 : Int64)), .second, .val (.long j113), .second, .val (.long j112), .second, .val (.int i114), .val (.int i115), .val (.int i116), .val (.int z)]) (hb hby d1_204) rfl (fun _ => rfl) ?_
        intro i139 hi139
        show Wp p e below _ _ T2 (mkF m 206 #[.val (.long q), .second, .val (.long j4), .second, .val (.long (0 : Int64)), .second, .val (.long j113), .second, .val (.long j112), .second, .val (.int i114), .val (.int i115), .val (.int i116), .val (.int i139)] [])
        refine Wk.iload X2 hx (hb hby d1_206) rfl rfl ?_
        refine Wk.sipush X2 hx (v := (306 : Int32)) (hb hby d1_208) rfl rfl ?_
        by_cases hc140 : i114 < (306 : Int32)
        · skip
          refine Wk.icmpYes X2 hx (hb hby d1_211) (by decide) (q := 220) rfl (tlt hc140).1 ?_
          refine Wk.new X2 hx hZ hown (w 54 _ rfl) (w 55 _ rfl) (w 5 _ rfl) e2 (hb hby d1_220) rfl (by decide) (by decide) ?_
          intro T141 h141 a141 g141 X141 e141 E141 A141 D141
          have O142 : Old Z Z.heap.size h141 := O0.ext E141
          have f143 : Fld Z h141 a141 "java/time/LocalDate" "year" "I" (.int (0 : Int32)) := D141 (Or.inr (w 64 _ rfl)) (ty := .int) (by decide)
          have f144 : Fld Z h141 a141 "java/time/LocalDate" "month" "S" (.int (0 : Int32)) := D141 (Or.inr (w 66 _ rfl)) (ty := .short) (by decide)
          have f145 : Fld Z h141 a141 "java/time/LocalDate" "day" "S" (.int (0 : Int32)) := D141 (Or.inr (w 68 _ rfl)) (ty := .short) (by decide)
          refine Wk.dup X141 hx (hb hby d1_223) rfl rfl ?_
          refine Wk.lload X141 hx (hb hby d1_224) rfl rfl ?_
          refine Wk.l2i X141 hx (hb hby d1_226) rfl ?_
          refine Wk.iload X141 hx (hb hby d1_227) rfl rfl ?_
          refine Wk.iload X141 hx (hb hby d1_229) rfl rfl ?_
          refine Wk.callI X141 hx hZ rfl hown (w 56 _ rfl) (w 57 _ rfl) (w 59 _ rfl) (by decide) (as' := [(.int j113.toInt32), (.int i116), (.int i139)]) (backOf (W := 1) (rm_ldi l Z a0 hw [] a141 j113.toInt32 i116 i139 h141 O142 A141 f143 f144 f145 (Nat.le_trans (Nat.le_trans (Nat.le_trans (Nat.le_of_eq O0.1.symm) O0.2.1) (Keep.refl h0 []).1) (Nat.le_of_eq g141))) hZ (w 59 _ rfl) (w 5 _ rfl) (by decide) (by decide)) e141 (by rw [hml]; rfl) (rest := [(.ref a141)]) (lenOf pd8 rfl) rfl (Nat.le_of_eq rfl) (hb hby d1_231) rfl (by decide) (by decide) ?_
          intro T146 h146 v146 L146 X146 e146 hQ146
          obtain ⟨rfl, Nq146, K146, q146_0⟩ := hQ146
          have KK147 : Keep h0 h141 [] := ((Keep.refl h0 []).ext E141)
          have N146 := Fk.app N2 Nq146 KK147.1 (allS (Or.inr (Nat.le_of_eq g141)) all0)
          have O148 : Old Z Z.heap.size h146 := O142.keep K146 (allS (Nat.le_trans (Nat.le_trans (Nat.le_trans (Nat.le_of_eq O0.1.symm) O0.2.1) (Keep.refl h0 []).1) (Nat.le_of_eq g141)) all0)
          show Wp p e below _ _ T146 (mkF m 234 #[.val (.long q), .second, .val (.long j4), .second, .val (.long (0 : Int64)), .second, .val (.long j113), .second, .val (.long j112), .second, .val (.int i114), .val (.int i115), .val (.int i116), .val (.int i139)] [(.ref a141)])
          have KK149 : Keep h0 h146 [] := (KK147.trans K146 (allS (Or.inr (Nat.le_of_eq g141)) all0))
          exact Wk.retA' X146 hx hlk hr rfl rfl (hb hby d1_234) (by decide) (by decide) (Qc := Q_rm_ofe Z q u vr_ h0) e146 ⟨a141, rfl, N146, KK149, (Nat.le_of_eq g141), q146_0⟩
        · skip
          refine Wk.icmpNo X2 hx (hb hby d1_211) rfl (flt hc140).1 ?_
          refine Wk.lload X2 hx (hb hby d1_214) rfl rfl ?_
          refine Wk.lconst X2 hx (v := (1 : Int64)) (hb hby d1_216) rfl rfl ?_
          refine Wk.ladd X2 hx (hb hby d1_217) rfl ?_
          refine Wk.lstoreA X2 hx (Ls' := fun z => #[.val (.long q), .second, .val (.long j4), .second, .val (.long (0 : Int64)), .second, .val (.long z), .second, .val (.long j112), .second, .val (.int i114), .val (.int i115), .val (.int i116), .val (.int i139)]) (hb hby d1_218) rfl (fun _ => rfl) ?_
          intro j150 hj150
          show Wp p e below _ _ T2 (mkF m 220 #[.val (.long q), .second, .val (.long j4), .second, .val (.long (0 : Int64)), .second, .val (.long j150), .second, .val (.long j112), .second, .val (.int i114), .val (.int i115), .val (.int i116), .val (.int i139)] [])
          refine Wk.new X2 hx hZ hown (w 54 _ rfl) (w 55 _ rfl) (w 5 _ rfl) e2 (hb hby d1_220) rfl (by decide) (by decide) ?_
          intro T151 h151 a151 g151 X151 e151 E151 A151 D151
          have O152 : Old Z Z.heap.size h151 := O0.ext E151
          have f153 : Fld Z h151 a151 "java/time/LocalDate" "year" "I" (.int (0 : Int32)) := D151 (Or.inr (w 64 _ rfl)) (ty := .int) (by decide)
          have f154 : Fld Z h151 a151 "java/time/LocalDate" "month" "S" (.int (0 : Int32)) := D151 (Or.inr (w 66 _ rfl)) (ty := .short) (by decide)
          have f155 : Fld Z h151 a151 "java/time/LocalDate" "day" "S" (.int (0 : Int32)) := D151 (Or.inr (w 68 _ rfl)) (ty := .short) (by decide)
          refine Wk.dup X151 hx (hb hby d1_223) rfl rfl ?_
          refine Wk.lload X151 hx (hb hby d1_224) rfl rfl ?_
          refine Wk.l2i X151 hx (hb hby d1_226) rfl ?_
          refine Wk.iload X151 hx (hb hby d1_227) rfl rfl ?_
          refine Wk.iload X151 hx (hb hby d1_229) rfl rfl ?_
          refine Wk.callI X151 hx hZ rfl hown (w 56 _ rfl) (w 57 _ rfl) (w 59 _ rfl) (by decide) (as' := [(.int j150.toInt32), (.int i116), (.int i139)]) (backOf (W := 1) (rm_ldi l Z a0 hw [] a151 j150.toInt32 i116 i139 h151 O152 A151 f153 f154 f155 (Nat.le_trans (Nat.le_trans (Nat.le_trans (Nat.le_of_eq O0.1.symm) O0.2.1) (Keep.refl h0 []).1) (Nat.le_of_eq g151))) hZ (w 59 _ rfl) (w 5 _ rfl) (by decide) (by decide)) e151 (by rw [hml]; rfl) (rest := [(.ref a151)]) (lenOf pd8 rfl) rfl (Nat.le_of_eq rfl) (hb hby d1_231) rfl (by decide) (by decide) ?_
          intro T156 h156 v156 L156 X156 e156 hQ156
          obtain ⟨rfl, Nq156, K156, q156_0⟩ := hQ156
          have KK157 : Keep h0 h151 [] := ((Keep.refl h0 []).ext E151)
          have N156 := Fk.app N2 Nq156 KK157.1 (allS (Or.inr (Nat.le_of_eq g151)) all0)
          have O158 : Old Z Z.heap.size h156 := O152.keep K156 (allS (Nat.le_trans (Nat.le_trans (Nat.le_trans (Nat.le_of_eq O0.1.symm) O0.2.1) (Keep.refl h0 []).1) (Nat.le_of_eq g151)) all0)
          show Wp p e below _ _ T156 (mkF m 234 #[.val (.long q), .second, .val (.long j4), .second, .val (.long (0 : Int64)), .second, .val (.long j150), .second, .val (.long j112), .second, .val (.int i114), .val (.int i115), .val (.int i116), .val (.int i139)] [(.ref a151)])
          have KK159 : Keep h0 h156 [] := (KK157.trans K156 (allS (Or.inr (Nat.le_of_eq g151)) all0))
          exact Wk.retA' X156 hx hlk hr rfl rfl (hb hby d1_234) (by decide) (by decide) (Qc := Q_rm_ofe Z q u vr_ h0) e156 ⟨a151, rfl, N156, KK159, (Nat.le_of_eq g151), q156_0⟩
    · skip
      refine Wk.ifYes X2 hx (hb hby d1_108) (by decide) (q := 148) rfl ((if0 _ _).trans (flt hc110).2.1) ?_
      refine Wk.lload X2 hx (hb hby d1_148) rfl rfl ?_
      refine Wk.lload X2 hx (hb hby d1_150) rfl rfl ?_
      refine Wk.ladd X2 hx (hb hby d1_152) rfl ?_
      refine Wk.lstoreA X2 hx (Ls' := fun z => #[.val (.long q), .second, .val (.long j4), .second, .val (.long (0 : Int64)), .second, .val (.long z), .second, .val (.long j109), .second, .unset, .unset, .unset, .unset]) (hb hby d1_153) rfl (fun _ => rfl) ?_
      intro j160 hj160
      show Wp p e below _ _ T2 (mkF m 155 #[.val (.long q), .second, .val (.long j4), .second, .val (.long (0 : Int64)), .second, .val (.long j160), .second, .val (.long j109), .second, .unset, .unset, .unset, .unset] [])
      refine Wk.lload X2 hx (hb hby d1_155) rfl rfl ?_
      refine Wk.l2i X2 hx (hb hby d1_157) rfl ?_
      refine Wk.istoreA X2 hx (Ls' := fun z => #[.val (.long q), .second, .val (.long j4), .second, .val (.long (0 : Int64)), .second, .val (.long j160), .second, .val (.long j109), .second, .val (.int z), .unset, .unset, .unset]) (hb hby d1_158) rfl (fun _ => rfl) ?_
      intro i161 hi161
      show Wp p e below _ _ T2 (mkF m 160 #[.val (.long q), .second, .val (.long j4), .second, .val (.long (0 : Int64)), .second, .val (.long j160), .second, .val (.long j109), .second, .val (.int i161), .unset, .unset, .unset] [])
      refine Wk.iload X2 hx (hb hby d1_160) rfl rfl ?_
      refine Wk.iconst X2 hx (v := (5 : Int32)) (hb hby d1_162) rfl rfl ?_
      refine Wk.imul X2 hx (hb hby d1_163) rfl ?_
      refine Wk.iconst X2 hx (v := (2 : Int32)) (hb hby d1_164) rfl rfl ?_
      refine Wk.iadd X2 hx (hb hby d1_165) rfl ?_
      refine Wk.sipush X2 hx (v := (153 : Int32)) (hb hby d1_166) rfl rfl ?_
      refine Wk.idiv X2 hx (hb hby d1_169) rfl (by decide) ?_
      refine Wk.istoreA X2 hx (Ls' := fun z => #[.val (.long q), .second, .val (.long j4), .second, .val (.long (0 : Int64)), .second, .val (.long j160), .second, .val (.long j109), .second, .val (.int i161), .val (.int z), .unset, .unset]) (hb hby d1_170) rfl (fun _ => rfl) ?_
      intro i162 hi162
      show Wp p e below _ _ T2 (mkF m 172 #[.val (.long q), .second, .val (.long j4), .second, .val (.long (0 : Int64)), .second, .val (.long j160), .second, .val (.long j109), .second, .val (.int i161), .val (.int i162), .unset, .unset] [])
      refine Wk.iload X2 hx (hb hby d1_172) rfl rfl ?_
      refine Wk.iconst X2 hx (v := (3 : Int32)) (hb hby d1_174) rfl rfl ?_
      refine Wk.iadd X2 hx (hb hby d1_175) rfl ?_
      refine Wk.istoreA X2 hx (Ls' := fun z => #[.val (.long q), .second, .val (.long j4), .second, .val (.long (0 : Int64)), .second, .val (.long j160), .second, .val (.long j109), .second, .val (.int i161), .val (.int i162), .val (.int z), .unset]) (hb hby d1_176) rfl (fun _ => rfl) ?_
      intro i163 hi163
      show Wp p e below _ _ T2 (mkF m 178 #[.val (.long q), .second, .val (.long j4), .second, .val (.long (0 : Int64)), .second, .val (.long j160), .second, .val (.long j109), .second, .val (.int i161), .val (.int i162), .val (.int i163), .unset] [])
      refine Wk.iload X2 hx (hb hby d1_178) rfl rfl ?_
      refine Wk.bipush X2 hx (v := (12 : Int32)) (hb hby d1_180) rfl rfl ?_
      by_cases hc164 : (12 : Int32) < i163
      · skip
        refine Wk.icmpNo X2 hx (hb hby d1_182) rfl (tlt hc164).2.2.2 ?_
        refine Wk.iinc X2 hx (Ls' := #[.val (.long q), .second, .val (.long j4), .second, .val (.long (0 : Int64)), .second, .val (.long j160), .second, .val (.long j109), .second, .val (.int i161), .val (.int i162), .val (.int (i163 + (-12 : Int32))), .unset]) (hb hby d1_185) rfl rfl rfl ?_
        refine Wk.iload X2 hx (hb hby d1_188) rfl rfl ?_
        refine Wk.iload X2 hx (hb hby d1_190) rfl rfl ?_
        refine Wk.sipush X2 hx (v := (306 : Int32)) (hb hby d1_192) rfl rfl ?_
        refine Wk.imul X2 hx (hb hby d1_195) rfl ?_
        refine Wk.iconst X2 hx (v := (5 : Int32)) (hb hby d1_196) rfl rfl ?_
        refine Wk.iadd X2 hx (hb hby d1_197) rfl ?_
        refine Wk.bipush X2 hx (v := (10 : Int32)) (hb hby d1_198) rfl rfl ?_
        refine Wk.idiv X2 hx (hb hby d1_200) rfl (by decide) ?_
        refine Wk.isub X2 hx (hb hby d1_201) rfl ?_
        refine Wk.iconst X2 hx (v := (1 : Int32)) (hb hby d1_202) rfl rfl ?_
        refine Wk.iadd X2 hx (hb hby d1_203) rfl ?_
        refine Wk.istoreA X2 hx (Ls' := fun z => #[.val (.long q), .second, .val (.long j4), .second, .val (.long (0 : Int64)), .second, .val (.long j160), .second, .val (.long j109), .second, .val (.int i161), .val (.int i162), .val (.int (i163 + (-12 : Int32))), .val (.int z)]) (hb hby d1_204) rfl (fun _ => rfl) ?_
        intro i165 hi165
        show Wp p e below _ _ T2 (mkF m 206 #[.val (.long q), .second, .val (.long j4), .second, .val (.long (0 : Int64)), .second, .val (.long j160), .second, .val (.long j109), .second, .val (.int i161), .val (.int i162), .val (.int (i163 + (-12 : Int32))), .val (.int i165)] [])
        refine Wk.iload X2 hx (hb hby d1_206) rfl rfl ?_
        refine Wk.sipush X2 hx (v := (306 : Int32)) (hb hby d1_208) rfl rfl ?_
        by_cases hc166 : i161 < (306 : Int32)
        · skip
          refine Wk.icmpYes X2 hx (hb hby d1_211) (by decide) (q := 220) rfl (tlt hc166).1 ?_
          refine Wk.new X2 hx hZ hown (w 54 _ rfl) (w 55 _ rfl) (w 5 _ rfl) e2 (hb hby d1_220) rfl (by decide) (by decide) ?_
          intro T167 h167 a167 g167 X167 e167 E167 A167 D167
          have O168 : Old Z Z.heap.size h167 := O0.ext E167
          have f169 : Fld Z h167 a167 "java/time/LocalDate" "year" "I" (.int (0 : Int32)) := D167 (Or.inr (w 64 _ rfl)) (ty := .int) (by decide)
          have f170 : Fld Z h167 a167 "java/time/LocalDate" "month" "S" (.int (0 : Int32)) := D167 (Or.inr (w 66 _ rfl)) (ty := .short) (by decide)
          have f171 : Fld Z h167 a167 "java/time/LocalDate" "day" "S" (.int (0 : Int32)) := D167 (Or.inr (w 68 _ rfl)) (ty := .short) (by decide)
          refine Wk.dup X167 hx (hb hby d1_223) rfl rfl ?_
          refine Wk.lload X167 hx (hb hby d1_224) rfl rfl ?_
          refine Wk.l2i X167 hx (hb hby d1_226) rfl ?_
          refine Wk.iload X167 hx (hb hby d1_227) rfl rfl ?_
          refine Wk.iload X167 hx (hb hby d1_229) rfl rfl ?_
          refine Wk.callI X167 hx hZ rfl hown (w 56 _ rfl) (w 57 _ rfl) (w 59 _ rfl) (by decide) (as' := [(.int j160.toInt32), (.int (i163 + (-12 : Int32))), (.int i165)]) (backOf (W := 1) (rm_ldi l Z a0 hw [] a167 j160.toInt32 (i163 + (-12 : Int32)) i165 h167 O168 A167 f169 f170 f171 (Nat.le_trans (Nat.le_trans (Nat.le_trans (Nat.le_of_eq O0.1.symm) O0.2.1) (Keep.refl h0 []).1) (Nat.le_of_eq g167))) hZ (w 59 _ rfl) (w 5 _ rfl) (by decide) (by decide)) e167 (by rw [hml]; rfl) (rest := [(.ref a167)]) (lenOf pd8 rfl) rfl (Nat.le_of_eq rfl) (hb hby d1_231) rfl (by decide) (by decide) ?_
          intro T172 h172 v172 L172 X172 e172 hQ172
          obtain ⟨rfl, Nq172, K172, q172_0⟩ := hQ172
          have KK173 : Keep h0 h167 [] := ((Keep.refl h0 []).ext E167)
          have N172 := Fk.app N2 Nq172 KK173.1 (allS (Or.inr (Nat.le_of_eq g167)) all0)
          have O174 : Old Z Z.heap.size h172 := O168.keep K172 (allS (Nat.le_trans (Nat.le_trans (Nat.le_trans (Nat.le_of_eq O0.1.symm) O0.2.1) (Keep.refl h0 []).1) (Nat.le_of_eq g167)) all0)
          show Wp p e below _ _ T172 (mkF m 234 #[.val (.long q), .second, .val (.long j4), .second, .val (.long (0 : Int64)), .second, .val (.long j160), .second, .val (.long j109), .second, .val (.int i161), .val (.int i162), .val (.int (i163 + (-12 : Int32))), .val (.int i165)] [(.ref a167)])
          have KK175 : Keep h0 h172 [] := (KK173.trans K172 (allS (Or.inr (Nat.le_of_eq g167)) all0))
          exact Wk.retA' X172 hx hlk hr rfl rfl (hb hby d1_234) (by decide) (by decide) (Qc := Q_rm_ofe Z q u vr_ h0) e172 ⟨a167, rfl, N172, KK175, (Nat.le_of_eq g167), q172_0⟩
        · skip
          refine Wk.icmpNo X2 hx (hb hby d1_211) rfl (flt hc166).1 ?_
          refine Wk.lload X2 hx (hb hby d1_214) rfl rfl ?_
          refine Wk.lconst X2 hx (v := (1 : Int64)) (hb hby d1_216) rfl rfl ?_
          refine Wk.ladd X2 hx (hb hby d1_217) rfl ?_
          refine Wk.lstoreA X2 hx (Ls' := fun z => #[.val (.long q), .second, .val (.long j4), .second, .val (.long (0 : Int64)), .second, .val (.long z), .second, .val (.long j109), .second, .val (.int i161), .val (.int i162), .val (.int (i163 + (-12 : Int32))), .val (.int i165)]) (hb hby d1_218) rfl (fun _ => rfl) ?_
          intro j176 hj176
          show Wp p e below _ _ T2 (mkF m 220 #[.val (.long q), .second, .val (.long j4), .second, .val (.long (0 : Int64)), .second, .val (.long j176), .second, .val (.long j109), .second, .val (.int i161), .val (.int i162), .val (.int (i163 + (-12 : Int32))), .val (.int i165)] [])
          refine Wk.new X2 hx hZ hown (w 54 _ rfl) (w 55 _ rfl) (w 5 _ rfl) e2 (hb hby d1_220) rfl (by decide) (by decide) ?_
          intro T177 h177 a177 g177 X177 e177 E177 A177 D177
          have O178 : Old Z Z.heap.size h177 := O0.ext E177
          have f179 : Fld Z h177 a177 "java/time/LocalDate" "year" "I" (.int (0 : Int32)) := D177 (Or.inr (w 64 _ rfl)) (ty := .int) (by decide)
          have f180 : Fld Z h177 a177 "java/time/LocalDate" "month" "S" (.int (0 : Int32)) := D177 (Or.inr (w 66 _ rfl)) (ty := .short) (by decide)
          have f181 : Fld Z h177 a177 "java/time/LocalDate" "day" "S" (.int (0 : Int32)) := D177 (Or.inr (w 68 _ rfl)) (ty := .short) (by decide)
          refine Wk.dup X177 hx (hb hby d1_223) rfl rfl ?_
          refine Wk.lload X177 hx (hb hby d1_224) rfl rfl ?_
          refine Wk.l2i X177 hx (hb hby d1_226) rfl ?_
          refine Wk.iload X177 hx (hb hby d1_227) rfl rfl ?_
          refine Wk.iload X177 hx (hb hby d1_229) rfl rfl ?_
          refine Wk.callI X177 hx hZ rfl hown (w 56 _ rfl) (w 57 _ rfl) (w 59 _ rfl) (by decide) (as' := [(.int j176.toInt32), (.int (i163 + (-12 : Int32))), (.int i165)]) (backOf (W := 1) (rm_ldi l Z a0 hw [] a177 j176.toInt32 (i163 + (-12 : Int32)) i165 h177 O178 A177 f179 f180 f181 (Nat.le_trans (Nat.le_trans (Nat.le_trans (Nat.le_of_eq O0.1.symm) O0.2.1) (Keep.refl h0 []).1) (Nat.le_of_eq g177))) hZ (w 59 _ rfl) (w 5 _ rfl) (by decide) (by decide)) e177 (by rw [hml]; rfl) (rest := [(.ref a177)]) (lenOf pd8 rfl) rfl (Nat.le_of_eq rfl) (hb hby d1_231) rfl (by decide) (by decide) ?_
          intro T182 h182 v182 L182 X182 e182 hQ182
          obtain ⟨rfl, Nq182, K182, q182_0⟩ := hQ182
          have KK183 : Keep h0 h177 [] := ((Keep.refl h0 []).ext E177)
          have N182 := Fk.app N2 Nq182 KK183.1 (allS (Or.inr (Nat.le_of_eq g177)) all0)
          have O184 : Old Z Z.heap.size h182 := O178.keep K182 (allS (Nat.le_trans (Nat.le_trans (Nat.le_trans (Nat.le_of_eq O0.1.symm) O0.2.1) (Keep.refl h0 []).1) (Nat.le_of_eq g177)) all0)
          show Wp p e below _ _ T182 (mkF m 234 #[.val (.long q), .second, .val (.long j4), .second, .val (.long (0 : Int64)), .second, .val (.long j176), .second, .val (.long j109), .second, .val (.int i161), .val (.int i162), .val (.int (i163 + (-12 : Int32))), .val (.int i165)] [(.ref a177)])
          have KK185 : Keep h0 h182 [] := (KK183.trans K182 (allS (Or.inr (Nat.le_of_eq g177)) all0))
          exact Wk.retA' X182 hx hlk hr rfl rfl (hb hby d1_234) (by decide) (by decide) (Qc := Q_rm_ofe Z q u vr_ h0) e182 ⟨a177, rfl, N182, KK185, (Nat.le_of_eq g177), q182_0⟩
      · skip
        refine Wk.icmpYes X2 hx (hb hby d1_182) (by decide) (q := 188) rfl (flt hc164).2.2.2 ?_
        refine Wk.iload X2 hx (hb hby d1_188) rfl rfl ?_
        refine Wk.iload X2 hx (hb hby d1_190) rfl rfl ?_
        refine Wk.sipush X2 hx (v := (306 : Int32)) (hb hby d1_192) rfl rfl ?_
        refine Wk.imul X2 hx (hb hby d1_195) rfl ?_
        refine Wk.iconst X2 hx (v := (5 : Int32)) (hb hby d1_196) rfl rfl ?_
        refine Wk.iadd X2 hx (hb hby d1_197) rfl ?_
        refine Wk.bipush X2 hx (v := (10 : Int32)) (hb hby d1_198) rfl rfl ?_
        refine Wk.idiv X2 hx (hb hby d1_200) rfl (by decide) ?_
        refine Wk.isub X2 hx (hb hby d1_201) rfl ?_
        refine Wk.iconst X2 hx (v := (1 : Int32)) (hb hby d1_202) rfl rfl ?_
        refine Wk.iadd X2 hx (hb hby d1_203) rfl ?_
        refine Wk.istoreA X2 hx (Ls' := fun z => #[.val (.long q), .second, .val (.long j4), .second, .val (.long (0 : Int64)), .second, .val (.long j160), .second, .val (.long j109), .second, .val (.int i161), .val (.int i162), .val (.int i163), .val (.int z)]) (hb hby d1_204) rfl (fun _ => rfl) ?_
        intro i186 hi186
        show Wp p e below _ _ T2 (mkF m 206 #[.val (.long q), .second, .val (.long j4), .second, .val (.long (0 : Int64)), .second, .val (.long j160), .second, .val (.long j109), .second, .val (.int i161), .val (.int i162), .val (.int i163), .val (.int i186)] [])
        refine Wk.iload X2 hx (hb hby d1_206) rfl rfl ?_
        refine Wk.sipush X2 hx (v := (306 : Int32)) (hb hby d1_208) rfl rfl ?_
        by_cases hc187 : i161 < (306 : Int32)
        · skip
          refine Wk.icmpYes X2 hx (hb hby d1_211) (by decide) (q := 220) rfl (tlt hc187).1 ?_
          refine Wk.new X2 hx hZ hown (w 54 _ rfl) (w 55 _ rfl) (w 5 _ rfl) e2 (hb hby d1_220) rfl (by decide) (by decide) ?_
          intro T188 h188 a188 g188 X188 e188 E188 A188 D188
          have O189 : Old Z Z.heap.size h188 := O0.ext E188
          have f190 : Fld Z h188 a188 "java/time/LocalDate" "year" "I" (.int (0 : Int32)) := D188 (Or.inr (w 64 _ rfl)) (ty := .int) (by decide)
          have f191 : Fld Z h188 a188 "java/time/LocalDate" "month" "S" (.int (0 : Int32)) := D188 (Or.inr (w 66 _ rfl)) (ty := .short) (by decide)
          have f192 : Fld Z h188 a188 "java/time/LocalDate" "day" "S" (.int (0 : Int32)) := D188 (Or.inr (w 68 _ rfl)) (ty := .short) (by decide)
          refine Wk.dup X188 hx (hb hby d1_223) rfl rfl ?_
          refine Wk.lload X188 hx (hb hby d1_224) rfl rfl ?_
          refine Wk.l2i X188 hx (hb hby d1_226) rfl ?_
          refine Wk.iload X188 hx (hb hby d1_227) rfl rfl ?_
          refine Wk.iload X188 hx (hb hby d1_229) rfl rfl ?_
          refine Wk.callI X188 hx hZ rfl hown (w 56 _ rfl) (w 57 _ rfl) (w 59 _ rfl) (by decide) (as' := [(.int j160.toInt32), (.int i163), (.int i186)]) (backOf (W := 1) (rm_ldi l Z a0 hw [] a188 j160.toInt32 i163 i186 h188 O189 A188 f190 f191 f192 (Nat.le_trans (Nat.le_trans (Nat.le_trans (Nat.le_of_eq O0.1.symm) O0.2.1) (Keep.refl h0 []).1) (Nat.le_of_eq g188))) hZ (w 59 _ rfl) (w 5 _ rfl) (by decide) (by decide)) e188 (by rw [hml]; rfl) (rest := [(.ref a188)]) (lenOf pd8 rfl) rfl (Nat.le_of_eq rfl) (hb hby d1_231) rfl (by decide) (by decide) ?_
          intro T193 h193 v193 L193 X193 e193 hQ193
          obtain ⟨rfl, Nq193, K193, q193_0⟩ := hQ193
          have KK194 : Keep h0 h188 [] := ((Keep.refl h0 []).ext E188)
          have N193 := Fk.app N2 Nq193 KK194.1 (allS (Or.inr (Nat.le_of_eq g188)) all0)
          have O195 : Old Z Z.heap.size h193 := O189.keep K193 (allS (Nat.le_trans (Nat.le_trans (Nat.le_trans (Nat.le_of_eq O0.1.symm) O0.2.1) (Keep.refl h0 []).1) (Nat.le_of_eq g188)) all0)
          show Wp p e below _ _ T193 (mkF m 234 #[.val (.long q), .second, .val (.long j4), .second, .val (.long (0 : Int64)), .second, .val (.long j160), .second, .val (.long j109), .second, .val (.int i161), .val (.int i162), .val (.int i163), .val (.int i186)] [(.ref a188)])
          have KK196 : Keep h0 h193 [] := (KK194.trans K193 (allS (Or.inr (Nat.le_of_eq g188)) all0))
          exact Wk.retA' X193 hx hlk hr rfl rfl (hb hby d1_234) (by decide) (by decide) (Qc := Q_rm_ofe Z q u vr_ h0) e193 ⟨a188, rfl, N193, KK196, (Nat.le_of_eq g188), q193_0⟩
        · skip
          refine Wk.icmpNo X2 hx (hb hby d1_211) rfl (flt hc187).1 ?_
          refine Wk.lload X2 hx (hb hby d1_214) rfl rfl ?_
          refine Wk.lconst X2 hx (v := (1 : Int64)) (hb hby d1_216) rfl rfl ?_
          refine Wk.ladd X2 hx (hb hby d1_217) rfl ?_
          refine Wk.lstoreA X2 hx (Ls' := fun z => #[.val (.long q), .second, .val (.long j4), .second, .val (.long (0 : Int64)), .second, .val (.long z), .second, .val (.long j109), .second, .val (.int i161), .val (.int i162), .val (.int i163), .val (.int i186)]) (hb hby d1_218) rfl (fun _ => rfl) ?_
          intro j197 hj197
          show Wp p e below _ _ T2 (mkF m 220 #[.val (.long q), .second, .val (.long j4), .second, .val (.long (0 : Int64)), .second, .val (.long j197), .second, .val (.long j109), .second, .val (.int i161), .val (.int i162), .val (.int i163), .val (.int i186)] [])
          refine Wk.new X2 hx hZ hown (w 54 _ rfl) (w 55 _ rfl) (w 5 _ rfl) e2 (hb hby d1_220) rfl (by decide) (by decide) ?_
          intro T198 h198 a198 g198 X198 e198 E198 A198 D198
          have O199 : Old Z Z.heap.size h198 := O0.ext E198
          have f200 : Fld Z h198 a198 "java/time/LocalDate" "year" "I" (.int (0 : Int32)) := D198 (Or.inr (w 64 _ rfl)) (ty := .int) (by decide)
          have f201 : Fld Z h198 a198 "java/time/LocalDate" "month" "S" (.int (0 : Int32)) := D198 (Or.inr (w 66 _ rfl)) (ty := .short) (by decide)
          have f202 : Fld Z h198 a198 "java/time/LocalDate" "day" "S" (.int (0 : Int32)) := D198 (Or.inr (w 68 _ rfl)) (ty := .short) (by decide)
          refine Wk.dup X198 hx (hb hby d1_223) rfl rfl ?_
          refine Wk.lload X198 hx (hb hby d1_224) rfl rfl ?_
          refine Wk.l2i X198 hx (hb hby d1_226) rfl ?_
          refine Wk.iload X198 hx (hb hby d1_227) rfl rfl ?_
          refine Wk.iload X198 hx (hb hby d1_229) rfl rfl ?_
          refine Wk.callI X198 hx hZ rfl hown (w 56 _ rfl) (w 57 _ rfl) (w 59 _ rfl) (by decide) (as' := [(.int j197.toInt32), (.int i163), (.int i186)]) (backOf (W := 1) (rm_ldi l Z a0 hw [] a198 j197.toInt32 i163 i186 h198 O199 A198 f200 f201 f202 (Nat.le_trans (Nat.le_trans (Nat.le_trans (Nat.le_of_eq O0.1.symm) O0.2.1) (Keep.refl h0 []).1) (Nat.le_of_eq g198))) hZ (w 59 _ rfl) (w 5 _ rfl) (by decide) (by decide)) e198 (by rw [hml]; rfl) (rest := [(.ref a198)]) (lenOf pd8 rfl) rfl (Nat.le_of_eq rfl) (hb hby d1_231) rfl (by decide) (by decide) ?_
          intro T203 h203 v203 L203 X203 e203 hQ203
          obtain ⟨rfl, Nq203, K203, q203_0⟩ := hQ203
          have KK204 : Keep h0 h198 [] := ((Keep.refl h0 []).ext E198)
          have N203 := Fk.app N2 Nq203 KK204.1 (allS (Or.inr (Nat.le_of_eq g198)) all0)
          have O205 : Old Z Z.heap.size h203 := O199.keep K203 (allS (Nat.le_trans (Nat.le_trans (Nat.le_trans (Nat.le_of_eq O0.1.symm) O0.2.1) (Keep.refl h0 []).1) (Nat.le_of_eq g198)) all0)
          show Wp p e below _ _ T203 (mkF m 234 #[.val (.long q), .second, .val (.long j4), .second, .val (.long (0 : Int64)), .second, .val (.long j197), .second, .val (.long j109), .second, .val (.int i161), .val (.int i162), .val (.int i163), .val (.int i186)] [(.ref a198)])
          have KK206 : Keep h0 h203 [] := (KK204.trans K203 (allS (Or.inr (Nat.le_of_eq g198)) all0))
          exact Wk.retA' X203 hx hlk hr rfl rfl (hb hby d1_234) (by decide) (by decide) (Qc := Q_rm_ofe Z q u vr_ h0) e203 ⟨a198, rfl, N203, KK206, (Nat.le_of_eq g198), q203_0⟩
theorem pn9 : plainFor (⟨"java/lang/Math", "min", "(II)I"⟩ : MethodName) = true := Jvm.Free.JP.mathPlain rfl (by decide +kernel)
theorem d10_0 : decode jdk_29_method_69_code 0 = .ok (.iload_n 0, 1) := by decide +kernel
theorem d10_1 : decode jdk_29_method_69_code 1 = .ok (.iload_n 1, 1) := by decide +kernel
theorem d10_2 : decode jdk_29_method_69_code 2 = .ok (.if_icmp .gt 7, 3) := by decide +kernel
theorem d10_9 : decode jdk_29_method_69_code 9 = .ok (.iload_n 1, 1) := by decide +kernel
theorem d10_10 : decode jdk_29_method_69_code 10 = .ok (.ireturn, 1) := by decide +kernel
theorem d10_5 : decode jdk_29_method_69_code 5 = .ok (.iload_n 0, 1) := by decide +kernel
theorem d10_6 : decode jdk_29_method_69_code 6 = .ok (.goto 4, 3) := by decide +kernel
def Q_rm_mmin (Z : State) (y : Int32) (z : Int32) (h0 : Heap) (v : Option Value) (h : Heap) (L : List Loc) : Prop := ∃ r : Int32, v = some (.int r) ∧ Fk h0.size [] L ∧ h = h0 ∧ r = (if z < y then z else y)
set_option maxRecDepth 65536 in
set_option maxHeartbeats 40000000 in
theorem rm_mmin (l : Launch) (Z : State) (a0 : Array Value) (hw : ∀ d ∈ tables_1, d.before a0 Z = true) (ws : List Jvm.Cond) (y : Int32) (z : Int32) (h0 : Heap) (O0 : Old Z Z.heap.size h0) :
    Ctr l Z (⟨"java/lang/Math", "min", "(II)I"⟩ : MethodName) jdk_29_method_69_code 2 (some .int) ws ({ frames := 0, cells := 0, slots := 0, locals := 0 } : Room) #[(.int y), (.int z)] h0 (Q_rm_mmin Z y z h0) := by
  refine Ctr.intro (Ls := fun _ => #[.val (.int y), .val (.int z)]) pn9 (fun m => by first | rfl | (simp [entryFrame, mkF, argsToLocals, Value.category]; done)) ?_
  intro p e s m below meth c s₁ hx hby hml hr hlk hZ hown hnm hs0 X0 e0
  have w : ∀ (k : Nat) (d : Jvm.Cond), tables_1[k]? = some d → d.before a0 Z = true := fun k d q => hw d (List.mem_of_getElem? q)
  have N0 := Fk.nil h0.size []
  refine Wk.iloadN X0 hx (hb hby d10_0) rfl rfl ?_
  refine Wk.iloadN X0 hx (hb hby d10_1) rfl rfl ?_
  by_cases hc1 : z < y
  · skip
    refine Wk.icmpYes X0 hx (hb hby d10_2) (by decide) (q := 9) rfl (tlt hc1).2.2.1 ?_
    refine Wk.iloadN X0 hx (hb hby d10_9) rfl rfl ?_
    exact Wk.retI' X0 hx hlk hr (hb hby d10_10) (by decide) (by decide) (Qc := Q_rm_mmin Z y z h0) e0 ⟨z, rfl, N0, rfl, (by simp [hc1])⟩
  · skip
    refine Wk.icmpNo X0 hx (hb hby d10_2) rfl (flt hc1).2.2.1 ?_
    refine Wk.iloadN X0 hx (hb hby d10_5) rfl rfl ?_
    refine Wk.goto X0 hx (hb hby d10_6) (by decide) (q := 10) rfl ?_
    exact Wk.retI' X0 hx hlk hr (hb hby d10_10) (by decide) (by decide) (Qc := Q_rm_mmin Z y z h0) e0 ⟨y, rfl, N0, rfl, (by simp [hc1])⟩
theorem pn10 : plainName "java/util/AbstractCollection" = true := by first | (simp [plainName, overriddenIn]; done) | decide +kernel
theorem d14_0 : decode jdk_22_method_1_code 0 = .ok (.aload_n 0, 1) := by decide +kernel
theorem d14_1 : decode jdk_22_method_1_code 1 = .ok (.invokespecial 1, 3) := by decide +kernel
theorem d14_4 : decode jdk_22_method_1_code 4 = .ok (.return_, 1) := by decide +kernel
def Q_rm_aci (Z : State) (a : Addr) (h0 : Heap) (v : Option Value) (h : Heap) (L : List Loc) : Prop := v = none ∧ Fk h0.size [] L ∧ h = h0
set_option maxRecDepth 65536 in
set_option maxHeartbeats 40000000 in
theorem rm_aci (l : Launch) (Z : State) (a0 : Array Value) (hw : ∀ d ∈ tables_1, d.before a0 Z = true) (ws : List Jvm.Cond) (a : Addr) (h0 : Heap) (O0 : Old Z Z.heap.size h0) :
    Ctr l Z (⟨"java/util/AbstractCollection", "<init>", "()V"⟩ : MethodName) jdk_22_method_1_code 1 none ws ({ frames := 1, cells := 0, slots := 0, locals := 12 } : Room) #[(.ref a)] h0 (Q_rm_aci Z a h0) := by
  refine Ctr.intro (Ls := fun _ => #[.val (.ref a)]) (plainFor_of_name pn10) (fun m => by first | rfl | (simp [entryFrame, mkF, argsToLocals, Value.category]; done)) ?_
  intro p e s m below meth c s₁ hx hby hml hr hlk hZ hown hnm hs0 X0 e0
  have w : ∀ (k : Nat) (d : Jvm.Cond), tables_1[k]? = some d → d.before a0 Z = true := fun k d q => hw d (List.mem_of_getElem? q)
  have N0 := Fk.nil h0.size []
  refine Wk.aloadN X0 hx (hb hby d14_0) rfl rfl rfl ?_
  refine Wk.objinit X0 hx hZ hown (w 98 _ rfl) (w 61 _ rfl) (w 62 _ rfl) e0 (by rw [hml]; rfl) (hb hby d14_1) rfl (by decide) 0 (Nat.le_of_eq rfl) (by decide) ?_
  intro T1 X1 e1
  exact Wk.ret0' X1 hx hlk hr (hb hby d14_4) (by decide) (by decide) (Qc := Q_rm_aci Z a h0) e1 ⟨rfl, N0, rfl⟩
theorem pn11 : plainName "java/util/AbstractList" = true := by first | (simp [plainName, overriddenIn]; done) | decide +kernel
theorem d13_0 : decode jdk_39_method_1_code 0 = .ok (.aload_n 0, 1) := by decide +kernel
theorem d13_1 : decode jdk_39_method_1_code 1 = .ok (.invokespecial 1, 3) := by decide +kernel
theorem pd12 : parseMethodDescriptor "()V" = some ⟨[], none⟩ := by decide +kernel
theorem d13_4 : decode jdk_39_method_1_code 4 = .ok (.aload_n 0, 1) := by decide +kernel
theorem d13_5 : decode jdk_39_method_1_code 5 = .ok (.iconst 0, 1) := by decide +kernel
theorem d13_6 : decode jdk_39_method_1_code 6 = .ok (.putfield 7, 3) := by decide +kernel
theorem d13_9 : decode jdk_39_method_1_code 9 = .ok (.return_, 1) := by decide +kernel
def Q_rm_abl (Z : State) (a : Addr) (h0 : Heap) (v : Option Value) (h : Heap) (L : List Loc) : Prop := v = none ∧ Fk h0.size [a] L ∧ Keep h0 h [a] ∧ Exa Z h a "java/util/ArrayList" ∧ Fld Z h a "java/util/ArrayList" "elementData" "[Ljava/lang/Object;" .null
set_option maxRecDepth 65536 in
set_option maxHeartbeats 40000000 in
theorem rm_abl (l : Launch) (Z : State) (a0 : Array Value) (hw : ∀ d ∈ tables_1, d.before a0 Z = true) (ws : List Jvm.Cond) (a : Addr) (h0 : Heap) (O0 : Old Z Z.heap.size h0) (hE : Exa Z h0 a "java/util/ArrayList") (hm : Fld Z h0 a "java/util/AbstractList" "modCount" "I" (.int (0 : Int32))) (he : Fld Z h0 a "java/util/ArrayList" "elementData" "[Ljava/lang/Object;" .null) (ha : Z.heap.size ≤ a) :
    Ctr l Z (⟨"java/util/AbstractList", "<init>", "()V"⟩ : MethodName) jdk_39_method_1_code 1 none ws ({ frames := 2, cells := 0, slots := 0, locals := 24 } : Room) #[(.ref a)] h0 (Q_rm_abl Z a h0) := by
  refine Ctr.intro (Ls := fun _ => #[.val (.ref a)]) (plainFor_of_name pn11) (fun m => by first | rfl | (simp [entryFrame, mkF, argsToLocals, Value.category]; done)) ?_
  intro p e s m below meth c s₁ hx hby hml hr hlk hZ hown hnm hs0 X0 e0
  have w : ∀ (k : Nat) (d : Jvm.Cond), tables_1[k]? = some d → d.before a0 Z = true := fun k d q => hw d (List.mem_of_getElem? q)
  have N0 := Fk.nil h0.size [a]
  refine Wk.aloadN X0 hx (hb hby d13_0) rfl rfl rfl ?_
  refine Wk.callI X0 hx hZ rfl hown (w 92 _ rfl) (w 93 _ rfl) (w 97 _ rfl) (by decide) (as' := []) (backOf (W := 0) (rm_aci l Z a0 hw [] a h0 O0) hZ (w 97 _ rfl) (w 96 _ rfl) (by decide) (by decide)) e0 (by rw [hml]; rfl) (rest := []) (lenOf pd12 rfl) rfl (Nat.le_of_eq rfl) (hb hby d13_1) rfl (by decide) (by decide) ?_
  intro T1 h1 v1 L1 X1 e1 hQ1
  obtain ⟨rfl, Nq1, K1⟩ := hQ1
  have N1 := Fk.app N0 Nq1 (Nat.le_refl _) all0
  rw [K1] at e1
  show Wp p e below _ _ T1 (mkF m 4 #[.val (.ref a)] [])
  refine Wk.aloadN X1 hx (hb hby d13_4) rfl rfl rfl ?_
  refine Wk.iconst X1 hx (v := (0 : Int32)) (hb hby d13_5) rfl rfl ?_
  refine Wk.putfield X1 hx hZ hown (host := "") (Or.inl (w 99 _ rfl)) Via.refl e1 hm hE (Or.inl (w 100 _ rfl)) (w 81 _ rfl) (ty := .int) (by decide) rfl rfl (hb hby d13_6) rfl ?_
  intro T2 h2 L2 M2 X2 e2 W2 Fw2
  have N2 := M2 _ _ N1 (Or.inl (List.mem_of_getElem? (i := 0) rfl))
  have O3 : Old Z Z.heap.size h2 := O0.wr W2 ha
  have f4 : Fld Z h2 a "java/util/ArrayList" "elementData" "[Ljava/lang/Object;" .null := he.other W2 (Or.inr (slot_ne (Or.inl (w 103 _ rfl)) (Or.inl (w 100 _ rfl)) (by decide) (t := (.array (.object "java/lang/Object"))) (t' := .int) (by decide) (by decide)))
  have E2' : Exa Z h2 a "java/util/ArrayList" := hE.wr W2
  have KK5 : Keep h0 h2 [a] := ((Keep.refl h0 [a]).wr W2 (Or.inl (List.mem_of_getElem? (i := 0) rfl)))
  exact Wk.ret0' X2 hx hlk hr (hb hby d13_9) (by decide) (by decide) (Qc := Q_rm_abl Z a h0) e2 ⟨rfl, N2, KK5, E2', f4⟩
theorem pn13 : plainName "java/util/ArrayList" = true := by first | (simp [plainName, overriddenIn]; done) | decide +kernel
theorem d12_0 : decode jdk_38_method_2_code 0 = .ok (.aload_n 0, 1) := by decide +kernel
theorem d12_1 : decode jdk_38_method_2_code 1 = .ok (.invokespecial 1, 3) := by decide +kernel
theorem d12_4 : decode jdk_38_method_2_code 4 = .ok (.aload_n 0, 1) := by decide +kernel
theorem d12_5 : decode jdk_38_method_2_code 5 = .ok (.getstatic 39, 3) := by decide +kernel
theorem d12_8 : decode jdk_38_method_2_code 8 = .ok (.putfield 9, 3) := by decide +kernel
theorem d12_11 : decode jdk_38_method_2_code 11 = .ok (.return_, 1) := by decide +kernel
def Q_rm_ali (Z : State) (a : Addr) (ed : Addr) (h0 : Heap) (v : Option Value) (h : Heap) (L : List Loc) : Prop := v = none ∧ Fk h0.size [a] L ∧ Keep h0 h [a] ∧ Exa Z h a "java/util/ArrayList"
set_option maxRecDepth 65536 in
set_option maxHeartbeats 40000000 in
theorem rm_ali (l : Launch) (Z : State) (a0 : Array Value) (hw : ∀ d ∈ tables_1, d.before a0 Z = true) (ws : List Jvm.Cond) (a : Addr) (ed : Addr) (h0 : Heap) (O0 : Old Z Z.heap.size h0) (hE : Exa Z h0 a "java/util/ArrayList") (hm : Fld Z h0 a "java/util/AbstractList" "modCount" "I" (.int (0 : Int32))) (he : Fld Z h0 a "java/util/ArrayList" "elementData" "[Ljava/lang/Object;" .null) (ha : Z.heap.size ≤ a) (sD : Sta Z Z.heap "java/util/ArrayList" "DEFAULTCAPACITY_EMPTY_ELEMENTDATA" "[Ljava/lang/Object;" (.ref ed)) :
    Ctr l Z (⟨"java/util/ArrayList", "<init>", "()V"⟩ : MethodName) jdk_38_method_2_code 1 none ws ({ frames := 3, cells := 0, slots := 0, locals := 36 } : Room) #[(.ref a)] h0 (Q_rm_ali Z a ed h0) := by
  refine Ctr.intro (Ls := fun _ => #[.val (.ref a)]) (plainFor_of_name pn13) (fun m => by first | rfl | (simp [entryFrame, mkF, argsToLocals, Value.category]; done)) ?_
  intro p e s m below meth c s₁ hx hby hml hr hlk hZ hown hnm hs0 X0 e0
  have w : ∀ (k : Nat) (d : Jvm.Cond), tables_1[k]? = some d → d.before a0 Z = true := fun k d q => hw d (List.mem_of_getElem? q)
  have N0 := Fk.nil h0.size [a]
  refine Wk.aloadN X0 hx (hb hby d12_0) rfl rfl rfl ?_
  refine Wk.callI X0 hx hZ rfl hown (w 86 _ rfl) (w 87 _ rfl) (w 91 _ rfl) (by decide) (as' := []) (backOf (W := 0) (rm_abl l Z a0 hw [] a h0 O0 hE hm he ha) hZ (w 91 _ rfl) (w 90 _ rfl) (by decide) (by decide)) e0 (by rw [hml]; rfl) (rest := []) (lenOf pd12 rfl) rfl (Nat.le_of_eq rfl) (hb hby d12_1) rfl (by decide) (by decide) ?_
  intro T1 h1 v1 L1 X1 e1 hQ1
  obtain ⟨rfl, Nq1, K1, q1_0, q1_1⟩ := hQ1
  have N1 := Fk.app N0 Nq1 (Nat.le_refl _) (allS (Or.inl (List.mem_of_getElem? (i := 0) rfl)) all0)
  have O2 : Old Z Z.heap.size h1 := O0.keep K1 (allS ha all0)
  show Wp p e below _ _ T1 (mkF m 4 #[.val (.ref a)] [])
  refine Wk.aloadN X1 hx (hb hby d12_4) rfl rfl rfl ?_
  refine Wk.getstatic X1 hx hZ hown (host := "") (Or.inl (w 101 _ rfl)) Via.refl e1 (sD.ext O2.2) (hb hby d12_5) rfl ?_
  intro T3 X3 e3
  refine Wk.putfield X3 hx hZ hown (host := "") (Or.inl (w 102 _ rfl)) Via.refl e3 q1_1 q1_0 (Or.inl (w 103 _ rfl)) (w 81 _ rfl) (ty := (.array (.object "java/lang/Object"))) (by decide) rfl rfl (hb hby d12_8) rfl ?_
  intro T4 h4 L4 M4 X4 e4 W4 Fw4
  have N4 := M4 _ _ N1 (Or.inl (List.mem_of_getElem? (i := 0) rfl))
  have O5 : Old Z Z.heap.size h4 := O2.wr W4 ha
  have E4' : Exa Z h4 a "java/util/ArrayList" := q1_0.wr W4
  have KK6 : Keep h0 h4 [a] := (((Keep.refl h0 [a]).trans K1 (allS (Or.inl (List.mem_of_getElem? (i := 0) rfl)) all0)).wr W4 (Or.inl (List.mem_of_getElem? (i := 0) rfl)))
  exact Wk.ret0' X4 hx hlk hr (hb hby d12_11) (by decide) (by decide) (Qc := Q_rm_ali Z a ed h0) e4 ⟨rfl, N4, KK6, E4'⟩
theorem pn14 : plainName "java/util/ArrayDeque" = true := by first | (simp [plainName, overriddenIn]; done) | decide +kernel
theorem d15_0 : decode jdk_21_method_3_code 0 = .ok (.aload_n 0, 1) := by decide +kernel
theorem d15_1 : decode jdk_21_method_3_code 1 = .ok (.invokespecial 42, 3) := by decide +kernel
theorem d15_4 : decode jdk_21_method_3_code 4 = .ok (.aload_n 0, 1) := by decide +kernel
theorem d15_5 : decode jdk_21_method_3_code 5 = .ok (.bipush 17, 2) := by decide +kernel
theorem d15_7 : decode jdk_21_method_3_code 7 = .ok (.anewarray 47, 3) := by decide +kernel
theorem d15_10 : decode jdk_21_method_3_code 10 = .ok (.putfield 3, 3) := by decide +kernel
theorem d15_13 : decode jdk_21_method_3_code 13 = .ok (.return_, 1) := by decide +kernel
def Q_rm_adi (Z : State) (d : Addr) (h0 : Heap) (v : Option Value) (h : Heap) (L : List Loc) : Prop := ∃ el : Addr, ∃ kE : ClassId, v = none ∧ Fk h0.size [d] L ∧ Keep h0 h [d] ∧ h0.size ≤ el ∧ Ovr Z kE "java/lang/Object" ∧ Exa Z h d "java/util/ArrayDeque" ∧ Fld Z h d "java/util/ArrayDeque" "elements" "[Ljava/lang/Object;" (.ref el) ∧ Fld Z h d "java/util/ArrayDeque" "head" "I" (.int (0 : Int32)) ∧ Fld Z h d "java/util/ArrayDeque" "tail" "I" (.int (0 : Int32)) ∧ Arv Z h el kE (.object "java/lang/Object") (17 : Int32) [.null, .null, .null, .null, .null, .null, .null, .null, .null, .null, .null, .null, .null, .null, .null, .null, .null] .null
set_option maxRecDepth 65536 in
set_option maxHeartbeats 40000000 in
theorem rm_adi (l : Launch) (Z : State) (a0 : Array Value) (hw : ∀ d ∈ tables_1, d.before a0 Z = true) (ws : List Jvm.Cond) (d : Addr) (h0 : Heap) (O0 : Old Z Z.heap.size h0) (hE : Exa Z h0 d "java/util/ArrayDeque") (pg1 : Fld Z h0 d "java/util/ArrayDeque" "elements" "[Ljava/lang/Object;" .null) (pg2 : Fld Z h0 d "java/util/ArrayDeque" "head" "I" (.int (0 : Int32))) (pg3 : Fld Z h0 d "java/util/ArrayDeque" "tail" "I" (.int (0 : Int32))) (hd_ : Z.heap.size ≤ d) :
    Ctr l Z (⟨"java/util/ArrayDeque", "<init>", "()V"⟩ : MethodName) jdk_21_method_3_code 1 none ws ({ frames := 2, cells := 1, slots := 17, locals := 24 } : Room) #[(.ref d)] h0 (Q_rm_adi Z d h0) := by
  refine Ctr.intro (Ls := fun _ => #[.val (.ref d)]) (plainFor_of_name pn14) (fun m => by first | rfl | (simp [entryFrame, mkF, argsToLocals, Value.category]; done)) ?_
  intro p e s m below meth c s₁ hx hby hml hr hlk hZ hown hnm hs0 X0 e0
  have w : ∀ (k : Nat) (d : Jvm.Cond), tables_1[k]? = some d → d.before a0 Z = true := fun k d q => hw d (List.mem_of_getElem? q)
  have N0 := Fk.nil h0.size [d]
  refine Wk.aloadN X0 hx (hb hby d15_0) rfl rfl rfl ?_
  refine Wk.callI X0 hx hZ rfl hown (w 112 _ rfl) (w 93 _ rfl) (w 97 _ rfl) (by decide) (as' := []) (backOf (W := 0) (rm_aci l Z a0 hw [] d h0 O0) hZ (w 97 _ rfl) (w 96 _ rfl) (by decide) (by decide)) e0 (by rw [hml]; rfl) (rest := []) (lenOf pd12 rfl) rfl (Nat.le_of_eq rfl) (hb hby d15_1) rfl (by decide) (by decide) ?_
  intro T1 h1 v1 L1 X1 e1 hQ1
  obtain ⟨rfl, Nq1, K1⟩ := hQ1
  have N1 := Fk.app N0 Nq1 (Nat.le_refl _) all0
  rw [K1] at e1
  show Wp p e below _ _ T1 (mkF m 4 #[.val (.ref d)] [])
  refine Wk.aloadN X1 hx (hb hby d15_4) rfl rfl rfl ?_
  refine Wk.bipush X1 hx (v := (17 : Int32)) (hb hby d15_5) rfl rfl ?_
  refine Wk.anewarray X1 hx hZ hown (w 114 _ rfl) (w 115 _ rfl) e1 (hb hby d15_7) rfl (by decide) 17 (by decide) (by decide) (by decide) (by decide) ?_
  intro T2 h2 a2 kA2 g2 X2 e2 E2 A2 Ov2
  have O3 : Old Z Z.heap.size h2 := O0.ext E2
  have V2 : Arv Z h2 a2 kA2 (.object "java/lang/Object") (17 : Int32) [.null, .null, .null, .null, .null, .null, .null, .null, .null, .null, .null, .null, .null, .null, .null, .null, .null] .null := A2.pad (pad_rep [] .null 17)
  have KK4 : Keep h0 h2 [] := ((Keep.refl h0 []).ext E2)
  have f5 : Exa Z h2 d "java/util/ArrayDeque" := (hE.keep KK4)
  have f6 : Fld Z h2 d "java/util/ArrayDeque" "elements" "[Ljava/lang/Object;" .null := (pg1.keep KK4 nin0)
  have f8 : Fld Z h2 d "java/util/ArrayDeque" "head" "I" (.int (0 : Int32)) := (pg2.keep KK4 nin0)
  have f9 : Fld Z h2 d "java/util/ArrayDeque" "tail" "I" (.int (0 : Int32)) := (pg3.keep KK4 nin0)
  refine Wk.putfield X2 hx hZ hown (host := "") (Or.inl (w 116 _ rfl)) Via.refl e2 f6 f5 (Or.inl (w 117 _ rfl)) (w 107 _ rfl) (ty := (.array (.object "java/lang/Object"))) (by decide) rfl rfl (hb hby d15_10) rfl ?_
  intro T7 h7 L7 M7 X7 e7 W7 Fw7
  have N7 := M7 _ _ N1 (Or.inl (List.mem_of_getElem? (i := 0) rfl))
  have O10 : Old Z Z.heap.size h7 := O3.wr W7 hd_
  have f11 : Fld Z h7 d "java/util/ArrayDeque" "head" "I" (.int (0 : Int32)) := f8.other W7 (Or.inr (slot_ne (Or.inl (w 136 _ rfl)) (Or.inl (w 117 _ rfl)) (by decide) (t := .int) (t' := (.array (.object "java/lang/Object"))) (by decide) (by decide)))
  have f12 : Fld Z h7 d "java/util/ArrayDeque" "tail" "I" (.int (0 : Int32)) := f9.other W7 (Or.inr (slot_ne (Or.inl (w 167 _ rfl)) (Or.inl (w 117 _ rfl)) (by decide) (t := .int) (t' := (.array (.object "java/lang/Object"))) (by decide) (by decide)))
  have E7' : Exa Z h7 d "java/util/ArrayDeque" := f5.wr W7
  have KK13 : Keep h0 h7 [d] := (((Keep.refl h0 [d]).ext E2).wr W7 (Or.inl (List.mem_of_getElem? (i := 0) rfl)))
  have KK14 : Keep h2 h7 [d] := ((Keep.refl h2 [d]).wr W7 (Or.inl (List.mem_of_getElem? (i := 0) rfl)))
  have f15 : Arv Z h7 a2 kA2 (.object "java/lang/Object") (17 : Int32) [.null, .null, .null, .null, .null, .null, .null, .null, .null, .null, .null, .null, .null, .null, .null, .null, .null] .null := (V2.keep KK14 (ninS (Ne.symm (Nat.ne_of_lt (Nat.lt_of_lt_of_le pg2.lt (Nat.le_of_eq g2)))) nin0))
  exact Wk.ret0' X7 hx hlk hr (hb hby d15_13) (by decide) (by decide) (Qc := Q_rm_adi Z d h0) e7 ⟨a2, kA2, rfl, N7, KK13, (Nat.le_of_eq g2), Ov2, E7', Fw7, f11, f12, f15⟩
theorem pn15 : plainName "com/example/accumulus/accumulus/account/LoanAccount" = true := by first | (simp [plainName, overriddenIn]; done) | decide +kernel
theorem d11_0 : decode prog_23_method_1_code 0 = .ok (.aload_n 0, 1) := by decide +kernel
theorem d11_1 : decode prog_23_method_1_code 1 = .ok (.invokespecial 1, 3) := by decide +kernel
theorem d11_4 : decode prog_23_method_1_code 4 = .ok (.aload_n 0, 1) := by decide +kernel
theorem d11_5 : decode prog_23_method_1_code 5 = .ok (.new 7, 3) := by decide +kernel
theorem d11_8 : decode prog_23_method_1_code 8 = .ok (.dup, 1) := by decide +kernel
theorem d11_9 : decode prog_23_method_1_code 9 = .ok (.invokespecial 9, 3) := by decide +kernel
theorem d11_12 : decode prog_23_method_1_code 12 = .ok (.putfield 10, 3) := by decide +kernel
theorem d11_15 : decode prog_23_method_1_code 15 = .ok (.aload_n 0, 1) := by decide +kernel
theorem d11_16 : decode prog_23_method_1_code 16 = .ok (.new 16, 3) := by decide +kernel
theorem d11_19 : decode prog_23_method_1_code 19 = .ok (.dup, 1) := by decide +kernel
theorem d11_20 : decode prog_23_method_1_code 20 = .ok (.invokespecial 18, 3) := by decide +kernel
theorem d11_23 : decode prog_23_method_1_code 23 = .ok (.putfield 19, 3) := by decide +kernel
theorem d11_26 : decode prog_23_method_1_code 26 = .ok (.return_, 1) := by decide +kernel
def Q_rm_lai (Z : State) (a : Addr) (ed : Addr) (h0 : Heap) (v : Option Value) (h : Heap) (L : List Loc) : Prop := ∃ d : Addr, ∃ el : Addr, ∃ kE : ClassId, v = none ∧ Fk h0.size [a] L ∧ Keep h0 h [a] ∧ h0.size ≤ d ∧ h0.size ≤ el ∧ Exa Z h a "com/example/accumulus/accumulus/account/LoanAccount" ∧ Fld Z h a "com/example/accumulus/accumulus/account/LoanAccount" "waiting" "Ljava/util/ArrayDeque;" (.ref d) ∧ Ovr Z kE "java/lang/Object" ∧ Exa Z h d "java/util/ArrayDeque" ∧ Fld Z h d "java/util/ArrayDeque" "elements" "[Ljava/lang/Object;" (.ref el) ∧ Fld Z h d "java/util/ArrayDeque" "head" "I" (.int (0 : Int32)) ∧ Fld Z h d "java/util/ArrayDeque" "tail" "I" (.int (0 : Int32)) ∧ Arv Z h el kE (.object "java/lang/Object") (17 : Int32) [.null, .null, .null, .null, .null, .null, .null, .null, .null, .null, .null, .null, .null, .null, .null, .null, .null] .null
set_option maxRecDepth 65536 in
set_option maxHeartbeats 40000000 in
theorem rm_lai (l : Launch) (Z : State) (a0 : Array Value) (hw : ∀ d ∈ tables_1, d.before a0 Z = true) (ws : List Jvm.Cond) (a : Addr) (ed : Addr) (h0 : Heap) (O0 : Old Z Z.heap.size h0) (hE : Exa Z h0 a "com/example/accumulus/accumulus/account/LoanAccount") (pg1 : Fld Z h0 a "com/example/accumulus/accumulus/account/LoanAccount" "loans" "Ljava/util/List;" .null) (pg2 : Fld Z h0 a "com/example/accumulus/accumulus/account/LoanAccount" "waiting" "Ljava/util/ArrayDeque;" .null) (ha : Z.heap.size ≤ a) (sD : Sta Z Z.heap "java/util/ArrayList" "DEFAULTCAPACITY_EMPTY_ELEMENTDATA" "[Ljava/lang/Object;" (.ref ed)) :
    Ctr l Z (⟨"com/example/accumulus/accumulus/account/LoanAccount", "<init>", "()V"⟩ : MethodName) prog_23_method_1_code 1 none ws ({ frames := 4, cells := 3, slots := 23, locals := 50 } : Room) #[(.ref a)] h0 (Q_rm_lai Z a ed h0) := by
  refine Ctr.intro (Ls := fun _ => #[.val (.ref a)]) (plainFor_of_name pn15) (fun m => by first | rfl | (simp [entryFrame, mkF, argsToLocals, Value.category]; done)) ?_
  intro p e s m below meth c s₁ hx hby hml hr hlk hZ hown hnm hs0 X0 e0
  have w : ∀ (k : Nat) (d : Jvm.Cond), tables_1[k]? = some d → d.before a0 Z = true := fun k d q => hw d (List.mem_of_getElem? q)
  have N0 := Fk.nil h0.size [a]
  refine Wk.aloadN X0 hx (hb hby d11_0) rfl rfl rfl ?_
  refine Wk.objinit X0 hx hZ hown (w 79 _ rfl) (w 61 _ rfl) (w 62 _ rfl) e0 (by rw [hml]; rfl) (hb hby d11_1) rfl (by decide) 0 (Nat.le_of_eq rfl) (by decide) ?_
  intro T1 X1 e1
  refine Wk.aloadN X1 hx (hb hby d11_4) rfl rfl rfl ?_
  refine Wk.new X1 hx hZ hown (w 80 _ rfl) (w 81 _ rfl) (w 82 _ rfl) e1 (hb hby d11_5) rfl (by decide) (by decide) ?_
  intro T2 h2 a2 g2 X2 e2 E2 A2 D2
  have O3 : Old Z Z.heap.size h2 := O0.ext E2
  have f4 : Fld Z h2 a2 "java/util/AbstractList" "modCount" "I" (.int (0 : Int32)) := D2 (Or.inl (w 100 _ rfl)) (ty := .int) (by decide)
  have f5 : Fld Z h2 a2 "java/util/ArrayList" "elementData" "[Ljava/lang/Object;" .null := D2 (Or.inl (w 103 _ rfl)) (ty := (.array (.object "java/lang/Object"))) (by decide)
  refine Wk.dup X2 hx (hb hby d11_8) rfl rfl ?_
  refine Wk.callI X2 hx hZ rfl hown (w 83 _ rfl) (w 84 _ rfl) (w 85 _ rfl) (by decide) (as' := []) (backOf (W := 2) (rm_ali l Z a0 hw [] a2 ed h2 O3 A2 f4 f5 (Nat.le_trans (Nat.le_trans (Nat.le_trans (Nat.le_of_eq O0.1.symm) O0.2.1) (Keep.refl h0 []).1) (Nat.le_of_eq g2)) sD) hZ (w 85 _ rfl) (w 82 _ rfl) (by decide) (by decide)) e2 (by rw [hml]; rfl) (rest := [(.ref a2), (.ref a)]) (lenOf pd12 rfl) rfl (Nat.le_of_eq rfl) (hb hby d11_9) rfl (by decide) (by decide) ?_
  intro T6 h6 v6 L6 X6 e6 hQ6
  obtain ⟨rfl, Nq6, K6, q6_0⟩ := hQ6
  have KK7 : Keep h0 h2 [] := ((Keep.refl h0 []).ext E2)
  have N6 := Fk.app N0 Nq6 KK7.1 (allS (Or.inr (Nat.le_of_eq g2)) all0)
  have O8 : Old Z Z.heap.size h6 := O3.keep K6 (allS (Nat.le_trans (Nat.le_trans (Nat.le_trans (Nat.le_of_eq O0.1.symm) O0.2.1) (Keep.refl h0 []).1) (Nat.le_of_eq g2)) all0)
  show Wp p e below _ _ T6 (mkF m 12 #[.val (.ref a)] [(.ref a2), (.ref a)])
  have KK9 : Keep h0 h6 [] := (KK7.trans K6 (allS (Or.inr (Nat.le_of_eq g2)) all0))
  have f10 : Exa Z h6 a "com/example/accumulus/accumulus/account/LoanAccount" := (hE.keep KK9)
  have f11 : Fld Z h6 a "com/example/accumulus/accumulus/account/LoanAccount" "loans" "Ljava/util/List;" .null := (pg1.keep KK9 nin0)
  have f13 : Fld Z h6 a "com/example/accumulus/accumulus/account/LoanAccount" "waiting" "Ljava/util/ArrayDeque;" .null := (pg2.keep KK9 nin0)
  refine Wk.putfield X6 hx hZ hown (host := "") (Or.inl (w 104 _ rfl)) Via.refl e6 f11 f10 (Or.inr ⟨(w 105 _ rfl), rfl, hnm⟩) (w 74 _ rfl) (ty := (.object "java/util/List")) (by decide) rfl rfl (hb hby d11_12) rfl ?_
  intro T12 h12 L12 M12 X12 e12 W12 Fw12
  have N12 := M12 _ _ N6 (Or.inl (List.mem_of_getElem? (i := 0) rfl))
  have O14 : Old Z Z.heap.size h12 := O8.wr W12 ha
  have f15 : Fld Z h12 a "com/example/accumulus/accumulus/account/LoanAccount" "waiting" "Ljava/util/ArrayDeque;" .null := f13.other W12 (Or.inr (slot_ne (Or.inr (w 119 _ rfl)) (Or.inr (w 105 _ rfl)) (by decide) (t := (.object "java/util/ArrayDeque")) (t' := (.object "java/util/List")) (by decide) (by decide)))
  have E12' : Exa Z h12 a "com/example/accumulus/accumulus/account/LoanAccount" := f10.wr W12
  refine Wk.aloadN X12 hx (hb hby d11_15) rfl rfl rfl ?_
  refine Wk.new X12 hx hZ hown (w 106 _ rfl) (w 107 _ rfl) (w 108 _ rfl) e12 (hb hby d11_16) rfl (by decide) (by decide) ?_
  intro T16 h16 a16 g16 X16 e16 E16 A16 D16
  have O17 : Old Z Z.heap.size h16 := O14.ext E16
  have f18 : Fld Z h16 a16 "java/util/ArrayDeque" "elements" "[Ljava/lang/Object;" .null := D16 (Or.inl (w 117 _ rfl)) (ty := (.array (.object "java/lang/Object"))) (by decide)
  have f19 : Fld Z h16 a16 "java/util/ArrayDeque" "head" "I" (.int (0 : Int32)) := D16 (Or.inl (w 136 _ rfl)) (ty := .int) (by decide)
  have f20 : Fld Z h16 a16 "java/util/ArrayDeque" "tail" "I" (.int (0 : Int32)) := D16 (Or.inl (w 167 _ rfl)) (ty := .int) (by decide)
  refine Wk.dup X16 hx (hb hby d11_19) rfl rfl ?_
  have KK21 : Keep h0 h12 [a] := ((((Keep.refl h0 [a]).ext E2).trans K6 (allS (Or.inr (Nat.le_of_eq g2)) all0)).wr W12 (Or.inl (List.mem_of_getElem? (i := 0) rfl)))
  refine Wk.callI X16 hx hZ rfl hown (w 109 _ rfl) (w 110 _ rfl) (w 111 _ rfl) (by decide) (as' := []) (backOf (W := 2) (rm_adi l Z a0 hw [] a16 h16 O17 A16 f18 f19 f20 (Nat.le_trans (Nat.le_trans (Nat.le_trans (Nat.le_of_eq O0.1.symm) O0.2.1) KK21.1) (Nat.le_of_eq g16))) hZ (w 111 _ rfl) (w 108 _ rfl) (by decide) (by decide)) e16 (by rw [hml]; rfl) (rest := [(.ref a16), (.ref a)]) (lenOf pd12 rfl) rfl (Nat.le_of_eq rfl) (hb hby d11_20) rfl (by decide) (by decide) ?_
  intro T22 h22 v22 L22 X22 e22 hQ22
  obtain ⟨el22, kE22, rfl, Nq22, K22, q22_0, q22_1, q22_2, q22_3, q22_4, q22_5, q22_6⟩ := hQ22
  have KK23 : Keep h0 h16 [a] := (KK21.ext E16)
  have N22 := Fk.app N12 Nq22 KK23.1 (allS (Or.inr (Nat.le_trans KK21.1 (Nat.le_of_eq g16))) all0)
  have O24 : Old Z Z.heap.size h22 := O17.keep K22 (allS (Nat.le_trans (Nat.le_trans (Nat.le_trans (Nat.le_of_eq O0.1.symm) O0.2.1) KK21.1) (Nat.le_of_eq g16)) all0)
  show Wp p e below _ _ T22 (mkF m 23 #[.val (.ref a)] [(.ref a16), (.ref a)])
  have KK25 : Keep h12 h22 [] := (((Keep.refl h12 []).ext E16).trans K22 (allS (Or.inr (Nat.le_of_eq g16)) all0))
  have f26 : Exa Z h22 a "com/example/accumulus/accumulus/account/LoanAccount" := (E12'.keep KK25)
  have f27 : Fld Z h22 a "com/example/accumulus/accumulus/account/LoanAccount" "waiting" "Ljava/util/ArrayDeque;" .null := (f15.keep KK25 nin0)
  have f29 : Fld Z h22 a "com/example/accumulus/accumulus/account/LoanAccount" "loans" "Ljava/util/List;" (.ref a2) := (Fw12.keep KK25 nin0)
  refine Wk.putfield X22 hx hZ hown (host := "") (Or.inl (w 118 _ rfl)) Via.refl e22 f27 f26 (Or.inr ⟨(w 119 _ rfl), rfl, hnm⟩) (w 74 _ rfl) (ty := (.object "java/util/ArrayDeque")) (by decide) rfl rfl (hb hby d11_23) rfl ?_
  intro T28 h28 L28 M28 X28 e28 W28 Fw28
  have N28 := M28 _ _ N22 (Or.inl (List.mem_of_getElem? (i := 0) rfl))
  have O30 : Old Z Z.heap.size h28 := O24.wr W28 ha
  have f31 : Fld Z h28 a "com/example/accumulus/accumulus/account/LoanAccount" "loans" "Ljava/util/List;" (.ref a2) := f29.other W28 (Or.inr (slot_ne (Or.inr (w 105 _ rfl)) (Or.inr (w 119 _ rfl)) (by decide) (t := (.object "java/util/List")) (t' := (.object "java/util/ArrayDeque")) (by decide) (by decide)))
  have E28' : Exa Z h28 a "com/example/accumulus/accumulus/account/LoanAccount" := f26.wr W28
  have KK32 : Keep h0 h28 [a] := ((KK23.trans K22 (allS (Or.inr (Nat.le_trans KK21.1 (Nat.le_of_eq g16))) all0)).wr W28 (Or.inl (List.mem_of_getElem? (i := 0) rfl)))
  have KK33 : Keep h22 h28 [a] := ((Keep.refl h22 [a]).wr W28 (Or.inl (List.mem_of_getElem? (i := 0) rfl)))
  have f34 : Exa Z h28 a16 "java/util/ArrayDeque" := (q22_2.keep KK33)
  have f35 : Fld Z h28 a16 "java/util/ArrayDeque" "elements" "[Ljava/lang/Object;" (.ref el22) := (q22_3.keep KK33 (ninS (Ne.symm (Nat.ne_of_lt (Nat.lt_of_lt_of_le Fw12.lt (Nat.le_of_eq g16)))) nin0))
  have f36 : Fld Z h28 a16 "java/util/ArrayDeque" "head" "I" (.int (0 : Int32)) := (q22_4.keep KK33 (ninS (Ne.symm (Nat.ne_of_lt (Nat.lt_of_lt_of_le Fw12.lt (Nat.le_of_eq g16)))) nin0))
  have f37 : Fld Z h28 a16 "java/util/ArrayDeque" "tail" "I" (.int (0 : Int32)) := (q22_5.keep KK33 (ninS (Ne.symm (Nat.ne_of_lt (Nat.lt_of_lt_of_le Fw12.lt (Nat.le_of_eq g16)))) nin0))
  have KK38 : Keep h12 h16 [] := ((Keep.refl h12 []).ext E16)
  have f39 : Arv Z h28 el22 kE22 (.object "java/lang/Object") (17 : Int32) [.null, .null, .null, .null, .null, .null, .null, .null, .null, .null, .null, .null, .null, .null, .null, .null, .null] .null := (q22_6.keep KK33 (ninS (Ne.symm (Nat.ne_of_lt (Nat.lt_of_lt_of_le Fw12.lt (Nat.le_trans KK38.1 q22_0)))) nin0))
  exact Wk.ret0' X28 hx hlk hr (hb hby d11_26) (by decide) (by decide) (Qc := Q_rm_lai Z a ed h0) e28 ⟨a16, el22, kE22, rfl, N28, KK32, (Nat.le_trans KK21.1 (Nat.le_of_eq g16)), (Nat.le_trans KK23.1 q22_0), E28', Fw28, q22_1, f34, f35, f36, f37, f39⟩
theorem d19_0 : decode jdk_21_method_10_code 0 = .ok (.aload_n 0, 1) := by decide +kernel
theorem d19_1 : decode jdk_21_method_10_code 1 = .ok (.iload_n 1, 1) := by decide +kernel
theorem d19_2 : decode jdk_21_method_10_code 2 = .ok (.aaload, 1) := by decide +kernel
theorem d19_3 : decode jdk_21_method_10_code 3 = .ok (.areturn, 1) := by decide +kernel
def Q_rm_elt (Z : State) (el : Addr) (hd : Int32) (kE : ClassId) (vs : List Value) (e_ : Value) (h0 : Heap) (v : Option Value) (h : Heap) (L : List Loc) : Prop := v = some e_ ∧ Fk h0.size [] L ∧ h = h0
set_option maxRecDepth 65536 in
set_option maxHeartbeats 40000000 in
theorem rm_elt (l : Launch) (Z : State) (a0 : Array Value) (hw : ∀ d ∈ tables_1, d.before a0 Z = true) (ws : List Jvm.Cond) (el : Addr) (hd : Int32) (kE : ClassId) (vs : List Value) (e_ : Value) (h0 : Heap) (O0 : Old Z Z.heap.size h0) (gA : Arv Z h0 el kE (.object "java/lang/Object") (17 : Int32) vs .null) (i0 : ¬ hd < 0) (i1 : hd < 17) (ge : vs.getD hd.toNatClampNeg .null = e_) (re : e_.isRef = true) :
    Ctr l Z (⟨"java/util/ArrayDeque", "elementAt", "([Ljava/lang/Object;I)Ljava/lang/Object;"⟩ : MethodName) jdk_21_method_10_code 2 (some (.object "java/lang/Object")) ws ({ frames := 0, cells := 0, slots := 0, locals := 0 } : Room) #[(.ref el), (.int hd)] h0 (Q_rm_elt Z el hd kE vs e_ h0) := by
  refine Ctr.intro (Ls := fun _ => #[.val (.ref el), .val (.int hd)]) (plainFor_of_name pn14) (fun m => by first | rfl | (simp [entryFrame, mkF, argsToLocals, Value.category]; done)) ?_
  intro p e s m below meth c s₁ hx hby hml hr hlk hZ hown hnm hs0 X0 e0
  have w : ∀ (k : Nat) (d : Jvm.Cond), tables_1[k]? = some d → d.before a0 Z = true := fun k d q => hw d (List.mem_of_getElem? q)
  have N0 := Fk.nil h0.size []
  refine Wk.aloadN X0 hx (hb hby d19_0) rfl rfl rfl ?_
  refine Wk.iloadN X0 hx (hb hby d19_1) rfl rfl ?_
  refine Wk.aaload X0 hx hZ e0 (C := (.object "java/lang/Object")) gA i0 i1 (v := e_) ge rfl (hb hby d19_2) rfl ?_
  exact Wk.retA' X0 hx hlk hr rfl re (hb hby d19_3) (by decide) (by decide) (Qc := Q_rm_elt Z el hd kE vs e_ h0) e0 ⟨rfl, N0, rfl⟩
theorem d18_0 : decode jdk_21_method_24_code 0 = .ok (.aload_n 0, 1) := by decide +kernel
theorem d18_1 : decode jdk_21_method_24_code 1 = .ok (.getfield 3, 3) := by decide +kernel
theorem d18_4 : decode jdk_21_method_24_code 4 = .ok (.aload_n 0, 1) := by decide +kernel
theorem d18_5 : decode jdk_21_method_24_code 5 = .ok (.getfield 24, 3) := by decide +kernel
theorem d18_8 : decode jdk_21_method_24_code 8 = .ok (.invokestatic 103, 3) := by decide +kernel
theorem pd16 : parseMethodDescriptor "([Ljava/lang/Object;I)Ljava/lang/Object;" = some ⟨[(.array (.object "java/lang/Object")), .int], some (.object "java/lang/Object")⟩ := by decide +kernel
theorem d18_11 : decode jdk_21_method_24_code 11 = .ok (.areturn, 1) := by decide +kernel
def Q_rm_pkf (Z : State) (d : Addr) (el : Addr) (hd : Int32) (kE : ClassId) (vs : List Value) (e_ : Value) (h0 : Heap) (v : Option Value) (h : Heap) (L : List Loc) : Prop := v = some e_ ∧ Fk h0.size [] L ∧ h = h0
set_option maxRecDepth 65536 in
set_option maxHeartbeats 40000000 in
theorem rm_pkf (l : Launch) (Z : State) (a0 : Array Value) (hw : ∀ d ∈ tables_1, d.before a0 Z = true) (ws : List Jvm.Cond) (d : Addr) (el : Addr) (hd : Int32) (kE : ClassId) (vs : List Value) (e_ : Value) (h0 : Heap) (O0 : Old Z Z.heap.size h0) (hE : Exa Z h0 d "java/util/ArrayDeque") (pg1 : Fld Z h0 d "java/util/ArrayDeque" "elements" "[Ljava/lang/Object;" (.ref el)) (pg2 : Fld Z h0 d "java/util/ArrayDeque" "head" "I" (.int hd)) (gA : Arv Z h0 el kE (.object "java/lang/Object") (17 : Int32) vs .null) (i0 : ¬ hd < 0) (i1 : hd < 17) (ge : vs.getD hd.toNatClampNeg .null = e_) (re : e_.isRef = true) :
    Ctr l Z (⟨"java/util/ArrayDeque", "peekFirst", "()Ljava/lang/Object;"⟩ : MethodName) jdk_21_method_24_code 1 (some (.object "java/lang/Object")) ws ({ frames := 1, cells := 0, slots := 0, locals := 13 } : Room) #[(.ref d)] h0 (Q_rm_pkf Z d el hd kE vs e_ h0) := by
  refine Ctr.intro (Ls := fun _ => #[.val (.ref d)]) (plainFor_of_name pn14) (fun m => by first | rfl | (simp [entryFrame, mkF, argsToLocals, Value.category]; done)) ?_
  intro p e s m below meth c s₁ hx hby hml hr hlk hZ hown hnm hs0 X0 e0
  have w : ∀ (k : Nat) (d : Jvm.Cond), tables_1[k]? = some d → d.before a0 Z = true := fun k d q => hw d (List.mem_of_getElem? q)
  have N0 := Fk.nil h0.size []
  refine Wk.aloadN X0 hx (hb hby d18_0) rfl rfl rfl ?_
  refine Wk.getfield X0 hx hZ hown (host := "") (Or.inl (w 116 _ rfl)) Via.refl e0 pg1 (hb hby d18_1) rfl ?_
  intro T1 X1 e1
  refine Wk.aloadN X1 hx (hb hby d18_4) rfl rfl rfl ?_
  refine Wk.getfield X1 hx hZ hown (host := "") (Or.inl (w 135 _ rfl)) Via.refl e1 pg2 (hb hby d18_5) rfl ?_
  intro T2 X2 e2
  refine Wk.callS X2 hx hZ hown (w 137 _ rfl) (w 138 _ rfl) (w 108 _ rfl) (w 139 _ rfl) (by decide) (as' := [(.ref el), (.int hd)]) (backOf (W := 0) (rm_elt l Z a0 hw [] el hd kE vs e_ h0 O0 gA i0 i1 ge re) hZ (w 139 _ rfl) (w 108 _ rfl) (by decide) (by decide)) e2 (by rw [hml]; rfl) (rest := []) (lenOf pd16 rfl) rfl (Nat.le_of_eq rfl) (hb hby d18_8) rfl (by decide) (by decide) ?_
  intro T3 h3 v3 L3 X3 e3 hQ3
  obtain ⟨rfl, Nq3, K3⟩ := hQ3
  have N3 := Fk.app N0 Nq3 (Nat.le_refl _) all0
  rw [K3] at e3
  show Wp p e below _ _ T3 (mkF m 11 #[.val (.ref d)] [e_])
  exact Wk.retA' X3 hx hlk hr rfl re (hb hby d18_11) (by decide) (by decide) (Qc := Q_rm_pkf Z d el hd kE vs e_ h0) e3 ⟨rfl, N3, rfl⟩
theorem d17_0 : decode jdk_21_method_33_code 0 = .ok (.aload_n 0, 1) := by decide +kernel
theorem d17_1 : decode jdk_21_method_33_code 1 = .ok (.invokevirtual 124, 3) := by decide +kernel
theorem pd17 : parseMethodDescriptor "()Ljava/lang/Object;" = some ⟨[], some (.object "java/lang/Object")⟩ := by decide +kernel
theorem d17_4 : decode jdk_21_method_33_code 4 = .ok (.areturn, 1) := by decide +kernel
def Q_rm_pk (Z : State) (d : Addr) (el : Addr) (hd : Int32) (kE : ClassId) (vs : List Value) (e_ : Value) (h0 : Heap) (v : Option Value) (h : Heap) (L : List Loc) : Prop := v = some e_ ∧ Fk h0.size [] L ∧ h = h0
set_option maxRecDepth 65536 in
set_option maxHeartbeats 40000000 in
theorem rm_pk (l : Launch) (Z : State) (a0 : Array Value) (hw : ∀ d ∈ tables_1, d.before a0 Z = true) (ws : List Jvm.Cond) (d : Addr) (el : Addr) (hd : Int32) (kE : ClassId) (vs : List Value) (e_ : Value) (h0 : Heap) (O0 : Old Z Z.heap.size h0) (hE : Exa Z h0 d "java/util/ArrayDeque") (pg1 : Fld Z h0 d "java/util/ArrayDeque" "elements" "[Ljava/lang/Object;" (.ref el)) (pg2 : Fld Z h0 d "java/util/ArrayDeque" "head" "I" (.int hd)) (gA : Arv Z h0 el kE (.object "java/lang/Object") (17 : Int32) vs .null) (i0 : ¬ hd < 0) (i1 : hd < 17) (ge : vs.getD hd.toNatClampNeg .null = e_) (re : e_.isRef = true) :
    Ctr l Z (⟨"java/util/ArrayDeque", "peek", "()Ljava/lang/Object;"⟩ : MethodName) jdk_21_method_33_code 1 (some (.object "java/lang/Object")) ws ({ frames := 2, cells := 0, slots := 0, locals := 25 } : Room) #[(.ref d)] h0 (Q_rm_pk Z d el hd kE vs e_ h0) := by
  refine Ctr.intro (Ls := fun _ => #[.val (.ref d)]) (plainFor_of_name pn14) (fun m => by first | rfl | (simp [entryFrame, mkF, argsToLocals, Value.category]; done)) ?_
  intro p e s m below meth c s₁ hx hby hml hr hlk hZ hown hnm hs0 X0 e0
  have w : ∀ (k : Nat) (d : Jvm.Cond), tables_1[k]? = some d → d.before a0 Z = true := fun k d q => hw d (List.mem_of_getElem? q)
  have N0 := Fk.nil h0.size []
  refine Wk.aloadN X0 hx (hb hby d17_0) rfl rfl rfl ?_
  refine Wk.callV X0 hx hZ (y := (⟨"java/util/ArrayDeque", "peekFirst", "()Ljava/lang/Object;"⟩ : MethodName)) (z := (⟨"java/util/ArrayDeque", "peekFirst", "()Ljava/lang/Object;"⟩ : MethodName)) hown (w 130 _ rfl) (w 131 _ rfl) (notFace_of_selects (args := #[]) (mvT hZ (w 133 _ rfl))) (w 133 _ rfl) (w 132 _ rfl) (by decide) (as' := []) (backOf (W := 0) (rm_pkf l Z a0 hw [] d el hd kE vs e_ h0 O0 hE pg1 pg2 gA i0 i1 ge re) hZ (w 134 _ rfl) (w 108 _ rfl) (by decide) (by decide)) e0 hE (by rw [hml]; rfl) (rest := []) (lenOf pd17 rfl) rfl (Nat.le_of_eq rfl) (hb hby d17_1) rfl (by decide) (by decide) ?_
  intro T1 h1 v1 L1 X1 e1 hQ1
  obtain ⟨rfl, Nq1, K1⟩ := hQ1
  have N1 := Fk.app N0 Nq1 (Nat.le_refl _) all0
  rw [K1] at e1
  show Wp p e below _ _ T1 (mkF m 4 #[.val (.ref d)] [e_])
  exact Wk.retA' X1 hx hlk hr rfl re (hb hby d17_4) (by decide) (by decide) (Qc := Q_rm_pk Z d el hd kE vs e_ h0) e1 ⟨rfl, N1, rfl⟩
theorem d16_0 : decode prog_23_method_11_code 0 = .ok (.aload_n 0, 1) := by decide +kernel
theorem d16_1 : decode prog_23_method_11_code 1 = .ok (.getfield 19, 3) := by decide +kernel
theorem d16_4 : decode prog_23_method_11_code 4 = .ok (.invokevirtual 144, 3) := by decide +kernel
theorem d16_7 : decode prog_23_method_11_code 7 = .ok (.checkcast 138, 3) := by decide +kernel
theorem d16_10 : decode prog_23_method_11_code 10 = .ok (.astore_n 1, 1) := by decide +kernel
theorem d16_11 : decode prog_23_method_11_code 11 = .ok (.aload_n 1, 1) := by decide +kernel
theorem d16_12 : decode prog_23_method_11_code 12 = .ok (.ifnonnull 7, 3) := by decide +kernel
theorem d16_15 : decode prog_23_method_11_code 15 = .ok (.aconst_null, 1) := by decide +kernel
theorem d16_16 : decode prog_23_method_11_code 16 = .ok (.goto 7, 3) := by decide +kernel
theorem d16_23 : decode prog_23_method_11_code 23 = .ok (.areturn, 1) := by decide +kernel
def Q_rm_nwN (Z : State) (a : Addr) (d : Addr) (el : Addr) (hd : Int32) (kE : ClassId) (vs : List Value) (h0 : Heap) (v : Option Value) (h : Heap) (L : List Loc) : Prop := v = some .null ∧ Fk h0.size [] L ∧ h = h0
set_option maxRecDepth 65536 in
set_option maxHeartbeats 40000000 in
theorem rm_nwN (l : Launch) (Z : State) (a0 : Array Value) (hw : ∀ d ∈ tables_1, d.before a0 Z = true) (ws : List Jvm.Cond) (a : Addr) (d : Addr) (el : Addr) (hd : Int32) (kE : ClassId) (vs : List Value) (h0 : Heap) (O0 : Old Z Z.heap.size h0) (gw : Fld Z h0 a "com/example/accumulus/accumulus/account/LoanAccount" "waiting" "Ljava/util/ArrayDeque;" (.ref d)) (hE : Exa Z h0 d "java/util/ArrayDeque") (pg1 : Fld Z h0 d "java/util/ArrayDeque" "elements" "[Ljava/lang/Object;" (.ref el)) (pg2 : Fld Z h0 d "java/util/ArrayDeque" "head" "I" (.int hd)) (gA : Arv Z h0 el kE (.object "java/lang/Object") (17 : Int32) vs .null) (i0 : ¬ hd < 0) (i1 : hd < 17) (ge : vs.getD hd.toNatClampNeg .null = .null) :
    Ctr l Z (⟨"com/example/accumulus/accumulus/account/LoanAccount", "nextWaitingDay", "()Ljava/time/LocalDate;"⟩ : MethodName) prog_23_method_11_code 2 (some (.object "java/time/LocalDate")) ws ({ frames := 3, cells := 0, slots := 0, locals := 37 } : Room) #[(.ref a)] h0 (Q_rm_nwN Z a d el hd kE vs h0) := by
  refine Ctr.intro (Ls := fun _ => #[.val (.ref a), .unset]) (plainFor_of_name pn15) (fun m => by first | rfl | (simp [entryFrame, mkF, argsToLocals, Value.category]; done)) ?_
  intro p e s m below meth c s₁ hx hby hml hr hlk hZ hown hnm hs0 X0 e0
  have w : ∀ (k : Nat) (d : Jvm.Cond), tables_1[k]? = some d → d.before a0 Z = true := fun k d q => hw d (List.mem_of_getElem? q)
  have N0 := Fk.nil h0.size []
  refine Wk.aloadN X0 hx (hb hby d16_0) rfl rfl rfl ?_
  refine Wk.getfield X0 hx hZ hown (host := "") (Or.inl (w 118 _ rfl)) Via.refl e0 gw (hb hby d16_1) rfl ?_
  intro T1 X1 e1
  refine Wk.callV X1 hx hZ (y := (⟨"java/util/ArrayDeque", "peek", "()Ljava/lang/Object;"⟩ : MethodName)) (z := (⟨"java/util/ArrayDeque", "peek", "()Ljava/lang/Object;"⟩ : MethodName)) hown (w 125 _ rfl) (w 126 _ rfl) (notFace_of_selects (args := #[]) (mvT hZ (w 128 _ rfl))) (w 128 _ rfl) (w 127 _ rfl) (by decide) (as' := []) (backOf (W := 0) (rm_pk l Z a0 hw [] d el hd kE vs .null h0 O0 hE pg1 pg2 gA i0 i1 ge (by first | assumption | rfl | decide | exact Nat.le_of_ble_eq_true rfl)) hZ (w 129 _ rfl) (w 108 _ rfl) (by decide) (by decide)) e1 hE (by rw [hml]; rfl) (rest := []) (lenOf pd17 rfl) rfl (Nat.le_of_eq rfl) (hb hby d16_4) rfl (by decide) (by decide) ?_
  intro T2 h2 v2 L2 X2 e2 hQ2
  obtain ⟨rfl, Nq2, K2⟩ := hQ2
  have N2 := Fk.app N0 Nq2 (Nat.le_refl _) all0
  rw [K2] at e2
  show Wp p e below _ _ T2 (mkF m 7 #[.val (.ref a), .unset] [.null])
  refine Wk.castNull X2 hx (hb hby d16_7) rfl ?_
  refine Wk.astoreN X2 hx (Ls' := #[.val (.ref a), .val .null]) (hb hby d16_10) rfl rfl rfl ?_
  refine Wk.aloadN X2 hx (hb hby d16_11) rfl rfl rfl ?_
  refine Wk.ifnonnullNo X2 hx (hb hby d16_12) rfl ?_
  refine Wk.aconstNull X2 hx (hb hby d16_15) rfl ?_
  refine Wk.goto X2 hx (hb hby d16_16) (by decide) (q := 23) rfl ?_
  exact Wk.retA' X2 hx hlk hr rfl rfl (hb hby d16_23) (by decide) (by decide) (Qc := Q_rm_nwN Z a d el hd kE vs h0) e2 ⟨rfl, N2, rfl⟩
theorem d16_19 : decode prog_23_method_11_code 19 = .ok (.aload_n 1, 1) := by decide +kernel
theorem d16_20 : decode prog_23_method_11_code 20 = .ok (.getfield 147, 3) := by decide +kernel
def Q_rm_nwR (Z : State) (a : Addr) (d : Addr) (el : Addr) (hd : Int32) (kE : ClassId) (vs : List Value) (w_ : Addr) (dt : Addr) (h0 : Heap) (v : Option Value) (h : Heap) (L : List Loc) : Prop := v = some (.ref dt) ∧ Fk h0.size [] L ∧ h = h0
set_option maxRecDepth 65536 in
set_option maxHeartbeats 40000000 in
theorem rm_nwR (l : Launch) (Z : State) (a0 : Array Value) (hw : ∀ d ∈ tables_1, d.before a0 Z = true) (ws : List Jvm.Cond) (a : Addr) (d : Addr) (el : Addr) (hd : Int32) (kE : ClassId) (vs : List Value) (w_ : Addr) (dt : Addr) (h0 : Heap) (O0 : Old Z Z.heap.size h0) (gw : Fld Z h0 a "com/example/accumulus/accumulus/account/LoanAccount" "waiting" "Ljava/util/ArrayDeque;" (.ref d)) (hE : Exa Z h0 d "java/util/ArrayDeque") (pg1 : Fld Z h0 d "java/util/ArrayDeque" "elements" "[Ljava/lang/Object;" (.ref el)) (pg2 : Fld Z h0 d "java/util/ArrayDeque" "head" "I" (.int hd)) (gA : Arv Z h0 el kE (.object "java/lang/Object") (17 : Int32) vs .null) (i0 : ¬ hd < 0) (i1 : hd < 17) (ge : vs.getD hd.toNatClampNeg .null = .ref w_) (hw_ : Exa Z h0 w_ "com/example/accumulus/accumulus/account/LoanAccount$Waiting") (hf_ : Fld Z h0 w_ "com/example/accumulus/accumulus/account/LoanAccount$Waiting" "pricingDate" "Ljava/time/LocalDate;" (.ref dt)) :
    Ctr l Z (⟨"com/example/accumulus/accumulus/account/LoanAccount", "nextWaitingDay", "()Ljava/time/LocalDate;"⟩ : MethodName) prog_23_method_11_code 2 (some (.object "java/time/LocalDate")) ws ({ frames := 3, cells := 0, slots := 0, locals := 37 } : Room) #[(.ref a)] h0 (Q_rm_nwR Z a d el hd kE vs w_ dt h0) := by
  refine Ctr.intro (Ls := fun _ => #[.val (.ref a), .unset]) (plainFor_of_name pn15) (fun m => by first | rfl | (simp [entryFrame, mkF, argsToLocals, Value.category]; done)) ?_
  intro p e s m below meth c s₁ hx hby hml hr hlk hZ hown hnm hs0 X0 e0
  have w : ∀ (k : Nat) (d : Jvm.Cond), tables_1[k]? = some d → d.before a0 Z = true := fun k d q => hw d (List.mem_of_getElem? q)
  have N0 := Fk.nil h0.size []
  refine Wk.aloadN X0 hx (hb hby d16_0) rfl rfl rfl ?_
  refine Wk.getfield X0 hx hZ hown (host := "") (Or.inl (w 118 _ rfl)) Via.refl e0 gw (hb hby d16_1) rfl ?_
  intro T1 X1 e1
  refine Wk.callV X1 hx hZ (y := (⟨"java/util/ArrayDeque", "peek", "()Ljava/lang/Object;"⟩ : MethodName)) (z := (⟨"java/util/ArrayDeque", "peek", "()Ljava/lang/Object;"⟩ : MethodName)) hown (w 125 _ rfl) (w 126 _ rfl) (notFace_of_selects (args := #[]) (mvT hZ (w 128 _ rfl))) (w 128 _ rfl) (w 127 _ rfl) (by decide) (as' := []) (backOf (W := 0) (rm_pk l Z a0 hw [] d el hd kE vs (.ref w_) h0 O0 hE pg1 pg2 gA i0 i1 (by first | assumption | rfl | decide | exact Nat.le_of_ble_eq_true rfl) (by first | assumption | rfl | decide | exact Nat.le_of_ble_eq_true rfl)) hZ (w 129 _ rfl) (w 108 _ rfl) (by decide) (by decide)) e1 hE (by rw [hml]; rfl) (rest := []) (lenOf pd17 rfl) rfl (Nat.le_of_eq rfl) (hb hby d16_4) rfl (by decide) (by decide) ?_
  intro T2 h2 v2 L2 X2 e2 hQ2
  obtain ⟨rfl, Nq2, K2⟩ := hQ2
  have N2 := Fk.app N0 Nq2 (Nat.le_refl _) all0
  rw [K2] at e2
  show Wp p e below _ _ T2 (mkF m 7 #[.val (.ref a), .unset] [(.ref w_)])
  refine Wk.castY X2 hx hZ hown (w 145 _ rfl) e2 (Ins.self hw_) (hb hby d16_7) rfl ?_
  intro T3 X3 e3
  refine Wk.astoreN X3 hx (Ls' := #[.val (.ref a), .val (.ref w_)]) (hb hby d16_10) rfl rfl rfl ?_
  refine Wk.aloadN X3 hx (hb hby d16_11) rfl rfl rfl ?_
  refine Wk.ifnonnullYes X3 hx (hb hby d16_12) (by decide) (q := 19) rfl ?_
  refine Wk.aloadN X3 hx (hb hby d16_19) rfl rfl rfl ?_
  refine Wk.getfieldRef X3 hx hZ hown (w 173 _ rfl) e3 hf_ (hb hby d16_20) rfl ?_
  exact Wk.retA' X3 hx hlk hr rfl rfl (hb hby d16_23) (by decide) (by decide) (Qc := Q_rm_nwR Z a d el hd kE vs w_ dt h0) e3 ⟨rfl, N2, rfl⟩
theorem pn18 : plainName "com/example/accumulus/accumulus/account/LoanAccount$Waiting" = true := by first | (simp [plainName, overriddenIn]; done) | decide +kernel
theorem d21_0 : decode prog_25_method_1_code 0 = .ok (.aload_n 0, 1) := by decide +kernel
theorem d21_1 : decode prog_25_method_1_code 1 = .ok (.invokespecial 1, 3) := by decide +kernel
theorem d21_4 : decode prog_25_method_1_code 4 = .ok (.aload_n 0, 1) := by decide +kernel
theorem d21_5 : decode prog_25_method_1_code 5 = .ok (.aload_n 1, 1) := by decide +kernel
theorem d21_6 : decode prog_25_method_1_code 6 = .ok (.putfield 7, 3) := by decide +kernel
theorem d21_9 : decode prog_25_method_1_code 9 = .ok (.aload_n 0, 1) := by decide +kernel
theorem d21_10 : decode prog_25_method_1_code 10 = .ok (.aload_n 2, 1) := by decide +kernel
theorem d21_11 : decode prog_25_method_1_code 11 = .ok (.putfield 13, 3) := by decide +kernel
theorem d21_14 : decode prog_25_method_1_code 14 = .ok (.return_, 1) := by decide +kernel
def Q_rm_wai (Z : State) (a : Addr) (dt : Addr) (h0 : Heap) (v : Option Value) (h : Heap) (L : List Loc) : Prop := v = none ∧ Fk h0.size [a] L ∧ Keep h0 h [a] ∧ Exa Z h a "com/example/accumulus/accumulus/account/LoanAccount$Waiting" ∧ Fld Z h a "com/example/accumulus/accumulus/account/LoanAccount$Waiting" "pricingDate" "Ljava/time/LocalDate;" (.ref dt) ∧ Fld Z h a "com/example/accumulus/accumulus/account/LoanAccount$Waiting" "loan" "Lcom/example/accumulus/accumulus/journal/JournalEntry;" .null
set_option maxRecDepth 65536 in
set_option maxHeartbeats 40000000 in
theorem rm_wai (l : Launch) (Z : State) (a0 : Array Value) (hw : ∀ d ∈ tables_1, d.before a0 Z = true) (ws : List Jvm.Cond) (a : Addr) (dt : Addr) (h0 : Heap) (O0 : Old Z Z.heap.size h0) (hE : Exa Z h0 a "com/example/accumulus/accumulus/account/LoanAccount$Waiting") (pg1 : Fld Z h0 a "com/example/accumulus/accumulus/account/LoanAccount$Waiting" "loan" "Lcom/example/accumulus/accumulus/journal/JournalEntry;" .null) (pg2 : Fld Z h0 a "com/example/accumulus/accumulus/account/LoanAccount$Waiting" "pricingDate" "Ljava/time/LocalDate;" .null) (ha : Z.heap.size ≤ a) :
    Ctr l Z (⟨"com/example/accumulus/accumulus/account/LoanAccount$Waiting", "<init>", "(Lcom/example/accumulus/accumulus/journal/JournalEntry;Ljava/time/LocalDate;)V"⟩ : MethodName) prog_25_method_1_code 3 none ws ({ frames := 1, cells := 0, slots := 0, locals := 12 } : Room) #[(.ref a), .null, (.ref dt)] h0 (Q_rm_wai Z a dt h0) := by
  refine Ctr.intro (Ls := fun _ => #[.val (.ref a), .val .null, .val (.ref dt)]) (plainFor_of_name pn18) (fun m => by first | rfl | (simp [entryFrame, mkF, argsToLocals, Value.category]; done)) ?_
  intro p e s m below meth c s₁ hx hby hml hr hlk hZ hown hnm hs0 X0 e0
  have w : ∀ (k : Nat) (d : Jvm.Cond), tables_1[k]? = some d → d.before a0 Z = true := fun k d q => hw d (List.mem_of_getElem? q)
  have N0 := Fk.nil h0.size [a]
  refine Wk.aloadN X0 hx (hb hby d21_0) rfl rfl rfl ?_
  refine Wk.objinit X0 hx hZ hown (w 151 _ rfl) (w 61 _ rfl) (w 62 _ rfl) e0 (by rw [hml]; rfl) (hb hby d21_1) rfl (by decide) 0 (Nat.le_of_eq rfl) (by decide) ?_
  intro T1 X1 e1
  refine Wk.aloadN X1 hx (hb hby d21_4) rfl rfl rfl ?_
  refine Wk.aloadN X1 hx (hb hby d21_5) rfl rfl rfl ?_
  refine Wk.putfield X1 hx hZ hown (host := "") (Or.inl (w 152 _ rfl)) Via.refl e1 pg1 hE (Or.inr ⟨(w 153 _ rfl), rfl, hnm⟩) (w 146 _ rfl) (ty := (.object "com/example/accumulus/accumulus/journal/JournalEntry")) (by decide) rfl rfl (hb hby d21_6) rfl ?_
  intro T2 h2 L2 M2 X2 e2 W2 Fw2
  have N2 := M2 _ _ N0 (Or.inl (List.mem_of_getElem? (i := 0) rfl))
  have O3 : Old Z Z.heap.size h2 := O0.wr W2 ha
  have f4 : Fld Z h2 a "com/example/accumulus/accumulus/account/LoanAccount$Waiting" "pricingDate" "Ljava/time/LocalDate;" .null := pg2.other W2 (Or.inr (slot_ne (Or.inr (w 155 _ rfl)) (Or.inr (w 153 _ rfl)) (by decide) (t := (.object "java/time/LocalDate")) (t' := (.object "com/example/accumulus/accumulus/journal/JournalEntry")) (by decide) (by decide)))
  have E2' : Exa Z h2 a "com/example/accumulus/accumulus/account/LoanAccount$Waiting" := hE.wr W2
  refine Wk.aloadN X2 hx (hb hby d21_9) rfl rfl rfl ?_
  refine Wk.aloadN X2 hx (hb hby d21_10) rfl rfl rfl ?_
  refine Wk.putfield X2 hx hZ hown (host := "") (Or.inl (w 154 _ rfl)) Via.refl e2 f4 E2' (Or.inr ⟨(w 155 _ rfl), rfl, hnm⟩) (w 146 _ rfl) (ty := (.object "java/time/LocalDate")) (by decide) rfl rfl (hb hby d21_11) rfl ?_
  intro T5 h5 L5 M5 X5 e5 W5 Fw5
  have N5 := M5 _ _ N2 (Or.inl (List.mem_of_getElem? (i := 0) rfl))
  have O6 : Old Z Z.heap.size h5 := O3.wr W5 ha
  have f7 : Fld Z h5 a "com/example/accumulus/accumulus/account/LoanAccount$Waiting" "loan" "Lcom/example/accumulus/accumulus/journal/JournalEntry;" .null := Fw2.other W5 (Or.inr (slot_ne (Or.inr (w 153 _ rfl)) (Or.inr (w 155 _ rfl)) (by decide) (t := (.object "com/example/accumulus/accumulus/journal/JournalEntry")) (t' := (.object "java/time/LocalDate")) (by decide) (by decide)))
  have E5' : Exa Z h5 a "com/example/accumulus/accumulus/account/LoanAccount$Waiting" := E2'.wr W5
  have KK8 : Keep h0 h5 [a] := (((Keep.refl h0 [a]).wr W2 (Or.inl (List.mem_of_getElem? (i := 0) rfl))).wr W5 (Or.inl (List.mem_of_getElem? (i := 0) rfl)))
  exact Wk.ret0' X5 hx hlk hr (hb hby d21_14) (by decide) (by decide) (Qc := Q_rm_wai Z a dt h0) e5 ⟨rfl, N5, KK8, E5', Fw5, f7⟩
theorem d24_0 : decode jdk_21_method_6_code 0 = .ok (.iinc 0 1, 3) := by decide +kernel
theorem d24_3 : decode jdk_21_method_6_code 3 = .ok (.iload_n 0, 1) := by decide +kernel
theorem d24_4 : decode jdk_21_method_6_code 4 = .ok (.iload_n 1, 1) := by decide +kernel
theorem d24_5 : decode jdk_21_method_6_code 5 = .ok (.if_icmp .lt 5, 3) := by decide +kernel
theorem d24_10 : decode jdk_21_method_6_code 10 = .ok (.iload_n 0, 1) := by decide +kernel
theorem d24_11 : decode jdk_21_method_6_code 11 = .ok (.ireturn, 1) := by decide +kernel
def Q_rm_inc (Z : State) (z : Int32) (n : Int32) (z' : Int32) (h0 : Heap) (v : Option Value) (h : Heap) (L : List Loc) : Prop := v = some (.int z') ∧ Fk h0.size [] L ∧ h = h0
set_option maxRecDepth 65536 in
set_option maxHeartbeats 40000000 in
theorem rm_inc (l : Launch) (Z : State) (a0 : Array Value) (hw : ∀ d ∈ tables_1, d.before a0 Z = true) (ws : List Jvm.Cond) (z : Int32) (n : Int32) (z' : Int32) (h0 : Heap) (O0 : Old Z Z.heap.size h0) (hz : z + 1 = z') (hlt : z' < n) :
    Ctr l Z (⟨"java/util/ArrayDeque", "inc", "(II)I"⟩ : MethodName) jdk_21_method_6_code 2 (some .int) ws ({ frames := 0, cells := 0, slots := 0, locals := 0 } : Room) #[(.int z), (.int n)] h0 (Q_rm_inc Z z n z' h0) := by
  refine Ctr.intro (Ls := fun _ => #[.val (.int z), .val (.int n)]) (plainFor_of_name pn14) (fun m => by first | rfl | (simp [entryFrame, mkF, argsToLocals, Value.category]; done)) ?_
  intro p e s m below meth c s₁ hx hby hml hr hlk hZ hown hnm hs0 X0 e0
  have w : ∀ (k : Nat) (d : Jvm.Cond), tables_1[k]? = some d → d.before a0 Z = true := fun k d q => hw d (List.mem_of_getElem? q)
  have N0 := Fk.nil h0.size []
  refine Wk.iinc X0 hx (Ls' := #[.val (.int (z + (1 : Int32))), .val (.int n)]) (hb hby d24_0) rfl rfl rfl ?_
  rw [hz]
  refine Wk.iloadN X0 hx (hb hby d24_3) rfl rfl ?_
  refine Wk.iloadN X0 hx (hb hby d24_4) rfl rfl ?_
  refine Wk.icmpYes X0 hx (hb hby d24_5) (by decide) (q := 10) rfl (tlt hlt).1 ?_
  refine Wk.iloadN X0 hx (hb hby d24_10) rfl rfl ?_
  exact Wk.retI' X0 hx hlk hr (hb hby d24_11) (by decide) (by decide) (Qc := Q_rm_inc Z z n z' h0) e0 ⟨rfl, N0, rfl⟩
theorem d23_0 : decode jdk_21_method_13_code 0 = .ok (.aload_n 1, 1) := by decide +kernel
theorem d23_1 : decode jdk_21_method_13_code 1 = .ok (.ifnonnull 11, 3) := by decide +kernel
theorem d23_12 : decode jdk_21_method_13_code 12 = .ok (.aload_n 0, 1) := by decide +kernel
theorem d23_13 : decode jdk_21_method_13_code 13 = .ok (.getfield 3, 3) := by decide +kernel
theorem d23_16 : decode jdk_21_method_13_code 16 = .ok (.astore_n 2, 1) := by decide +kernel
theorem d23_17 : decode jdk_21_method_13_code 17 = .ok (.aload_n 2, 1) := by decide +kernel
theorem d23_18 : decode jdk_21_method_13_code 18 = .ok (.aload_n 0, 1) := by decide +kernel
theorem d23_19 : decode jdk_21_method_13_code 19 = .ok (.getfield 20, 3) := by decide +kernel
theorem d23_22 : decode jdk_21_method_13_code 22 = .ok (.aload_n 1, 1) := by decide +kernel
theorem d23_23 : decode jdk_21_method_13_code 23 = .ok (.aastore, 1) := by decide +kernel
theorem d23_24 : decode jdk_21_method_13_code 24 = .ok (.aload_n 0, 1) := by decide +kernel
theorem d23_25 : decode jdk_21_method_13_code 25 = .ok (.getfield 24, 3) := by decide +kernel
theorem d23_28 : decode jdk_21_method_13_code 28 = .ok (.aload_n 0, 1) := by decide +kernel
theorem d23_29 : decode jdk_21_method_13_code 29 = .ok (.aload_n 0, 1) := by decide +kernel
theorem d23_30 : decode jdk_21_method_13_code 30 = .ok (.getfield 20, 3) := by decide +kernel
theorem d23_33 : decode jdk_21_method_13_code 33 = .ok (.aload_n 2, 1) := by decide +kernel
theorem d23_34 : decode jdk_21_method_13_code 34 = .ok (.arraylength, 1) := by decide +kernel
theorem d23_35 : decode jdk_21_method_13_code 35 = .ok (.invokestatic 74, 3) := by decide +kernel
theorem pd19 : parseMethodDescriptor "(II)I" = some ⟨[.int, .int], some .int⟩ := by decide +kernel
theorem d23_38 : decode jdk_21_method_13_code 38 = .ok (.dup_x1, 1) := by decide +kernel
theorem d23_39 : decode jdk_21_method_13_code 39 = .ok (.putfield 20, 3) := by decide +kernel
theorem d23_42 : decode jdk_21_method_13_code 42 = .ok (.if_icmp .ne 8, 3) := by decide +kernel
theorem d23_50 : decode jdk_21_method_13_code 50 = .ok (.return_, 1) := by decide +kernel
def Q_rm_adl (Z : State) (d : Addr) (el : Addr) (hd : Int32) (tl : Int32) (tl' : Int32) (kE : ClassId) (vs : List Value) (vs' : List Value) (w_ : Addr) (h0 : Heap) (v : Option Value) (h : Heap) (L : List Loc) : Prop := v = none ∧ Fk h0.size [d, el] L ∧ Keep h0 h [d, el] ∧ Exa Z h d "java/util/ArrayDeque" ∧ Fld Z h d "java/util/ArrayDeque" "elements" "[Ljava/lang/Object;" (.ref el) ∧ Fld Z h d "java/util/ArrayDeque" "head" "I" (.int hd) ∧ Fld Z h d "java/util/ArrayDeque" "tail" "I" (.int tl') ∧ Arv Z h el kE (.object "java/lang/Object") (17 : Int32) vs' .null
set_option maxRecDepth 65536 in
set_option maxHeartbeats 40000000 in
theorem rm_adl (l : Launch) (Z : State) (a0 : Array Value) (hw : ∀ d ∈ tables_1, d.before a0 Z = true) (ws : List Jvm.Cond) (d : Addr) (el : Addr) (hd : Int32) (tl : Int32) (tl' : Int32) (kE : ClassId) (vs : List Value) (vs' : List Value) (w_ : Addr) (h0 : Heap) (O0 : Old Z Z.heap.size h0) (h0_ : Exa Z h0 d "java/util/ArrayDeque") (h1_ : Fld Z h0 d "java/util/ArrayDeque" "elements" "[Ljava/lang/Object;" (.ref el)) (h2_ : Fld Z h0 d "java/util/ArrayDeque" "head" "I" (.int hd)) (h3_ : Fld Z h0 d "java/util/ArrayDeque" "tail" "I" (.int tl)) (h4_ : Arv Z h0 el kE (.object "java/lang/Object") (17 : Int32) vs .null) (j0 : ¬ tl < 0) (j1 : tl < 17) (j2 : tl.toNatClampNeg < vs.length) (hz : tl + 1 = tl') (hlt : tl' < 17) (hn : ¬ hd = tl') (hvs : vs.set tl.toNatClampNeg (.ref w_) = vs') (od : Z.heap.size ≤ d) (oe : Z.heap.size ≤ el) (ov : Ovr Z kE "java/lang/Object") (hw_ : Exa Z h0 w_ "com/example/accumulus/accumulus/account/LoanAccount$Waiting") :
    Ctr l Z (⟨"java/util/ArrayDeque", "addLast", "(Ljava/lang/Object;)V"⟩ : MethodName) jdk_21_method_13_code 3 none ws ({ frames := 1, cells := 0, slots := 0, locals := 15 } : Room) #[(.ref d), (.ref w_)] h0 (Q_rm_adl Z d el hd tl tl' kE vs vs' w_ h0) := by
  refine Ctr.intro (Ls := fun _ => #[.val (.ref d), .val (.ref w_), .unset]) (plainFor_of_name pn14) (fun m => by first | rfl | (simp [entryFrame, mkF, argsToLocals, Value.category]; done)) ?_
  intro p e s m below meth c s₁ hx hby hml hr hlk hZ hown hnm hs0 X0 e0
  have w : ∀ (k : Nat) (d : Jvm.Cond), tables_1[k]? = some d → d.before a0 Z = true := fun k d q => hw d (List.mem_of_getElem? q)
  have N0 := Fk.nil h0.size [d, el]
  refine Wk.aloadN X0 hx (hb hby d23_0) rfl rfl rfl ?_
  refine Wk.ifnonnullYes X0 hx (hb hby d23_1) (by decide) (q := 12) rfl ?_
  refine Wk.aloadN X0 hx (hb hby d23_12) rfl rfl rfl ?_
  refine Wk.getfield X0 hx hZ hown (host := "") (Or.inl (w 116 _ rfl)) Via.refl e0 h1_ (hb hby d23_13) rfl ?_
  intro T1 X1 e1
  refine Wk.astoreN X1 hx (Ls' := #[.val (.ref d), .val (.ref w_), .val (.ref el)]) (hb hby d23_16) rfl rfl rfl ?_
  refine Wk.aloadN X1 hx (hb hby d23_17) rfl rfl rfl ?_
  refine Wk.aloadN X1 hx (hb hby d23_18) rfl rfl rfl ?_
  refine Wk.getfield X1 hx hZ hown (host := "") (Or.inl (w 166 _ rfl)) Via.refl e1 h3_ (hb hby d23_19) rfl ?_
  intro T2 X2 e2
  refine Wk.aloadN X2 hx (hb hby d23_22) rfl rfl rfl ?_
  refine Wk.aastore X2 hx hZ e2 h4_ rfl rfl (stoV h4_ ov (Ins.of_exa hw_ (w 168 _ rfl))) j0 j1 tl.toNatClampNeg rfl j2 (hb hby d23_23) rfl ?_
  intro T3 h3 L3 M3 X3 e3 W3 A3
  have N3 := M3 _ _ N0 (Or.inl (List.mem_of_getElem? (i := 1) rfl))
  have O4 : Old Z Z.heap.size h3 := O0.wr W3 oe
  have V3 : Arv Z h3 el kE (.object "java/lang/Object") (17 : Int32) (vs.set tl.toNatClampNeg (.ref w_)) .null := A3
  have Vs5 : Arv Z h3 el kE (.object "java/lang/Object") (17 : Int32) vs' .null := hvs ▸ V3
  refine Wk.aloadN X3 hx (hb hby d23_24) rfl rfl rfl ?_
  have KK6 : Keep h0 h3 [el] := ((Keep.refl h0 [el]).wr W3 (Or.inl (List.mem_of_getElem? (i := 0) rfl)))
  have f7 : Fld Z h3 d "java/util/ArrayDeque" "head" "I" (.int hd) := (h2_.keep KK6 (ninS (Exa.neArv (h0_.keep KK6) Vs5 (w 107 _ rfl)) nin0))
  refine Wk.getfield X3 hx hZ hown (host := "") (Or.inl (w 135 _ rfl)) Via.refl e3 f7 (hb hby d23_25) rfl ?_
  intro T8 X8 e8
  refine Wk.aloadN X8 hx (hb hby d23_28) rfl rfl rfl ?_
  refine Wk.aloadN X8 hx (hb hby d23_29) rfl rfl rfl ?_
  have f9 : Fld Z h3 d "java/util/ArrayDeque" "tail" "I" (.int tl) := (h3_.keep KK6 (ninS (Exa.neArv (h0_.keep KK6) Vs5 (w 107 _ rfl)) nin0))
  refine Wk.getfield X8 hx hZ hown (host := "") (Or.inl (w 166 _ rfl)) Via.refl e8 f9 (hb hby d23_30) rfl ?_
  intro T10 X10 e10
  refine Wk.aloadN X10 hx (hb hby d23_33) rfl rfl rfl ?_
  refine Wk.arraylength X10 hx hZ e10 Vs5 (hb hby d23_34) rfl ?_
  refine Wk.callS X10 hx hZ hown (w 169 _ rfl) (w 170 _ rfl) (w 108 _ rfl) (w 171 _ rfl) (by decide) (as' := [(.int tl), (.int (17 : Int32))]) (backOf (W := 2) (rm_inc l Z a0 hw [] tl (17 : Int32) tl' h3 O4 hz (by first | assumption | rfl | decide | exact Nat.le_of_ble_eq_true rfl)) hZ (w 171 _ rfl) (w 108 _ rfl) (by decide) (by decide)) e10 (by rw [hml]; rfl) (rest := [(.ref d), (.int hd)]) (lenOf pd19 rfl) rfl (Nat.le_of_eq rfl) (hb hby d23_35) rfl (by decide) (by decide) ?_
  intro T11 h11 v11 L11 X11 e11 hQ11
  obtain ⟨rfl, Nq11, K11⟩ := hQ11
  have N11 := Fk.app N3 Nq11 KK6.1 all0
  rw [K11] at e11
  show Wp p e below _ _ T11 (mkF m 38 #[.val (.ref d), .val (.ref w_), .val (.ref el)] [(.int tl'), (.ref d), (.int hd)])
  refine Wk.dupX1 X11 hx (hb hby d23_38) rfl rfl rfl ?_
  have f12 : Exa Z h3 d "java/util/ArrayDeque" := (h0_.keep KK6)
  have f14 : Fld Z h3 d "java/util/ArrayDeque" "elements" "[Ljava/lang/Object;" (.ref el) := (h1_.keep KK6 (ninS (Exa.neArv f12 Vs5 (w 107 _ rfl)) nin0))
  refine Wk.putfield X11 hx hZ hown (host := "") (Or.inl (w 166 _ rfl)) Via.refl e11 f9 f12 (Or.inl (w 167 _ rfl)) (w 107 _ rfl) (ty := .int) (by decide) rfl rfl (hb hby d23_39) rfl ?_
  intro T13 h13 L13 M13 X13 e13 W13 Fw13
  have N13 := M13 _ _ N11 (Or.inl (List.mem_of_getElem? (i := 0) rfl))
  have O15 : Old Z Z.heap.size h13 := O4.wr W13 od
  have f16 : Fld Z h13 d "java/util/ArrayDeque" "elements" "[Ljava/lang/Object;" (.ref el) := f14.other W13 (Or.inr (slot_ne (Or.inl (w 117 _ rfl)) (Or.inl (w 167 _ rfl)) (by decide) (t := (.array (.object "java/lang/Object"))) (t' := .int) (by decide) (by decide)))
  have f17 : Fld Z h13 d "java/util/ArrayDeque" "head" "I" (.int hd) := f7.other W13 (Or.inr (slot_ne (Or.inl (w 136 _ rfl)) (Or.inl (w 167 _ rfl)) (by decide) (t := .int) (t' := .int) (by decide) (by decide)))
  have E13' : Exa Z h13 d "java/util/ArrayDeque" := f12.wr W13
  refine Wk.icmpYes X13 hx (hb hby d23_42) (by decide) (q := 50) rfl (feq hn).2 ?_
  have KK18 : Keep h0 h13 [el, d] := (((Keep.refl h0 [el, d]).wr W3 (Or.inl (List.mem_of_getElem? (i := 0) rfl))).wr W13 (Or.inl (List.mem_of_getElem? (i := 1) rfl)))
  have KK19 : Keep h3 h13 [d] := ((Keep.refl h3 [d]).wr W13 (Or.inl (List.mem_of_getElem? (i := 0) rfl)))
  have f20 : Arv Z h13 el kE (.object "java/lang/Object") (17 : Int32) vs' .null := (Vs5.keep KK19 (ninS (Ne.symm (Exa.neArv f12 Vs5 (w 107 _ rfl))) nin0))
  exact Wk.ret0' X13 hx hlk hr (hb hby d23_50) (by decide) (by decide) (Qc := Q_rm_adl Z d el hd tl tl' kE vs vs' w_ h0) e13 ⟨rfl, N13, (keepMore KK18 (by simp)), E13', f16, f17, Fw13, f20⟩
theorem d22_0 : decode jdk_21_method_28_code 0 = .ok (.aload_n 0, 1) := by decide +kernel
theorem d22_1 : decode jdk_21_method_28_code 1 = .ok (.aload_n 1, 1) := by decide +kernel
theorem d22_2 : decode jdk_21_method_28_code 2 = .ok (.invokevirtual 90, 3) := by decide +kernel
theorem pd20 : parseMethodDescriptor "(Ljava/lang/Object;)V" = some ⟨[(.object "java/lang/Object")], none⟩ := by decide +kernel
theorem d22_5 : decode jdk_21_method_28_code 5 = .ok (.iconst 1, 1) := by decide +kernel
theorem d22_6 : decode jdk_21_method_28_code 6 = .ok (.ireturn, 1) := by decide +kernel
def Q_rm_add (Z : State) (d : Addr) (el : Addr) (hd : Int32) (tl : Int32) (tl' : Int32) (kE : ClassId) (vs : List Value) (vs' : List Value) (w_ : Addr) (h0 : Heap) (v : Option Value) (h : Heap) (L : List Loc) : Prop := v = some (.int (1 : Int32)) ∧ Fk h0.size [d, el] L ∧ Keep h0 h [d, el] ∧ Exa Z h d "java/util/ArrayDeque" ∧ Fld Z h d "java/util/ArrayDeque" "elements" "[Ljava/lang/Object;" (.ref el) ∧ Fld Z h d "java/util/ArrayDeque" "head" "I" (.int hd) ∧ Fld Z h d "java/util/ArrayDeque" "tail" "I" (.int tl') ∧ Arv Z h el kE (.object "java/lang/Object") (17 : Int32) vs' .null
set_option maxRecDepth 65536 in
set_option maxHeartbeats 40000000 in
theorem rm_add (l : Launch) (Z : State) (a0 : Array Value) (hw : ∀ d ∈ tables_1, d.before a0 Z = true) (ws : List Jvm.Cond) (d : Addr) (el : Addr) (hd : Int32) (tl : Int32) (tl' : Int32) (kE : ClassId) (vs : List Value) (vs' : List Value) (w_ : Addr) (h0 : Heap) (O0 : Old Z Z.heap.size h0) (h0_ : Exa Z h0 d "java/util/ArrayDeque") (h1_ : Fld Z h0 d "java/util/ArrayDeque" "elements" "[Ljava/lang/Object;" (.ref el)) (h2_ : Fld Z h0 d "java/util/ArrayDeque" "head" "I" (.int hd)) (h3_ : Fld Z h0 d "java/util/ArrayDeque" "tail" "I" (.int tl)) (h4_ : Arv Z h0 el kE (.object "java/lang/Object") (17 : Int32) vs .null) (j0 : ¬ tl < 0) (j1 : tl < 17) (j2 : tl.toNatClampNeg < vs.length) (hz : tl + 1 = tl') (hlt : tl' < 17) (hn : ¬ hd = tl') (hvs : vs.set tl.toNatClampNeg (.ref w_) = vs') (od : Z.heap.size ≤ d) (oe : Z.heap.size ≤ el) (ov : Ovr Z kE "java/lang/Object") (hw_ : Exa Z h0 w_ "com/example/accumulus/accumulus/account/LoanAccount$Waiting") :
    Ctr l Z (⟨"java/util/ArrayDeque", "add", "(Ljava/lang/Object;)Z"⟩ : MethodName) jdk_21_method_28_code 2 (some .boolean) ws ({ frames := 2, cells := 0, slots := 0, locals := 29 } : Room) #[(.ref d), (.ref w_)] h0 (Q_rm_add Z d el hd tl tl' kE vs vs' w_ h0) := by
  refine Ctr.intro (Ls := fun _ => #[.val (.ref d), .val (.ref w_)]) (plainFor_of_name pn14) (fun m => by first | rfl | (simp [entryFrame, mkF, argsToLocals, Value.category]; done)) ?_
  intro p e s m below meth c s₁ hx hby hml hr hlk hZ hown hnm hs0 X0 e0
  have w : ∀ (k : Nat) (d : Jvm.Cond), tables_1[k]? = some d → d.before a0 Z = true := fun k d q => hw d (List.mem_of_getElem? q)
  have N0 := Fk.nil h0.size [d, el]
  refine Wk.aloadN X0 hx (hb hby d22_0) rfl rfl rfl ?_
  refine Wk.aloadN X0 hx (hb hby d22_1) rfl rfl rfl ?_
  refine Wk.callV X0 hx hZ (y := (⟨"java/util/ArrayDeque", "addLast", "(Ljava/lang/Object;)V"⟩ : MethodName)) (z := (⟨"java/util/ArrayDeque", "addLast", "(Ljava/lang/Object;)V"⟩ : MethodName)) hown (w 161 _ rfl) (w 162 _ rfl) (notFace_of_selects (args := #[]) (mvT hZ (w 164 _ rfl))) (w 164 _ rfl) (w 163 _ rfl) (by decide) (as' := [(.ref w_)]) (backOf (W := 0) (rm_adl l Z a0 hw [] d el hd tl tl' kE vs vs' w_ h0 O0 h0_ h1_ h2_ h3_ h4_ j0 j1 j2 hz hlt hn hvs od oe ov hw_) hZ (w 165 _ rfl) (w 108 _ rfl) (by decide) (by decide)) e0 h0_ (by rw [hml]; rfl) (rest := []) (lenOf pd20 rfl) rfl (Nat.le_of_eq rfl) (hb hby d22_2) rfl (by decide) (by decide) ?_
  intro T1 h1 v1 L1 X1 e1 hQ1
  obtain ⟨rfl, Nq1, K1, q1_0, q1_1, q1_2, q1_3, q1_4⟩ := hQ1
  have N1 := Fk.app N0 Nq1 (Nat.le_refl _) (allS (Or.inl (List.mem_of_getElem? (i := 0) rfl)) (allS (Or.inl (List.mem_of_getElem? (i := 1) rfl)) all0))
  have O2 : Old Z Z.heap.size h1 := O0.keep K1 (allS od (allS oe all0))
  show Wp p e below _ _ T1 (mkF m 5 #[.val (.ref d), .val (.ref w_)] [])
  refine Wk.iconst X1 hx (v := (1 : Int32)) (hb hby d22_5) rfl rfl ?_
  have KK3 : Keep h0 h1 [d, el] := ((Keep.refl h0 [d, el]).trans K1 (allS (Or.inl (List.mem_of_getElem? (i := 0) rfl)) (allS (Or.inl (List.mem_of_getElem? (i := 1) rfl)) all0)))
  exact Wk.retZ' X1 hx hlk hr (by simp) (hb hby d22_6) (by decide) (by decide) (Qc := Q_rm_add Z d el hd tl tl' kE vs vs' w_ h0) e1 ⟨rfl, N1, KK3, q1_0, q1_1, q1_2, q1_3, q1_4⟩
theorem d20_0 : decode prog_23_method_10_code 0 = .ok (.aload_n 0, 1) := by decide +kernel
theorem d20_1 : decode prog_23_method_10_code 1 = .ok (.getfield 19, 3) := by decide +kernel
theorem d20_4 : decode prog_23_method_10_code 4 = .ok (.new 138, 3) := by decide +kernel
theorem d20_7 : decode prog_23_method_10_code 7 = .ok (.dup, 1) := by decide +kernel
theorem d20_8 : decode prog_23_method_10_code 8 = .ok (.aload_n 1, 1) := by decide +kernel
theorem d20_9 : decode prog_23_method_10_code 9 = .ok (.aload_n 2, 1) := by decide +kernel
theorem d20_10 : decode prog_23_method_10_code 10 = .ok (.invokespecial 140, 3) := by decide +kernel
theorem pd21 : parseMethodDescriptor "(Lcom/example/accumulus/accumulus/journal/JournalEntry;Ljava/time/LocalDate;)V" = some ⟨[(.object "com/example/accumulus/accumulus/journal/JournalEntry"), (.object "java/time/LocalDate")], none⟩ := by decide +kernel
theorem d20_13 : decode prog_23_method_10_code 13 = .ok (.invokevirtual 143, 3) := by decide +kernel
theorem pd22 : parseMethodDescriptor "(Ljava/lang/Object;)Z" = some ⟨[(.object "java/lang/Object")], some .boolean⟩ := by decide +kernel
theorem d20_16 : decode prog_23_method_10_code 16 = .ok (.pop, 1) := by decide +kernel
theorem d20_17 : decode prog_23_method_10_code 17 = .ok (.return_, 1) := by decide +kernel
def Q_rm_awt (Z : State) (a : Addr) (d : Addr) (el : Addr) (hd : Int32) (tl : Int32) (tl' : Int32) (kE : ClassId) (vs : List Value) (dt : Addr) (h0 : Heap) (v : Option Value) (h : Heap) (L : List Loc) : Prop := ∃ w_ : Addr, v = none ∧ Fk h0.size [d, el] L ∧ Keep h0 h [d, el] ∧ h0.size ≤ w_ ∧ Exa Z h w_ "com/example/accumulus/accumulus/account/LoanAccount$Waiting" ∧ Fld Z h w_ "com/example/accumulus/accumulus/account/LoanAccount$Waiting" "pricingDate" "Ljava/time/LocalDate;" (.ref dt) ∧ Fld Z h w_ "com/example/accumulus/accumulus/account/LoanAccount$Waiting" "loan" "Lcom/example/accumulus/accumulus/journal/JournalEntry;" .null ∧ Exa Z h d "java/util/ArrayDeque" ∧ Fld Z h d "java/util/ArrayDeque" "elements" "[Ljava/lang/Object;" (.ref el) ∧ Fld Z h d "java/util/ArrayDeque" "head" "I" (.int hd) ∧ Fld Z h d "java/util/ArrayDeque" "tail" "I" (.int tl') ∧ Arv Z h el kE (.object "java/lang/Object") (17 : Int32) (vs.set tl.toNatClampNeg (.ref w_)) .null
set_option maxRecDepth 65536 in
set_option maxHeartbeats 40000000 in
theorem rm_awt (l : Launch) (Z : State) (a0 : Array Value) (hw : ∀ d ∈ tables_1, d.before a0 Z = true) (ws : List Jvm.Cond) (a : Addr) (d : Addr) (el : Addr) (hd : Int32) (tl : Int32) (tl' : Int32) (kE : ClassId) (vs : List Value) (dt : Addr) (h0 : Heap) (O0 : Old Z Z.heap.size h0) (gw : Fld Z h0 a "com/example/accumulus/accumulus/account/LoanAccount" "waiting" "Ljava/util/ArrayDeque;" (.ref d)) (h0_ : Exa Z h0 d "java/util/ArrayDeque") (h1_ : Fld Z h0 d "java/util/ArrayDeque" "elements" "[Ljava/lang/Object;" (.ref el)) (h2_ : Fld Z h0 d "java/util/ArrayDeque" "head" "I" (.int hd)) (h3_ : Fld Z h0 d "java/util/ArrayDeque" "tail" "I" (.int tl)) (h4_ : Arv Z h0 el kE (.object "java/lang/Object") (17 : Int32) vs .null) (j0 : ¬ tl < 0) (j1 : tl < 17) (j2 : tl.toNatClampNeg < vs.length) (hz : tl + 1 = tl') (hlt : tl' < 17) (hn : ¬ hd = tl') (od : Z.heap.size ≤ d) (oe : Z.heap.size ≤ el) (ov : Ovr Z kE "java/lang/Object") :
    Ctr l Z (⟨"com/example/accumulus/accumulus/account/LoanAccount", "await", "(Lcom/example/accumulus/accumulus/journal/JournalEntry;Ljava/time/LocalDate;)V"⟩ : MethodName) prog_23_method_10_code 3 none ws ({ frames := 3, cells := 1, slots := 2, locals := 42 } : Room) #[(.ref a), .null, (.ref dt)] h0 (Q_rm_awt Z a d el hd tl tl' kE vs dt h0) := by
  refine Ctr.intro (Ls := fun _ => #[.val (.ref a), .val .null, .val (.ref dt)]) (plainFor_of_name pn15) (fun m => by first | rfl | (simp [entryFrame, mkF, argsToLocals, Value.category]; done)) ?_
  intro p e s m below meth c s₁ hx hby hml hr hlk hZ hown hnm hs0 X0 e0
  have w : ∀ (k : Nat) (d : Jvm.Cond), tables_1[k]? = some d → d.before a0 Z = true := fun k d q => hw d (List.mem_of_getElem? q)
  have N0 := Fk.nil h0.size [d, el]
  refine Wk.aloadN X0 hx (hb hby d20_0) rfl rfl rfl ?_
  refine Wk.getfield X0 hx hZ hown (host := "") (Or.inl (w 118 _ rfl)) Via.refl e0 gw (hb hby d20_1) rfl ?_
  intro T1 X1 e1
  refine Wk.new X1 hx hZ hown (w 145 _ rfl) (w 146 _ rfl) (w 147 _ rfl) e1 (hb hby d20_4) rfl (by decide) (by decide) ?_
  intro T2 h2 a2 g2 X2 e2 E2 A2 D2
  have O3 : Old Z Z.heap.size h2 := O0.ext E2
  have f4 : Fld Z h2 a2 "com/example/accumulus/accumulus/account/LoanAccount$Waiting" "loan" "Lcom/example/accumulus/accumulus/journal/JournalEntry;" .null := D2 (Or.inr (w 153 _ rfl)) (ty := (.object "com/example/accumulus/accumulus/journal/JournalEntry")) (by decide)
  have f5 : Fld Z h2 a2 "com/example/accumulus/accumulus/account/LoanAccount$Waiting" "pricingDate" "Ljava/time/LocalDate;" .null := D2 (Or.inr (w 155 _ rfl)) (ty := (.object "java/time/LocalDate")) (by decide)
  refine Wk.dup X2 hx (hb hby d20_7) rfl rfl ?_
  refine Wk.aloadN X2 hx (hb hby d20_8) rfl rfl rfl ?_
  refine Wk.aloadN X2 hx (hb hby d20_9) rfl rfl rfl ?_
  refine Wk.callI X2 hx hZ rfl hown (w 148 _ rfl) (w 149 _ rfl) (w 150 _ rfl) (by decide) (as' := [.null, (.ref dt)]) (backOf (W := 2) (rm_wai l Z a0 hw [] a2 dt h2 O3 A2 f4 f5 (Nat.le_trans (Nat.le_trans (Nat.le_trans (Nat.le_of_eq O0.1.symm) O0.2.1) (Keep.refl h0 []).1) (Nat.le_of_eq g2))) hZ (w 150 _ rfl) (w 147 _ rfl) (by decide) (by decide)) e2 (by rw [hml]; rfl) (rest := [(.ref a2), (.ref d)]) (lenOf pd21 rfl) rfl (Nat.le_of_eq rfl) (hb hby d20_10) rfl (by decide) (by decide) ?_
  intro T6 h6 v6 L6 X6 e6 hQ6
  obtain ⟨rfl, Nq6, K6, q6_0, q6_1, q6_2⟩ := hQ6
  have KK7 : Keep h0 h2 [] := ((Keep.refl h0 []).ext E2)
  have N6 := Fk.app N0 Nq6 KK7.1 (allS (Or.inr (Nat.le_of_eq g2)) all0)
  have O8 : Old Z Z.heap.size h6 := O3.keep K6 (allS (Nat.le_trans (Nat.le_trans (Nat.le_trans (Nat.le_of_eq O0.1.symm) O0.2.1) (Keep.refl h0 []).1) (Nat.le_of_eq g2)) all0)
  show Wp p e below _ _ T6 (mkF m 13 #[.val (.ref a), .val .null, .val (.ref dt)] [(.ref a2), (.ref d)])
  have KK9 : Keep h0 h6 [] := (KK7.trans K6 (allS (Or.inr (Nat.le_of_eq g2)) all0))
  have f10 : Exa Z h6 d "java/util/ArrayDeque" := (h0_.keep KK9)
  have f11 : Fld Z h6 d "java/util/ArrayDeque" "elements" "[Ljava/lang/Object;" (.ref el) := (h1_.keep KK9 nin0)
  have f12 : Fld Z h6 d "java/util/ArrayDeque" "head" "I" (.int hd) := (h2_.keep KK9 nin0)
  have f13 : Fld Z h6 d "java/util/ArrayDeque" "tail" "I" (.int tl) := (h3_.keep KK9 nin0)
  have f14 : Arv Z h6 el kE (.object "java/lang/Object") (17 : Int32) vs .null := (h4_.keep KK9 nin0)
  refine Wk.callV X6 hx hZ (y := (⟨"java/util/ArrayDeque", "add", "(Ljava/lang/Object;)Z"⟩ : MethodName)) (z := (⟨"java/util/ArrayDeque", "add", "(Ljava/lang/Object;)Z"⟩ : MethodName)) hown (w 156 _ rfl) (w 157 _ rfl) (notFace_of_selects (args := #[]) (mvT hZ (w 159 _ rfl))) (w 159 _ rfl) (w 158 _ rfl) (by decide) (as' := [(.ref a2)]) (backOf (W := 0) (rm_add l Z a0 hw [] d el hd tl tl' kE vs (vs.set tl.toNatClampNeg (.ref a2)) a2 h6 O8 f10 f11 f12 f13 f14 j0 j1 j2 hz hlt hn (by first | assumption | rfl | decide | exact Nat.le_of_ble_eq_true rfl) od oe ov q6_0) hZ (w 160 _ rfl) (w 108 _ rfl) (by decide) (by decide)) e6 f10 (by rw [hml]; rfl) (rest := []) (lenOf pd22 rfl) rfl (Nat.le_of_eq rfl) (hb hby d20_13) rfl (by decide) (by decide) ?_
  intro T15 h15 v15 L15 X15 e15 hQ15
  obtain ⟨rfl, Nq15, K15, q15_0, q15_1, q15_2, q15_3, q15_4⟩ := hQ15
  have N15 := Fk.app N6 Nq15 KK9.1 (allS (Or.inl (List.mem_of_getElem? (i := 0) rfl)) (allS (Or.inl (List.mem_of_getElem? (i := 1) rfl)) all0))
  have O16 : Old Z Z.heap.size h15 := O8.keep K15 (allS od (allS oe all0))
  show Wp p e below _ _ T15 (mkF m 16 #[.val (.ref a), .val .null, .val (.ref dt)] [(.int (1 : Int32))])
  refine Wk.pop X15 hx (hb hby d20_16) rfl rfl ?_
  have KK17 : Keep h0 h15 [d, el] := ((((Keep.refl h0 [d, el]).ext E2).trans K6 (allS (Or.inr (Nat.le_of_eq g2)) all0)).trans K15 (allS (Or.inl (List.mem_of_getElem? (i := 0) rfl)) (allS (Or.inl (List.mem_of_getElem? (i := 1) rfl)) all0)))
  have KK18 : Keep h6 h15 [d, el] := ((Keep.refl h6 [d, el]).trans K15 (allS (Or.inl (List.mem_of_getElem? (i := 0) rfl)) (allS (Or.inl (List.mem_of_getElem? (i := 1) rfl)) all0)))
  have f19 : Exa Z h15 a2 "com/example/accumulus/accumulus/account/LoanAccount$Waiting" := (q6_0.keep KK18)
  have f20 : Fld Z h15 a2 "com/example/accumulus/accumulus/account/LoanAccount$Waiting" "pricingDate" "Ljava/time/LocalDate;" (.ref dt) := (q6_1.keep KK18 (ninS (Ne.symm (Nat.ne_of_lt (Nat.lt_of_lt_of_le h0_.lt (Nat.le_of_eq g2)))) (ninS (Exa.neArv f19 q15_4 (w 146 _ rfl)) nin0)))
  have f21 : Fld Z h15 a2 "com/example/accumulus/accumulus/account/LoanAccount$Waiting" "loan" "Lcom/example/accumulus/accumulus/journal/JournalEntry;" .null := (q6_2.keep KK18 (ninS (Ne.symm (Nat.ne_of_lt (Nat.lt_of_lt_of_le h0_.lt (Nat.le_of_eq g2)))) (ninS (Exa.neArv f19 q15_4 (w 146 _ rfl)) nin0)))
  exact Wk.ret0' X15 hx hlk hr (hb hby d20_17) (by decide) (by decide) (Qc := Q_rm_awt Z a d el hd tl tl' kE vs dt h0) e15 ⟨a2, rfl, N15, KK17, (Nat.le_of_eq g2), f19, f20, f21, q15_0, q15_1, q15_2, q15_3, q15_4⟩
theorem d30_0 : decode jdk_21_method_20_code 0 = .ok (.aload_n 0, 1) := by decide +kernel
theorem d30_1 : decode jdk_21_method_20_code 1 = .ok (.getfield 3, 3) := by decide +kernel
theorem d30_4 : decode jdk_21_method_20_code 4 = .ok (.dup, 1) := by decide +kernel
theorem d30_5 : decode jdk_21_method_20_code 5 = .ok (.astore_n 1, 1) := by decide +kernel
theorem d30_6 : decode jdk_21_method_20_code 6 = .ok (.aload_n 0, 1) := by decide +kernel
theorem d30_7 : decode jdk_21_method_20_code 7 = .ok (.getfield 24, 3) := by decide +kernel
theorem d30_10 : decode jdk_21_method_20_code 10 = .ok (.dup, 1) := by decide +kernel
theorem d30_11 : decode jdk_21_method_20_code 11 = .ok (.istore_n 2, 1) := by decide +kernel
theorem d30_12 : decode jdk_21_method_20_code 12 = .ok (.invokestatic 103, 3) := by decide +kernel
theorem d30_15 : decode jdk_21_method_20_code 15 = .ok (.astore_n 3, 1) := by decide +kernel
theorem d30_16 : decode jdk_21_method_20_code 16 = .ok (.aload_n 3, 1) := by decide +kernel
theorem d30_17 : decode jdk_21_method_20_code 17 = .ok (.ifnull 17, 3) := by decide +kernel
theorem d30_20 : decode jdk_21_method_20_code 20 = .ok (.aload_n 1, 1) := by decide +kernel
theorem d30_21 : decode jdk_21_method_20_code 21 = .ok (.iload_n 2, 1) := by decide +kernel
theorem d30_22 : decode jdk_21_method_20_code 22 = .ok (.aconst_null, 1) := by decide +kernel
theorem d30_23 : decode jdk_21_method_20_code 23 = .ok (.aastore, 1) := by decide +kernel
theorem d30_24 : decode jdk_21_method_20_code 24 = .ok (.aload_n 0, 1) := by decide +kernel
theorem d30_25 : decode jdk_21_method_20_code 25 = .ok (.iload_n 2, 1) := by decide +kernel
theorem d30_26 : decode jdk_21_method_20_code 26 = .ok (.aload_n 1, 1) := by decide +kernel
theorem d30_27 : decode jdk_21_method_20_code 27 = .ok (.arraylength, 1) := by decide +kernel
theorem d30_28 : decode jdk_21_method_20_code 28 = .ok (.invokestatic 74, 3) := by decide +kernel
theorem d30_31 : decode jdk_21_method_20_code 31 = .ok (.putfield 24, 3) := by decide +kernel
theorem d30_34 : decode jdk_21_method_20_code 34 = .ok (.aload_n 3, 1) := by decide +kernel
theorem d30_35 : decode jdk_21_method_20_code 35 = .ok (.areturn, 1) := by decide +kernel
def Q_rm_pf (Z : State) (d : Addr) (el : Addr) (hd : Int32) (hd' : Int32) (tl : Int32) (kE : ClassId) (vs : List Value) (w_ : Addr) (h0 : Heap) (v : Option Value) (h : Heap) (L : List Loc) : Prop := v = some (.ref w_) ∧ Fk h0.size [el, d] L ∧ Keep h0 h [el, d] ∧ Exa Z h d "java/util/ArrayDeque" ∧ Fld Z h d "java/util/ArrayDeque" "elements" "[Ljava/lang/Object;" (.ref el) ∧ Fld Z h d "java/util/ArrayDeque" "head" "I" (.int hd') ∧ Fld Z h d "java/util/ArrayDeque" "tail" "I" (.int tl) ∧ Arv Z h el kE (.object "java/lang/Object") (17 : Int32) (vs.set hd.toNatClampNeg .null) .null
set_option maxRecDepth 65536 in
set_option maxHeartbeats 40000000 in
theorem rm_pf (l : Launch) (Z : State) (a0 : Array Value) (hw : ∀ d ∈ tables_1, d.before a0 Z = true) (ws : List Jvm.Cond) (d : Addr) (el : Addr) (hd : Int32) (hd' : Int32) (tl : Int32) (kE : ClassId) (vs : List Value) (w_ : Addr) (h0 : Heap) (O0 : Old Z Z.heap.size h0) (h0_ : Exa Z h0 d "java/util/ArrayDeque") (h1_ : Fld Z h0 d "java/util/ArrayDeque" "elements" "[Ljava/lang/Object;" (.ref el)) (h2_ : Fld Z h0 d "java/util/ArrayDeque" "head" "I" (.int hd)) (h3_ : Fld Z h0 d "java/util/ArrayDeque" "tail" "I" (.int tl)) (h4_ : Arv Z h0 el kE (.object "java/lang/Object") (17 : Int32) vs .null) (i0 : ¬ hd < 0) (i1 : hd < 17) (ge : vs.getD hd.toNatClampNeg .null = .ref w_) (i2 : hd.toNatClampNeg < vs.length) (hz : hd + 1 = hd') (hlt : hd' < 17) (od : Z.heap.size ≤ d) (oe : Z.heap.size ≤ el) (ov : Ovr Z kE "java/lang/Object") :
    Ctr l Z (⟨"java/util/ArrayDeque", "pollFirst", "()Ljava/lang/Object;"⟩ : MethodName) jdk_21_method_20_code 4 (some (.object "java/lang/Object")) ws ({ frames := 1, cells := 0, slots := 0, locals := 14 } : Room) #[(.ref d)] h0 (Q_rm_pf Z d el hd hd' tl kE vs w_ h0) := by
  refine Ctr.intro (Ls := fun _ => #[.val (.ref d), .unset, .unset, .unset]) (plainFor_of_name pn14) (fun m => by first | rfl | (simp [entryFrame, mkF, argsToLocals, Value.category]; done)) ?_
  intro p e s m below meth c s₁ hx hby hml hr hlk hZ hown hnm hs0 X0 e0
  have w : ∀ (k : Nat) (d : Jvm.Cond), tables_1[k]? = some d → d.before a0 Z = true := fun k d q => hw d (List.mem_of_getElem? q)
  have N0 := Fk.nil h0.size [el, d]
  refine Wk.aloadN X0 hx (hb hby d30_0) rfl rfl rfl ?_
  refine Wk.getfield X0 hx hZ hown (host := "") (Or.inl (w 116 _ rfl)) Via.refl e0 h1_ (hb hby d30_1) rfl ?_
  intro T1 X1 e1
  refine Wk.dup X1 hx (hb hby d30_4) rfl rfl ?_
  refine Wk.astoreN X1 hx (Ls' := #[.val (.ref d), .val (.ref el), .unset, .unset]) (hb hby d30_5) rfl rfl rfl ?_
  refine Wk.aloadN X1 hx (hb hby d30_6) rfl rfl rfl ?_
  refine Wk.getfield X1 hx hZ hown (host := "") (Or.inl (w 135 _ rfl)) Via.refl e1 h2_ (hb hby d30_7) rfl ?_
  intro T2 X2 e2
  refine Wk.dup X2 hx (hb hby d30_10) rfl rfl ?_
  refine Wk.istoreN X2 hx (Ls' := #[.val (.ref d), .val (.ref el), .val (.int hd), .unset]) (hb hby d30_11) rfl rfl ?_
  refine Wk.callS X2 hx hZ hown (w 137 _ rfl) (w 138 _ rfl) (w 108 _ rfl) (w 139 _ rfl) (by decide) (as' := [(.ref el), (.int hd)]) (backOf (W := 0) (rm_elt l Z a0 hw [] el hd kE vs (.ref w_) h0 O0 h4_ i0 i1 (by first | assumption | rfl | decide | exact Nat.le_of_ble_eq_true rfl) (by first | assumption | rfl | decide | exact Nat.le_of_ble_eq_true rfl)) hZ (w 139 _ rfl) (w 108 _ rfl) (by decide) (by decide)) e2 (by rw [hml]; rfl) (rest := []) (lenOf pd16 rfl) rfl (Nat.le_of_eq rfl) (hb hby d30_12) rfl (by decide) (by decide) ?_
  intro T3 h3 v3 L3 X3 e3 hQ3
  obtain ⟨rfl, Nq3, K3⟩ := hQ3
  have N3 := Fk.app N0 Nq3 (Nat.le_refl _) all0
  rw [K3] at e3
  show Wp p e below _ _ T3 (mkF m 15 #[.val (.ref d), .val (.ref el), .val (.int hd), .unset] [(.ref w_)])
  refine Wk.astoreN X3 hx (Ls' := #[.val (.ref d), .val (.ref el), .val (.int hd), .val (.ref w_)]) (hb hby d30_15) rfl rfl rfl ?_
  refine Wk.aloadN X3 hx (hb hby d30_16) rfl rfl rfl ?_
  refine Wk.ifnullNo X3 hx (hb hby d30_17) rfl ?_
  refine Wk.aloadN X3 hx (hb hby d30_20) rfl rfl rfl ?_
  refine Wk.iloadN X3 hx (hb hby d30_21) rfl rfl ?_
  refine Wk.aconstNull X3 hx (hb hby d30_22) rfl ?_
  refine Wk.aastore X3 hx hZ e3 h4_ rfl rfl (Or.inl rfl) i0 i1 hd.toNatClampNeg rfl i2 (hb hby d30_23) rfl ?_
  intro T4 h4 L4 M4 X4 e4 W4 A4
  have N4 := M4 _ _ N3 (Or.inl (List.mem_of_getElem? (i := 0) rfl))
  have O5 : Old Z Z.heap.size h4 := O0.wr W4 oe
  have V4 : Arv Z h4 el kE (.object "java/lang/Object") (17 : Int32) (vs.set hd.toNatClampNeg .null) .null := A4
  refine Wk.aloadN X4 hx (hb hby d30_24) rfl rfl rfl ?_
  refine Wk.iloadN X4 hx (hb hby d30_25) rfl rfl ?_
  refine Wk.aloadN X4 hx (hb hby d30_26) rfl rfl rfl ?_
  refine Wk.arraylength X4 hx hZ e4 V4 (hb hby d30_27) rfl ?_
  refine Wk.callS X4 hx hZ hown (w 169 _ rfl) (w 170 _ rfl) (w 108 _ rfl) (w 171 _ rfl) (by decide) (as' := [(.int hd), (.int (17 : Int32))]) (backOf (W := 1) (rm_inc l Z a0 hw [] hd (17 : Int32) hd' h4 O5 hz (by first | assumption | rfl | decide | exact Nat.le_of_ble_eq_true rfl)) hZ (w 171 _ rfl) (w 108 _ rfl) (by decide) (by decide)) e4 (by rw [hml]; rfl) (rest := [(.ref d)]) (lenOf pd19 rfl) rfl (Nat.le_of_eq rfl) (hb hby d30_28) rfl (by decide) (by decide) ?_
  intro T6 h6 v6 L6 X6 e6 hQ6
  obtain ⟨rfl, Nq6, K6⟩ := hQ6
  have KK7 : Keep h0 h4 [el] := ((Keep.refl h0 [el]).wr W4 (Or.inl (List.mem_of_getElem? (i := 0) rfl)))
  have N6 := Fk.app N4 Nq6 KK7.1 all0
  rw [K6] at e6
  show Wp p e below _ _ T6 (mkF m 31 #[.val (.ref d), .val (.ref el), .val (.int hd), .val (.ref w_)] [(.int hd'), (.ref d)])
  have f8 : Exa Z h4 d "java/util/ArrayDeque" := (h0_.keep KK7)
  have f9 : Fld Z h4 d "java/util/ArrayDeque" "head" "I" (.int hd) := (h2_.keep KK7 (ninS (Exa.neArv f8 V4 (w 107 _ rfl)) nin0))
  have f11 : Fld Z h4 d "java/util/ArrayDeque" "elements" "[Ljava/lang/Object;" (.ref el) := (h1_.keep KK7 (ninS (Exa.neArv f8 V4 (w 107 _ rfl)) nin0))
  have f12 : Fld Z h4 d "java/util/ArrayDeque" "tail" "I" (.int tl) := (h3_.keep KK7 (ninS (Exa.neArv f8 V4 (w 107 _ rfl)) nin0))
  refine Wk.putfield X6 hx hZ hown (host := "") (Or.inl (w 135 _ rfl)) Via.refl e6 f9 f8 (Or.inl (w 136 _ rfl)) (w 107 _ rfl) (ty := .int) (by decide) rfl rfl (hb hby d30_31) rfl ?_
  intro T10 h10 L10 M10 X10 e10 W10 Fw10
  have N10 := M10 _ _ N6 (Or.inl (List.mem_of_getElem? (i := 1) rfl))
  have O13 : Old Z Z.heap.size h10 := O5.wr W10 od
  have f14 : Fld Z h10 d "java/util/ArrayDeque" "elements" "[Ljava/lang/Object;" (.ref el) := f11.other W10 (Or.inr (slot_ne (Or.inl (w 117 _ rfl)) (Or.inl (w 136 _ rfl)) (by decide) (t := (.array (.object "java/lang/Object"))) (t' := .int) (by decide) (by decide)))
  have f15 : Fld Z h10 d "java/util/ArrayDeque" "tail" "I" (.int tl) := f12.other W10 (Or.inr (slot_ne (Or.inl (w 167 _ rfl)) (Or.inl (w 136 _ rfl)) (by decide) (t := .int) (t' := .int) (by decide) (by decide)))
  have E10' : Exa Z h10 d "java/util/ArrayDeque" := f8.wr W10
  refine Wk.aloadN X10 hx (hb hby d30_34) rfl rfl rfl ?_
  have KK16 : Keep h0 h10 [el, d] := (((Keep.refl h0 [el, d]).wr W4 (Or.inl (List.mem_of_getElem? (i := 0) rfl))).wr W10 (Or.inl (List.mem_of_getElem? (i := 1) rfl)))
  have KK17 : Keep h4 h10 [d] := ((Keep.refl h4 [d]).wr W10 (Or.inl (List.mem_of_getElem? (i := 0) rfl)))
  have f18 : Arv Z h10 el kE (.object "java/lang/Object") (17 : Int32) (vs.set hd.toNatClampNeg .null) .null := (V4.keep KK17 (ninS (Ne.symm (Exa.neArv f8 V4 (w 107 _ rfl))) nin0))
  exact Wk.retA' X10 hx hlk hr rfl rfl (hb hby d30_35) (by decide) (by decide) (Qc := Q_rm_pf Z d el hd hd' tl kE vs w_ h0) e10 ⟨rfl, N10, KK16, E10', f14, Fw10, f15, f18⟩
theorem d29_0 : decode jdk_21_method_18_code 0 = .ok (.aload_n 0, 1) := by decide +kernel
theorem d29_1 : decode jdk_21_method_18_code 1 = .ok (.invokevirtual 93, 3) := by decide +kernel
theorem d29_4 : decode jdk_21_method_18_code 4 = .ok (.astore_n 1, 1) := by decide +kernel
theorem d29_5 : decode jdk_21_method_18_code 5 = .ok (.aload_n 1, 1) := by decide +kernel
theorem d29_6 : decode jdk_21_method_18_code 6 = .ok (.ifnonnull 11, 3) := by decide +kernel
theorem d29_17 : decode jdk_21_method_18_code 17 = .ok (.aload_n 1, 1) := by decide +kernel
theorem d29_18 : decode jdk_21_method_18_code 18 = .ok (.areturn, 1) := by decide +kernel
def Q_rm_rf (Z : State) (d : Addr) (el : Addr) (hd : Int32) (hd' : Int32) (tl : Int32) (kE : ClassId) (vs : List Value) (w_ : Addr) (h0 : Heap) (v : Option Value) (h : Heap) (L : List Loc) : Prop := v = some (.ref w_) ∧ Fk h0.size [el, d] L ∧ Keep h0 h [el, d] ∧ Exa Z h d "java/util/ArrayDeque" ∧ Fld Z h d "java/util/ArrayDeque" "elements" "[Ljava/lang/Object;" (.ref el) ∧ Fld Z h d "java/util/ArrayDeque" "head" "I" (.int hd') ∧ Fld Z h d "java/util/ArrayDeque" "tail" "I" (.int tl) ∧ Arv Z h el kE (.object "java/lang/Object") (17 : Int32) (vs.set hd.toNatClampNeg .null) .null
set_option maxRecDepth 65536 in
set_option maxHeartbeats 40000000 in
theorem rm_rf (l : Launch) (Z : State) (a0 : Array Value) (hw : ∀ d ∈ tables_1, d.before a0 Z = true) (ws : List Jvm.Cond) (d : Addr) (el : Addr) (hd : Int32) (hd' : Int32) (tl : Int32) (kE : ClassId) (vs : List Value) (w_ : Addr) (h0 : Heap) (O0 : Old Z Z.heap.size h0) (h0_ : Exa Z h0 d "java/util/ArrayDeque") (h1_ : Fld Z h0 d "java/util/ArrayDeque" "elements" "[Ljava/lang/Object;" (.ref el)) (h2_ : Fld Z h0 d "java/util/ArrayDeque" "head" "I" (.int hd)) (h3_ : Fld Z h0 d "java/util/ArrayDeque" "tail" "I" (.int tl)) (h4_ : Arv Z h0 el kE (.object "java/lang/Object") (17 : Int32) vs .null) (i0 : ¬ hd < 0) (i1 : hd < 17) (ge : vs.getD hd.toNatClampNeg .null = .ref w_) (i2 : hd.toNatClampNeg < vs.length) (hz : hd + 1 = hd') (hlt : hd' < 17) (od : Z.heap.size ≤ d) (oe : Z.heap.size ≤ el) (ov : Ovr Z kE "java/lang/Object") :
    Ctr l Z (⟨"java/util/ArrayDeque", "removeFirst", "()Ljava/lang/Object;"⟩ : MethodName) jdk_21_method_18_code 2 (some (.object "java/lang/Object")) ws ({ frames := 2, cells := 0, slots := 0, locals := 29 } : Room) #[(.ref d)] h0 (Q_rm_rf Z d el hd hd' tl kE vs w_ h0) := by
  refine Ctr.intro (Ls := fun _ => #[.val (.ref d), .unset]) (plainFor_of_name pn14) (fun m => by first | rfl | (simp [entryFrame, mkF, argsToLocals, Value.category]; done)) ?_
  intro p e s m below meth c s₁ hx hby hml hr hlk hZ hown hnm hs0 X0 e0
  have w : ∀ (k : Nat) (d : Jvm.Cond), tables_1[k]? = some d → d.before a0 Z = true := fun k d q => hw d (List.mem_of_getElem? q)
  have N0 := Fk.nil h0.size [el, d]
  refine Wk.aloadN X0 hx (hb hby d29_0) rfl rfl rfl ?_
  refine Wk.callV X0 hx hZ (y := (⟨"java/util/ArrayDeque", "pollFirst", "()Ljava/lang/Object;"⟩ : MethodName)) (z := (⟨"java/util/ArrayDeque", "pollFirst", "()Ljava/lang/Object;"⟩ : MethodName)) hown (w 198 _ rfl) (w 199 _ rfl) (notFace_of_selects (args := #[]) (mvT hZ (w 201 _ rfl))) (w 201 _ rfl) (w 200 _ rfl) (by decide) (as' := []) (backOf (W := 0) (rm_pf l Z a0 hw [] d el hd hd' tl kE vs w_ h0 O0 h0_ h1_ h2_ h3_ h4_ i0 i1 ge i2 hz hlt od oe ov) hZ (w 202 _ rfl) (w 108 _ rfl) (by decide) (by decide)) e0 h0_ (by rw [hml]; rfl) (rest := []) (lenOf pd17 rfl) rfl (Nat.le_of_eq rfl) (hb hby d29_1) rfl (by decide) (by decide) ?_
  intro T1 h1 v1 L1 X1 e1 hQ1
  obtain ⟨rfl, Nq1, K1, q1_0, q1_1, q1_2, q1_3, q1_4⟩ := hQ1
  have N1 := Fk.app N0 Nq1 (Nat.le_refl _) (allS (Or.inl (List.mem_of_getElem? (i := 0) rfl)) (allS (Or.inl (List.mem_of_getElem? (i := 1) rfl)) all0))
  have O2 : Old Z Z.heap.size h1 := O0.keep K1 (allS oe (allS od all0))
  show Wp p e below _ _ T1 (mkF m 4 #[.val (.ref d), .unset] [(.ref w_)])
  refine Wk.astoreN X1 hx (Ls' := #[.val (.ref d), .val (.ref w_)]) (hb hby d29_4) rfl rfl rfl ?_
  refine Wk.aloadN X1 hx (hb hby d29_5) rfl rfl rfl ?_
  refine Wk.ifnonnullYes X1 hx (hb hby d29_6) (by decide) (q := 17) rfl ?_
  refine Wk.aloadN X1 hx (hb hby d29_17) rfl rfl rfl ?_
  have KK3 : Keep h0 h1 [el, d] := ((Keep.refl h0 [el, d]).trans K1 (allS (Or.inl (List.mem_of_getElem? (i := 0) rfl)) (allS (Or.inl (List.mem_of_getElem? (i := 1) rfl)) all0)))
  exact Wk.retA' X1 hx hlk hr rfl rfl (hb hby d29_18) (by decide) (by decide) (Qc := Q_rm_rf Z d el hd hd' tl kE vs w_ h0) e1 ⟨rfl, N1, KK3, q1_0, q1_1, q1_2, q1_3, q1_4⟩
theorem d28_0 : decode jdk_21_method_30_code 0 = .ok (.aload_n 0, 1) := by decide +kernel
theorem d28_1 : decode jdk_21_method_30_code 1 = .ok (.invokevirtual 118, 3) := by decide +kernel
theorem d28_4 : decode jdk_21_method_30_code 4 = .ok (.areturn, 1) := by decide +kernel
def Q_rm_rm (Z : State) (d : Addr) (el : Addr) (hd : Int32) (hd' : Int32) (tl : Int32) (kE : ClassId) (vs : List Value) (w_ : Addr) (h0 : Heap) (v : Option Value) (h : Heap) (L : List Loc) : Prop := v = some (.ref w_) ∧ Fk h0.size [el, d] L ∧ Keep h0 h [el, d] ∧ Exa Z h d "java/util/ArrayDeque" ∧ Fld Z h d "java/util/ArrayDeque" "elements" "[Ljava/lang/Object;" (.ref el) ∧ Fld Z h d "java/util/ArrayDeque" "head" "I" (.int hd') ∧ Fld Z h d "java/util/ArrayDeque" "tail" "I" (.int tl) ∧ Arv Z h el kE (.object "java/lang/Object") (17 : Int32) (vs.set hd.toNatClampNeg .null) .null
set_option maxRecDepth 65536 in
set_option maxHeartbeats 40000000 in
theorem rm_rm (l : Launch) (Z : State) (a0 : Array Value) (hw : ∀ d ∈ tables_1, d.before a0 Z = true) (ws : List Jvm.Cond) (d : Addr) (el : Addr) (hd : Int32) (hd' : Int32) (tl : Int32) (kE : ClassId) (vs : List Value) (w_ : Addr) (h0 : Heap) (O0 : Old Z Z.heap.size h0) (h0_ : Exa Z h0 d "java/util/ArrayDeque") (h1_ : Fld Z h0 d "java/util/ArrayDeque" "elements" "[Ljava/lang/Object;" (.ref el)) (h2_ : Fld Z h0 d "java/util/ArrayDeque" "head" "I" (.int hd)) (h3_ : Fld Z h0 d "java/util/ArrayDeque" "tail" "I" (.int tl)) (h4_ : Arv Z h0 el kE (.object "java/lang/Object") (17 : Int32) vs .null) (i0 : ¬ hd < 0) (i1 : hd < 17) (ge : vs.getD hd.toNatClampNeg .null = .ref w_) (i2 : hd.toNatClampNeg < vs.length) (hz : hd + 1 = hd') (hlt : hd' < 17) (od : Z.heap.size ≤ d) (oe : Z.heap.size ≤ el) (ov : Ovr Z kE "java/lang/Object") :
    Ctr l Z (⟨"java/util/ArrayDeque", "remove", "()Ljava/lang/Object;"⟩ : MethodName) jdk_21_method_30_code 1 (some (.object "java/lang/Object")) ws ({ frames := 3, cells := 0, slots := 0, locals := 42 } : Room) #[(.ref d)] h0 (Q_rm_rm Z d el hd hd' tl kE vs w_ h0) := by
  refine Ctr.intro (Ls := fun _ => #[.val (.ref d)]) (plainFor_of_name pn14) (fun m => by first | rfl | (simp [entryFrame, mkF, argsToLocals, Value.category]; done)) ?_
  intro p e s m below meth c s₁ hx hby hml hr hlk hZ hown hnm hs0 X0 e0
  have w : ∀ (k : Nat) (d : Jvm.Cond), tables_1[k]? = some d → d.before a0 Z = true := fun k d q => hw d (List.mem_of_getElem? q)
  have N0 := Fk.nil h0.size [el, d]
  refine Wk.aloadN X0 hx (hb hby d28_0) rfl rfl rfl ?_
  refine Wk.callV X0 hx hZ (y := (⟨"java/util/ArrayDeque", "removeFirst", "()Ljava/lang/Object;"⟩ : MethodName)) (z := (⟨"java/util/ArrayDeque", "removeFirst", "()Ljava/lang/Object;"⟩ : MethodName)) hown (w 193 _ rfl) (w 194 _ rfl) (notFace_of_selects (args := #[]) (mvT hZ (w 196 _ rfl))) (w 196 _ rfl) (w 195 _ rfl) (by decide) (as' := []) (backOf (W := 0) (rm_rf l Z a0 hw [] d el hd hd' tl kE vs w_ h0 O0 h0_ h1_ h2_ h3_ h4_ i0 i1 ge i2 hz hlt od oe ov) hZ (w 197 _ rfl) (w 108 _ rfl) (by decide) (by decide)) e0 h0_ (by rw [hml]; rfl) (rest := []) (lenOf pd17 rfl) rfl (Nat.le_of_eq rfl) (hb hby d28_1) rfl (by decide) (by decide) ?_
  intro T1 h1 v1 L1 X1 e1 hQ1
  obtain ⟨rfl, Nq1, K1, q1_0, q1_1, q1_2, q1_3, q1_4⟩ := hQ1
  have N1 := Fk.app N0 Nq1 (Nat.le_refl _) (allS (Or.inl (List.mem_of_getElem? (i := 0) rfl)) (allS (Or.inl (List.mem_of_getElem? (i := 1) rfl)) all0))
  have O2 : Old Z Z.heap.size h1 := O0.keep K1 (allS oe (allS od all0))
  show Wp p e below _ _ T1 (mkF m 4 #[.val (.ref d)] [(.ref w_)])
  have KK3 : Keep h0 h1 [el, d] := ((Keep.refl h0 [el, d]).trans K1 (allS (Or.inl (List.mem_of_getElem? (i := 0) rfl)) (allS (Or.inl (List.mem_of_getElem? (i := 1) rfl)) all0)))
  exact Wk.retA' X1 hx hlk hr rfl rfl (hb hby d28_4) (by decide) (by decide) (Qc := Q_rm_rm Z d el hd hd' tl kE vs w_ h0) e1 ⟨rfl, N1, KK3, q1_0, q1_1, q1_2, q1_3, q1_4⟩
theorem d27_0 : decode prog_23_method_12_code 0 = .ok (.aload_n 0, 1) := by decide +kernel
theorem d27_1 : decode prog_23_method_12_code 1 = .ok (.getfield 19, 3) := by decide +kernel
theorem d27_4 : decode prog_23_method_12_code 4 = .ok (.invokevirtual 151, 3) := by decide +kernel
theorem d27_7 : decode prog_23_method_12_code 7 = .ok (.checkcast 138, 3) := by decide +kernel
theorem d27_10 : decode prog_23_method_12_code 10 = .ok (.getfield 154, 3) := by decide +kernel
theorem d27_13 : decode prog_23_method_12_code 13 = .ok (.areturn, 1) := by decide +kernel
def Q_rm_tk (Z : State) (a : Addr) (d : Addr) (el : Addr) (hd : Int32) (hd' : Int32) (tl : Int32) (kE : ClassId) (vs : List Value) (w_ : Addr) (h0 : Heap) (v : Option Value) (h : Heap) (L : List Loc) : Prop := v = some .null ∧ Fk h0.size [el, d] L ∧ Keep h0 h [el, d] ∧ Exa Z h d "java/util/ArrayDeque" ∧ Fld Z h d "java/util/ArrayDeque" "elements" "[Ljava/lang/Object;" (.ref el) ∧ Fld Z h d "java/util/ArrayDeque" "head" "I" (.int hd') ∧ Fld Z h d "java/util/ArrayDeque" "tail" "I" (.int tl) ∧ Arv Z h el kE (.object "java/lang/Object") (17 : Int32) (vs.set hd.toNatClampNeg .null) .null
set_option maxRecDepth 65536 in
set_option maxHeartbeats 40000000 in
theorem rm_tk (l : Launch) (Z : State) (a0 : Array Value) (hw : ∀ d ∈ tables_1, d.before a0 Z = true) (ws : List Jvm.Cond) (a : Addr) (d : Addr) (el : Addr) (hd : Int32) (hd' : Int32) (tl : Int32) (kE : ClassId) (vs : List Value) (w_ : Addr) (h0 : Heap) (O0 : Old Z Z.heap.size h0) (gw : Fld Z h0 a "com/example/accumulus/accumulus/account/LoanAccount" "waiting" "Ljava/util/ArrayDeque;" (.ref d)) (h0_ : Exa Z h0 d "java/util/ArrayDeque") (h1_ : Fld Z h0 d "java/util/ArrayDeque" "elements" "[Ljava/lang/Object;" (.ref el)) (h2_ : Fld Z h0 d "java/util/ArrayDeque" "head" "I" (.int hd)) (h3_ : Fld Z h0 d "java/util/ArrayDeque" "tail" "I" (.int tl)) (h4_ : Arv Z h0 el kE (.object "java/lang/Object") (17 : Int32) vs .null) (i0 : ¬ hd < 0) (i1 : hd < 17) (ge : vs.getD hd.toNatClampNeg .null = .ref w_) (i2 : hd.toNatClampNeg < vs.length) (hz : hd + 1 = hd') (hlt : hd' < 17) (od : Z.heap.size ≤ d) (oe : Z.heap.size ≤ el) (ov : Ovr Z kE "java/lang/Object") (hw_ : Exa Z h0 w_ "com/example/accumulus/accumulus/account/LoanAccount$Waiting") (hl_ : Fld Z h0 w_ "com/example/accumulus/accumulus/account/LoanAccount$Waiting" "loan" "Lcom/example/accumulus/accumulus/journal/JournalEntry;" .null) :
    Ctr l Z (⟨"com/example/accumulus/accumulus/account/LoanAccount", "takeWaiting", "()Lcom/example/accumulus/accumulus/journal/JournalEntry;"⟩ : MethodName) prog_23_method_12_code 1 (some (.object "com/example/accumulus/accumulus/journal/JournalEntry")) ws ({ frames := 4, cells := 0, slots := 0, locals := 54 } : Room) #[(.ref a)] h0 (Q_rm_tk Z a d el hd hd' tl kE vs w_ h0) := by
  refine Ctr.intro (Ls := fun _ => #[.val (.ref a)]) (plainFor_of_name pn15) (fun m => by first | rfl | (simp [entryFrame, mkF, argsToLocals, Value.category]; done)) ?_
  intro p e s m below meth c s₁ hx hby hml hr hlk hZ hown hnm hs0 X0 e0
  have w : ∀ (k : Nat) (d : Jvm.Cond), tables_1[k]? = some d → d.before a0 Z = true := fun k d q => hw d (List.mem_of_getElem? q)
  have N0 := Fk.nil h0.size [el, d]
  refine Wk.aloadN X0 hx (hb hby d27_0) rfl rfl rfl ?_
  refine Wk.getfield X0 hx hZ hown (host := "") (Or.inl (w 118 _ rfl)) Via.refl e0 gw (hb hby d27_1) rfl ?_
  intro T1 X1 e1
  refine Wk.callV X1 hx hZ (y := (⟨"java/util/ArrayDeque", "remove", "()Ljava/lang/Object;"⟩ : MethodName)) (z := (⟨"java/util/ArrayDeque", "remove", "()Ljava/lang/Object;"⟩ : MethodName)) hown (w 188 _ rfl) (w 189 _ rfl) (notFace_of_selects (args := #[]) (mvT hZ (w 191 _ rfl))) (w 191 _ rfl) (w 190 _ rfl) (by decide) (as' := []) (backOf (W := 0) (rm_rm l Z a0 hw [] d el hd hd' tl kE vs w_ h0 O0 h0_ h1_ h2_ h3_ h4_ i0 i1 ge i2 hz hlt od oe ov) hZ (w 192 _ rfl) (w 108 _ rfl) (by decide) (by decide)) e1 h0_ (by rw [hml]; rfl) (rest := []) (lenOf pd17 rfl) rfl (Nat.le_of_eq rfl) (hb hby d27_4) rfl (by decide) (by decide) ?_
  intro T2 h2 v2 L2 X2 e2 hQ2
  obtain ⟨rfl, Nq2, K2, q2_0, q2_1, q2_2, q2_3, q2_4⟩ := hQ2
  have N2 := Fk.app N0 Nq2 (Nat.le_refl _) (allS (Or.inl (List.mem_of_getElem? (i := 0) rfl)) (allS (Or.inl (List.mem_of_getElem? (i := 1) rfl)) all0))
  have O3 : Old Z Z.heap.size h2 := O0.keep K2 (allS oe (allS od all0))
  show Wp p e below _ _ T2 (mkF m 7 #[.val (.ref a)] [(.ref w_)])
  have KK4 : Keep h0 h2 [el, d] := ((Keep.refl h0 [el, d]).trans K2 (allS (Or.inl (List.mem_of_getElem? (i := 0) rfl)) (allS (Or.inl (List.mem_of_getElem? (i := 1) rfl)) all0)))
  have f5 : Exa Z h2 w_ "com/example/accumulus/accumulus/account/LoanAccount$Waiting" := (hw_.keep KK4)
  refine Wk.castY X2 hx hZ hown (w 145 _ rfl) e2 (Ins.self f5) (hb hby d27_7) rfl ?_
  intro T6 X6 e6
  have f7 : Fld Z h2 w_ "com/example/accumulus/accumulus/account/LoanAccount$Waiting" "loan" "Lcom/example/accumulus/accumulus/journal/JournalEntry;" .null := (hl_.keep KK4 (ninS (Exa.neArv f5 q2_4 (w 146 _ rfl)) (ninS (Exa.ne f5 q2_0 (by decide)) nin0)))
  refine Wk.getfieldRef X6 hx hZ hown (w 203 _ rfl) e6 f7 (hb hby d27_10) rfl ?_
  exact Wk.retA' X6 hx hlk hr rfl rfl (hb hby d27_13) (by decide) (by decide) (Qc := Q_rm_tk Z a d el hd hd' tl kE vs w_ h0) e6 ⟨rfl, N2, KK4, q2_0, q2_1, q2_2, q2_3, q2_4⟩
theorem d26_0 : decode jdk_2323_method_74_code 0 = .ok (.aload_n 0, 1) := by decide +kernel
theorem d26_1 : decode jdk_2323_method_74_code 1 = .ok (.aload_n 1, 1) := by decide +kernel
theorem d26_2 : decode jdk_2323_method_74_code 2 = .ok (.if_acmp .ne 5, 3) := by decide +kernel
theorem d26_5 : decode jdk_2323_method_74_code 5 = .ok (.iconst 1, 1) := by decide +kernel
theorem d26_6 : decode jdk_2323_method_74_code 6 = .ok (.ireturn, 1) := by decide +kernel
def Q_rm_eq (Z : State) (x : Addr) (h0 : Heap) (v : Option Value) (h : Heap) (L : List Loc) : Prop := v = some (.int (1 : Int32)) ∧ Fk h0.size [] L ∧ h = h0
set_option maxRecDepth 65536 in
set_option maxHeartbeats 40000000 in
theorem rm_eq (l : Launch) (Z : State) (a0 : Array Value) (hw : ∀ d ∈ tables_1, d.before a0 Z = true) (ws : List Jvm.Cond) (x : Addr) (h0 : Heap) (O0 : Old Z Z.heap.size h0) :
    Ctr l Z (⟨"java/time/LocalDate", "equals", "(Ljava/lang/Object;)Z"⟩ : MethodName) jdk_2323_method_74_code 2 (some .boolean) ws ({ frames := 0, cells := 0, slots := 0, locals := 0 } : Room) #[(.ref x), (.ref x)] h0 (Q_rm_eq Z x h0) := by
  refine Ctr.intro (Ls := fun _ => #[.val (.ref x), .val (.ref x)]) (plainFor_of_name pn6) (fun m => by first | rfl | (simp [entryFrame, mkF, argsToLocals, Value.category]; done)) ?_
  intro p e s m below meth c s₁ hx hby hml hr hlk hZ hown hnm hs0 X0 e0
  have w : ∀ (k : Nat) (d : Jvm.Cond), tables_1[k]? = some d → d.before a0 Z = true := fun k d q => hw d (List.mem_of_getElem? q)
  have N0 := Fk.nil h0.size []
  refine Wk.aloadN X0 hx (hb hby d26_0) rfl rfl rfl ?_
  refine Wk.aloadN X0 hx (hb hby d26_1) rfl rfl rfl ?_
  refine Wk.acmpEq X0 hx (hb hby d26_2) rfl rfl rfl (by decide) (q := 5) (by decide) ?_
  refine Wk.iconst X0 hx (v := (1 : Int32)) (hb hby d26_5) rfl rfl ?_
  exact Wk.retZ' X0 hx hlk hr (by simp) (hb hby d26_6) (by decide) (by decide) (Qc := Q_rm_eq Z x h0) e0 ⟨rfl, N0, rfl⟩
theorem pn23 : plainName "com/example/accumulus/accumulus/account/LoanAccountNextWaitingDayPinLaw" = true := by first | (simp [plainName, overriddenIn]; done) | decide +kernel
theorem d25_0 : decode method_2_code 0 = .ok (.aload_n 0, 1) := by decide +kernel
theorem d25_1 : decode method_2_code 1 = .ok (.ifnonnull 15, 3) := by decide +kernel
theorem d25_4 : decode method_2_code 4 = .ok (.aload_n 1, 1) := by decide +kernel
theorem d25_5 : decode method_2_code 5 = .ok (.ifnonnull 7, 3) := by decide +kernel
theorem d25_8 : decode method_2_code 8 = .ok (.iconst 1, 1) := by decide +kernel
theorem d25_9 : decode method_2_code 9 = .ok (.goto 12, 3) := by decide +kernel
theorem d25_21 : decode method_2_code 21 = .ok (.ireturn, 1) := by decide +kernel
def Q_rm_smN (Z : State) (h0 : Heap) (v : Option Value) (h : Heap) (L : List Loc) : Prop := v = some (.int (1 : Int32)) ∧ Fk h0.size [] L ∧ h = h0
set_option maxRecDepth 65536 in
set_option maxHeartbeats 40000000 in
theorem rm_smN (l : Launch) (Z : State) (a0 : Array Value) (hw : ∀ d ∈ tables_1, d.before a0 Z = true) (ws : List Jvm.Cond) (h0 : Heap) (O0 : Old Z Z.heap.size h0) :
    Ctr l Z (⟨"com/example/accumulus/accumulus/account/LoanAccountNextWaitingDayPinLaw", "same", "(Ljava/time/LocalDate;Ljava/time/LocalDate;)Z"⟩ : MethodName) method_2_code 2 (some .boolean) ws ({ frames := 0, cells := 0, slots := 0, locals := 0 } : Room) #[.null, .null] h0 (Q_rm_smN Z h0) := by
  refine Ctr.intro (Ls := fun _ => #[.val .null, .val .null]) (plainFor_of_name pn23) (fun m => by first | rfl | (simp [entryFrame, mkF, argsToLocals, Value.category]; done)) ?_
  intro p e s m below meth c s₁ hx hby hml hr hlk hZ hown hnm hs0 X0 e0
  have w : ∀ (k : Nat) (d : Jvm.Cond), tables_1[k]? = some d → d.before a0 Z = true := fun k d q => hw d (List.mem_of_getElem? q)
  have N0 := Fk.nil h0.size []
  refine Wk.aloadN X0 hx (hb hby d25_0) rfl rfl rfl ?_
  refine Wk.ifnonnullNo X0 hx (hb hby d25_1) rfl ?_
  refine Wk.aloadN X0 hx (hb hby d25_4) rfl rfl rfl ?_
  refine Wk.ifnonnullNo X0 hx (hb hby d25_5) rfl ?_
  refine Wk.iconst X0 hx (v := (1 : Int32)) (hb hby d25_8) rfl rfl ?_
  refine Wk.goto X0 hx (hb hby d25_9) (by decide) (q := 21) rfl ?_
  exact Wk.retZ' X0 hx hlk hr (by simp) (hb hby d25_21) (by decide) (by decide) (Qc := Q_rm_smN Z h0) e0 ⟨rfl, N0, rfl⟩
theorem d25_16 : decode method_2_code 16 = .ok (.aload_n 0, 1) := by decide +kernel
theorem d25_17 : decode method_2_code 17 = .ok (.aload_n 1, 1) := by decide +kernel
theorem d25_18 : decode method_2_code 18 = .ok (.invokevirtual 7, 3) := by decide +kernel
def Q_rm_smR (Z : State) (x : Addr) (h0 : Heap) (v : Option Value) (h : Heap) (L : List Loc) : Prop := v = some (.int (1 : Int32)) ∧ Fk h0.size [] L ∧ h = h0
set_option maxRecDepth 65536 in
set_option maxHeartbeats 40000000 in
theorem rm_smR (l : Launch) (Z : State) (a0 : Array Value) (hw : ∀ d ∈ tables_1, d.before a0 Z = true) (ws : List Jvm.Cond) (x : Addr) (h0 : Heap) (O0 : Old Z Z.heap.size h0) (hE : Exa Z h0 x "java/time/LocalDate") :
    Ctr l Z (⟨"com/example/accumulus/accumulus/account/LoanAccountNextWaitingDayPinLaw", "same", "(Ljava/time/LocalDate;Ljava/time/LocalDate;)Z"⟩ : MethodName) method_2_code 2 (some .boolean) ws ({ frames := 1, cells := 0, slots := 0, locals := 13 } : Room) #[(.ref x), (.ref x)] h0 (Q_rm_smR Z x h0) := by
  refine Ctr.intro (Ls := fun _ => #[.val (.ref x), .val (.ref x)]) (plainFor_of_name pn23) (fun m => by first | rfl | (simp [entryFrame, mkF, argsToLocals, Value.category]; done)) ?_
  intro p e s m below meth c s₁ hx hby hml hr hlk hZ hown hnm hs0 X0 e0
  have w : ∀ (k : Nat) (d : Jvm.Cond), tables_1[k]? = some d → d.before a0 Z = true := fun k d q => hw d (List.mem_of_getElem? q)
  have N0 := Fk.nil h0.size []
  refine Wk.aloadN X0 hx (hb hby d25_0) rfl rfl rfl ?_
  refine Wk.ifnonnullYes X0 hx (hb hby d25_1) (by decide) (q := 16) rfl ?_
  refine Wk.aloadN X0 hx (hb hby d25_16) rfl rfl rfl ?_
  refine Wk.aloadN X0 hx (hb hby d25_17) rfl rfl rfl ?_
  refine Wk.callV X0 hx hZ (y := (⟨"java/time/LocalDate", "equals", "(Ljava/lang/Object;)Z"⟩ : MethodName)) (z := (⟨"java/time/LocalDate", "equals", "(Ljava/lang/Object;)Z"⟩ : MethodName)) hown (w 178 _ rfl) (w 179 _ rfl) (notFace_of_selects (args := #[]) (mvT hZ (w 181 _ rfl))) (w 181 _ rfl) (w 180 _ rfl) (by decide) (as' := [(.ref x)]) (backOf (W := 0) (rm_eq l Z a0 hw [] x h0 O0) hZ (w 182 _ rfl) (w 5 _ rfl) (by decide) (by decide)) e0 hE (by rw [hml]; rfl) (rest := []) (lenOf pd22 rfl) rfl (Nat.le_of_eq rfl) (hb hby d25_18) rfl (by decide) (by decide) ?_
  intro T1 h1 v1 L1 X1 e1 hQ1
  obtain ⟨rfl, Nq1, K1⟩ := hQ1
  have N1 := Fk.app N0 Nq1 (Nat.le_refl _) all0
  rw [K1] at e1
  show Wp p e below _ _ T1 (mkF m 21 #[.val (.ref x), .val (.ref x)] [(.int (1 : Int32))])
  exact Wk.retZ' X1 hx hlk hr (by simp) (hb hby d25_21) (by decide) (by decide) (Qc := Q_rm_smR Z x h0) e1 ⟨rfl, N1, rfl⟩
theorem own_q {x : Int32} (k : Int32) (h : k = x &&& 3) : k = 0 ∨ k = 1 ∨ k = 2 ∨ k = 3 := by
  have r := mask_rng x 3 (by decide)
  have e : (3 : Int32).toInt = 3 := rfl
  subst h
  have : (x &&& 3).toInt = 0 ∨ (x &&& 3).toInt = 1 ∨ (x &&& 3).toInt = 2 ∨ (x &&& 3).toInt = 3 := by omega
  rcases this with q | q | q | q
  · exact Or.inl (Int32.toInt_inj.mp q)
  · exact Or.inr (Or.inl (Int32.toInt_inj.mp q))
  · exact Or.inr (Or.inr (Or.inl (Int32.toInt_inj.mp q)))
  · exact Or.inr (Or.inr (Or.inr (Int32.toInt_inj.mp q)))
theorem own_min0 {r m x : Int32} (hm : m = x &&& 3) (hr : r = if (0 : Int32) < m then (0 : Int32) else m) : r = 0 := by
  subst hr
  rcases own_q _ hm with rfl | rfl | rfl | rfl <;> decide
theorem own_min1 {r m x : Int32} (hm : m = x &&& 3) (hr : r = if (1 : Int32) < m then (1 : Int32) else m) : r = 0 ∨ r = 1 := by
  subst hr
  rcases own_q _ hm with rfl | rfl | rfl | rfl <;> decide
theorem own_min2 {r m x : Int32} (hm : m = x &&& 3) (hr : r = if (2 : Int32) < m then (2 : Int32) else m) : r = 0 ∨ r = 1 ∨ r = 2 := by
  subst hr
  rcases own_q _ hm with rfl | rfl | rfl | rfl <;> decide
theorem own_min3 {r m x : Int32} (hm : m = x &&& 3) (hr : r = if (3 : Int32) < m then (3 : Int32) else m) : r = 0 ∨ r = 1 ∨ r = 2 ∨ r = 3 := by
  subst hr
  rcases own_q _ hm with rfl | rfl | rfl | rfl <;> decide
theorem own_day {x a b : Int32} : ¬ x.toInt64 < (-365243219162 : Int64) ∧ ¬ (365241780471 : Int64) < x.toInt64 ∧ ¬ x.toInt64 + (a &&& 65535).toInt64 < (-365243219162 : Int64) ∧ ¬ (365241780471 : Int64) < x.toInt64 + (a &&& 65535).toInt64 ∧ ¬ x.toInt64 + (a &&& 65535).toInt64 + (b &&& 65535).toInt64 < (-365243219162 : Int64) ∧ ¬ (365241780471 : Int64) < x.toInt64 + (a &&& 65535).toInt64 + (b &&& 65535).toInt64 := by
  have ra := mask_rng a 65535 (by decide)
  have rb := mask_rng b 65535 (by decide)
  have rx := rng32 x
  have em : (65535 : Int32).toInt = 65535 := rfl
  have ex : x.toInt64.toInt = x.toInt := Int32.toInt_toInt64 x
  have ea : (a &&& 65535).toInt64.toInt = (a &&& 65535).toInt := Int32.toInt_toInt64 _
  have eb : (b &&& 65535).toInt64.toInt = (b &&& 65535).toInt := Int32.toInt_toInt64 _
  have e1 : ((-365243219162 : Int64)).toInt = -365243219162 := by decide
  have e2 : ((365241780471 : Int64)).toInt = 365241780471 := by decide
  have c1 := c_ladd x.toInt64 (a &&& 65535).toInt64
  have g1 := rng64 (x.toInt64 + (a &&& 65535).toInt64)
  have c2 := c_ladd (x.toInt64 + (a &&& 65535).toInt64) (b &&& 65535).toInt64
  have g2 := rng64 (x.toInt64 + (a &&& 65535).toInt64 + (b &&& 65535).toInt64)
  simp only [Int64.lt_iff_toInt_lt]
  omega
theorem pd24 : parseMethodDescriptor "(J)Ljava/time/LocalDate;" = some ⟨[.long], some (.object "java/time/LocalDate")⟩ := by decide +kernel
theorem pd25 : parseMethodDescriptor "()Ljava/time/LocalDate;" = some ⟨[], some (.object "java/time/LocalDate")⟩ := by decide +kernel
theorem pd26 : parseMethodDescriptor "(Ljava/time/LocalDate;Ljava/time/LocalDate;)Z" = some ⟨[(.object "java/time/LocalDate"), (.object "java/time/LocalDate")], some .boolean⟩ := by decide +kernel
theorem pd27 : parseMethodDescriptor "()Lcom/example/accumulus/accumulus/journal/JournalEntry;" = some ⟨[], some (.object "com/example/accumulus/accumulus/journal/JournalEntry")⟩ := by decide +kernel
def Q_rm_law (Z : State) (p0 : Int32) (p1 : Int32) (p2 : Int32) (p3 : Int32) (u : Addr) (vr_ : Addr) (ed : Addr) (h0 : Heap) (v : Option Value) (h : Heap) (L : List Loc) : Prop := v = some (.int (1 : Int32)) ∧ Fk h0.size [] L ∧ Keep h0 h []
set_option maxRecDepth 65536 in
set_option maxHeartbeats 40000000 in
theorem rm_law (l : Launch) (Z : State) (a0 : Array Value) (hw : ∀ d ∈ tables_1, d.before a0 Z = true) (ws : List Jvm.Cond) (p0 : Int32) (p1 : Int32) (p2 : Int32) (p3 : Int32) (u : Addr) (vr_ : Addr) (ed : Addr) (h0 : Heap) (O0 : Old Z Z.heap.size h0) (sU : Sta Z Z.heap "java/time/temporal/ChronoField" "EPOCH_DAY" "Ljava/time/temporal/ChronoField;" (.ref u)) (hU : Exa Z h0 u "java/time/temporal/ChronoField") (pf0 : Fld Z h0 u "java/time/temporal/ChronoField" "range" "Ljava/time/temporal/ValueRange;" (.ref vr_)) (hE : Exa Z h0 vr_ "java/time/temporal/ValueRange") (pf1 : Fld Z h0 vr_ "java/time/temporal/ValueRange" "minSmallest" "J" (.long (-365243219162 : Int64))) (pf2 : Fld Z h0 vr_ "java/time/temporal/ValueRange" "maxLargest" "J" (.long (365241780471 : Int64))) (sD : Sta Z Z.heap "java/util/ArrayList" "DEFAULTCAPACITY_EMPTY_ELEMENTDATA" "[Ljava/lang/Object;" (.ref ed)) :
    Ctr l Z x code maxLocals ret ws room_1 #[(.int p0), (.int p1), (.int p2), (.int p3)] h0 (Q_rm_law Z p0 p1 p2 p3 u vr_ ed h0) := by
  refine Ctr.intro (Ls := fun _ => #[.val (.int p0), .val (.int p1), .val (.int p2), .val (.int p3), .unset, .unset, .unset, .unset, .unset, .unset, .unset, .unset, .unset, .unset, .unset, .unset, .unset, .unset]) (plainFor_of_name pn23) (fun m => by first | rfl | (simp [entryFrame, mkF, argsToLocals, Value.category, maxLocals]; done)) ?_
  intro p e s m below meth c s₁ hx hby hml hr hlk hZ hown hnm hs0 X0 e0
  have w : ∀ (k : Nat) (d : Jvm.Cond), tables_1[k]? = some d → d.before a0 Z = true := fun k d q => hw d (List.mem_of_getElem? q)
  have N0 := Fk.nil h0.size []
  refine Wk.iloadN X0 hx (hb hby at_0) rfl rfl ?_
  refine Wk.i2l X0 hx (hb hby at_1) rfl ?_
  refine Wk.lstoreA X0 hx (Ls' := fun z => #[.val (.int p0), .val (.int p1), .val (.int p2), .val (.int p3), .val (.long z), .second, .unset, .unset, .unset, .unset, .unset, .unset, .unset, .unset, .unset, .unset, .unset, .unset]) (hb hby at_2) rfl (fun _ => rfl) ?_
  intro j1 hj1
  show Wp p e below _ _ s₁ (mkF m 4 #[.val (.int p0), .val (.int p1), .val (.int p2), .val (.int p3), .val (.long j1), .second, .unset, .unset, .unset, .unset, .unset, .unset, .unset, .unset, .unset, .unset, .unset, .unset] [])
  refine Wk.lload X0 hx (hb hby at_4) rfl rfl ?_
  refine Wk.iloadN X0 hx (hb hby at_6) rfl rfl ?_
  refine Wk.ldcInt X0 hx hZ hown (w 0 _ rfl) (hb hby at_7) rfl ?_
  refine Wk.iand X0 hx (hb hby at_9) rfl ?_
  refine Wk.i2l X0 hx (hb hby at_10) rfl ?_
  refine Wk.ladd X0 hx (hb hby at_11) rfl ?_
  refine Wk.lstoreA X0 hx (Ls' := fun z => #[.val (.int p0), .val (.int p1), .val (.int p2), .val (.int p3), .val (.long j1), .second, .val (.long z), .second, .unset, .unset, .unset, .unset, .unset, .unset, .unset, .unset, .unset, .unset]) (hb hby at_12) rfl (fun _ => rfl) ?_
  intro j2 hj2
  show Wp p e below _ _ s₁ (mkF m 14 #[.val (.int p0), .val (.int p1), .val (.int p2), .val (.int p3), .val (.long j1), .second, .val (.long j2), .second, .unset, .unset, .unset, .unset, .unset, .unset, .unset, .unset, .unset, .unset] [])
  refine Wk.lload X0 hx (hb hby at_14) rfl rfl ?_
  refine Wk.iloadN X0 hx (hb hby at_16) rfl rfl ?_
  refine Wk.ldcInt X0 hx hZ hown (w 0 _ rfl) (hb hby at_17) rfl ?_
  refine Wk.iand X0 hx (hb hby at_19) rfl ?_
  refine Wk.i2l X0 hx (hb hby at_20) rfl ?_
  refine Wk.ladd X0 hx (hb hby at_21) rfl ?_
  refine Wk.lstoreA X0 hx (Ls' := fun z => #[.val (.int p0), .val (.int p1), .val (.int p2), .val (.int p3), .val (.long j1), .second, .val (.long j2), .second, .val (.long z), .second, .unset, .unset, .unset, .unset, .unset, .unset, .unset, .unset]) (hb hby at_22) rfl (fun _ => rfl) ?_
  intro j3 hj3
  show Wp p e below _ _ s₁ (mkF m 24 #[.val (.int p0), .val (.int p1), .val (.int p2), .val (.int p3), .val (.long j1), .second, .val (.long j2), .second, .val (.long j3), .second, .unset, .unset, .unset, .unset, .unset, .unset, .unset, .unset] [])
  obtain ⟨b1, b2, b3, b4, b5, b6⟩ := own_day (x := p0) (a := p1) (b := p2)
  rw [← hj1] at b1 b2 b3 b4 b5 b6
  rw [← hj2] at b3 b4 b5 b6
  rw [← hj3] at b5 b6
  refine Wk.iconst X0 hx (v := (3 : Int32)) (hb hby at_24) rfl rfl ?_
  refine Wk.anewarray X0 hx hZ hown (w 1 _ rfl) (w 2 _ rfl) e0 (hb hby at_25) rfl (by decide) 3 (by decide) (by decide) (by decide) (by decide) ?_
  intro T4 h4 a4 kA4 g4 X4 e4 E4 A4 Ov4
  have O5 : Old Z Z.heap.size h4 := O0.ext E4
  have V4 : Arv Z h4 a4 kA4 (.object "java/time/LocalDate") (3 : Int32) [.null, .null, .null] .null := A4.pad (pad_rep [] .null 3)
  refine Wk.astore X4 hx (Ls' := #[.val (.int p0), .val (.int p1), .val (.int p2), .val (.int p3), .val (.long j1), .second, .val (.long j2), .second, .val (.long j3), .second, .val (.ref a4), .unset, .unset, .unset, .unset, .unset, .unset, .unset]) (hb hby at_28) rfl rfl rfl ?_
  refine Wk.aload X4 hx (hb hby at_30) rfl rfl rfl ?_
  refine Wk.iconst X4 hx (v := (0 : Int32)) (hb hby at_32) rfl rfl ?_
  refine Wk.lload X4 hx (hb hby at_33) rfl rfl ?_
  have KK6 : Keep h0 h4 [] := ((Keep.refl h0 []).ext E4)
  have f7 : Exa Z h4 u "java/time/temporal/ChronoField" := (hU.keep KK6)
  have f8 : Fld Z h4 u "java/time/temporal/ChronoField" "range" "Ljava/time/temporal/ValueRange;" (.ref vr_) := (pf0.keep KK6 nin0)
  have f9 : Exa Z h4 vr_ "java/time/temporal/ValueRange" := (hE.keep KK6)
  have f10 : Fld Z h4 vr_ "java/time/temporal/ValueRange" "minSmallest" "J" (.long (-365243219162 : Int64)) := (pf1.keep KK6 nin0)
  have f11 : Fld Z h4 vr_ "java/time/temporal/ValueRange" "maxLargest" "J" (.long (365241780471 : Int64)) := (pf2.keep KK6 nin0)
  refine Wk.callS X4 hx hZ hown (w 3 _ rfl) (w 4 _ rfl) (w 5 _ rfl) (w 6 _ rfl) (by decide) (as' := [(.long j1)]) (backOf (W := 2) (rm_ofe l Z a0 hw [] j1 u vr_ h4 O5 sU f7 f8 f9 f10 f11 b1 b2) hZ (w 6 _ rfl) (w 5 _ rfl) (by decide) (by decide)) e4 (by rw [hml]; rfl) (rest := [(.int (0 : Int32)), (.ref a4)]) (lenOf pd24 rfl) rfl (Nat.le_of_eq rfl) (hb hby at_35) rfl (by decide) (by decide) ?_
  intro T12 h12 v12 L12 X12 e12 hQ12
  obtain ⟨x12, rfl, Nq12, K12, q12_0, q12_1⟩ := hQ12
  have N12 := Fk.app N0 Nq12 KK6.1 all0
  have O13 : Old Z Z.heap.size h12 := O5.keep K12 all0
  show Wp p e below _ _ T12 (mkF m 38 #[.val (.int p0), .val (.int p1), .val (.int p2), .val (.int p3), .val (.long j1), .second, .val (.long j2), .second, .val (.long j3), .second, .val (.ref a4), .unset, .unset, .unset, .unset, .unset, .unset, .unset] [(.ref x12), (.int (0 : Int32)), (.ref a4)])
  have KK14 : Keep h4 h12 [] := ((Keep.refl h4 []).trans K12 all0)
  have f15 : Arv Z h12 a4 kA4 (.object "java/time/LocalDate") (3 : Int32) [.null, .null, .null] .null := (V4.keep KK14 nin0)
  refine Wk.aastore X12 hx hZ e12 f15 rfl rfl (stoV f15 Ov4 (Ins.self q12_1)) (by decide) (by decide) 0 rfl (Nat.le_of_ble_eq_true rfl) (hb hby at_38) rfl ?_
  intro T16 h16 L16 M16 X16 e16 W16 A16
  have N16 := M16 _ _ N12 (Or.inr (Nat.le_of_eq g4))
  have O17 : Old Z Z.heap.size h16 := O13.wr W16 (Nat.le_trans (Nat.le_trans (Nat.le_trans (Nat.le_of_eq O0.1.symm) O0.2.1) (Keep.refl h0 []).1) (Nat.le_of_eq g4))
  have V16 : Arv Z h16 a4 kA4 (.object "java/time/LocalDate") (3 : Int32) [(.ref x12), .null, .null] .null := A16
  refine Wk.aload X16 hx (hb hby at_39) rfl rfl rfl ?_
  refine Wk.iconst X16 hx (v := (1 : Int32)) (hb hby at_41) rfl rfl ?_
  refine Wk.lload X16 hx (hb hby at_42) rfl rfl ?_
  have KK18 : Keep h0 h16 [] := ((KK6.trans K12 all0).wr W16 (Or.inr (Nat.le_of_eq g4)))
  have f19 : Exa Z h16 u "java/time/temporal/ChronoField" := (hU.keep KK18)
  have f20 : Fld Z h16 u "java/time/temporal/ChronoField" "range" "Ljava/time/temporal/ValueRange;" (.ref vr_) := (pf0.keep KK18 nin0)
  have f21 : Exa Z h16 vr_ "java/time/temporal/ValueRange" := (hE.keep KK18)
  have f22 : Fld Z h16 vr_ "java/time/temporal/ValueRange" "minSmallest" "J" (.long (-365243219162 : Int64)) := (pf1.keep KK18 nin0)
  have f23 : Fld Z h16 vr_ "java/time/temporal/ValueRange" "maxLargest" "J" (.long (365241780471 : Int64)) := (pf2.keep KK18 nin0)
  refine Wk.callS X16 hx hZ hown (w 3 _ rfl) (w 4 _ rfl) (w 5 _ rfl) (w 6 _ rfl) (by decide) (as' := [(.long j2)]) (backOf (W := 2) (rm_ofe l Z a0 hw [] j2 u vr_ h16 O17 sU f19 f20 f21 f22 f23 b3 b4) hZ (w 6 _ rfl) (w 5 _ rfl) (by decide) (by decide)) e16 (by rw [hml]; rfl) (rest := [(.int (1 : Int32)), (.ref a4)]) (lenOf pd24 rfl) rfl (Nat.le_of_eq rfl) (hb hby at_44) rfl (by decide) (by decide) ?_
  intro T24 h24 v24 L24 X24 e24 hQ24
  obtain ⟨x24, rfl, Nq24, K24, q24_0, q24_1⟩ := hQ24
  have N24 := Fk.app N16 Nq24 KK18.1 all0
  have O25 : Old Z Z.heap.size h24 := O17.keep K24 all0
  show Wp p e below _ _ T24 (mkF m 47 #[.val (.int p0), .val (.int p1), .val (.int p2), .val (.int p3), .val (.long j1), .second, .val (.long j2), .second, .val (.long j3), .second, .val (.ref a4), .unset, .unset, .unset, .unset, .unset, .unset, .unset] [(.ref x24), (.int (1 : Int32)), (.ref a4)])
  have KK26 : Keep h16 h24 [] := ((Keep.refl h16 []).trans K24 all0)
  have f27 : Arv Z h24 a4 kA4 (.object "java/time/LocalDate") (3 : Int32) [(.ref x12), .null, .null] .null := (V16.keep KK26 nin0)
  refine Wk.aastore X24 hx hZ e24 f27 rfl rfl (stoV f27 Ov4 (Ins.self q24_1)) (by decide) (by decide) 1 rfl (Nat.le_of_ble_eq_true rfl) (hb hby at_47) rfl ?_
  intro T28 h28 L28 M28 X28 e28 W28 A28
  have N28 := M28 _ _ N24 (Or.inr (Nat.le_of_eq g4))
  have O29 : Old Z Z.heap.size h28 := O25.wr W28 (Nat.le_trans (Nat.le_trans (Nat.le_trans (Nat.le_of_eq O0.1.symm) O0.2.1) (Keep.refl h0 []).1) (Nat.le_of_eq g4))
  have V28 : Arv Z h28 a4 kA4 (.object "java/time/LocalDate") (3 : Int32) [(.ref x12), (.ref x24), .null] .null := A28
  refine Wk.aload X28 hx (hb hby at_48) rfl rfl rfl ?_
  refine Wk.iconst X28 hx (v := (2 : Int32)) (hb hby at_50) rfl rfl ?_
  refine Wk.lload X28 hx (hb hby at_51) rfl rfl ?_
  have KK30 : Keep h0 h28 [] := ((KK18.trans K24 all0).wr W28 (Or.inr (Nat.le_of_eq g4)))
  have f31 : Exa Z h28 u "java/time/temporal/ChronoField" := (hU.keep KK30)
  have f32 : Fld Z h28 u "java/time/temporal/ChronoField" "range" "Ljava/time/temporal/ValueRange;" (.ref vr_) := (pf0.keep KK30 nin0)
  have f33 : Exa Z h28 vr_ "java/time/temporal/ValueRange" := (hE.keep KK30)
  have f34 : Fld Z h28 vr_ "java/time/temporal/ValueRange" "minSmallest" "J" (.long (-365243219162 : Int64)) := (pf1.keep KK30 nin0)
  have f35 : Fld Z h28 vr_ "java/time/temporal/ValueRange" "maxLargest" "J" (.long (365241780471 : Int64)) := (pf2.keep KK30 nin0)
  refine Wk.callS X28 hx hZ hown (w 3 _ rfl) (w 4 _ rfl) (w 5 _ rfl) (w 6 _ rfl) (by decide) (as' := [(.long j3)]) (backOf (W := 2) (rm_ofe l Z a0 hw [] j3 u vr_ h28 O29 sU f31 f32 f33 f34 f35 b5 b6) hZ (w 6 _ rfl) (w 5 _ rfl) (by decide) (by decide)) e28 (by rw [hml]; rfl) (rest := [(.int (2 : Int32)), (.ref a4)]) (lenOf pd24 rfl) rfl (Nat.le_of_eq rfl) (hb hby at_53) rfl (by decide) (by decide) ?_
  intro T36 h36 v36 L36 X36 e36 hQ36
  obtain ⟨x36, rfl, Nq36, K36, q36_0, q36_1⟩ := hQ36
  have N36 := Fk.app N28 Nq36 KK30.1 all0
  have O37 : Old Z Z.heap.size h36 := O29.keep K36 all0
  show Wp p e below _ _ T36 (mkF m 56 #[.val (.int p0), .val (.int p1), .val (.int p2), .val (.int p3), .val (.long j1), .second, .val (.long j2), .second, .val (.long j3), .second, .val (.ref a4), .unset, .unset, .unset, .unset, .unset, .unset, .unset] [(.ref x36), (.int (2 : Int32)), (.ref a4)])
  have KK38 : Keep h28 h36 [] := ((Keep.refl h28 []).trans K36 all0)
  have f39 : Arv Z h36 a4 kA4 (.object "java/time/LocalDate") (3 : Int32) [(.ref x12), (.ref x24), .null] .null := (V28.keep KK38 nin0)
  refine Wk.aastore X36 hx hZ e36 f39 rfl rfl (stoV f39 Ov4 (Ins.self q36_1)) (by decide) (by decide) 2 rfl (Nat.le_of_ble_eq_true rfl) (hb hby at_56) rfl ?_
  intro T40 h40 L40 M40 X40 e40 W40 A40
  have N40 := M40 _ _ N36 (Or.inr (Nat.le_of_eq g4))
  have O41 : Old Z Z.heap.size h40 := O37.wr W40 (Nat.le_trans (Nat.le_trans (Nat.le_trans (Nat.le_of_eq O0.1.symm) O0.2.1) (Keep.refl h0 []).1) (Nat.le_of_eq g4))
  have V40 : Arv Z h40 a4 kA4 (.object "java/time/LocalDate") (3 : Int32) [(.ref x12), (.ref x24), (.ref x36)] .null := A40
  refine Wk.iloadN X40 hx (hb hby at_57) rfl rfl ?_
  refine Wk.iconst X40 hx (v := (3 : Int32)) (hb hby at_58) rfl rfl ?_
  refine Wk.iand X40 hx (hb hby at_59) rfl ?_
  refine Wk.istoreA X40 hx (Ls' := fun z => #[.val (.int p0), .val (.int p1), .val (.int p2), .val (.int p3), .val (.long j1), .second, .val (.long j2), .second, .val (.long j3), .second, .val (.ref a4), .val (.int z), .unset, .unset, .unset, .unset, .unset, .unset]) (hb hby at_60) rfl (fun _ => rfl) ?_
  intro i42 hi42
  show Wp p e below _ _ T40 (mkF m 62 #[.val (.int p0), .val (.int p1), .val (.int p2), .val (.int p3), .val (.long j1), .second, .val (.long j2), .second, .val (.long j3), .second, .val (.ref a4), .val (.int i42), .unset, .unset, .unset, .unset, .unset, .unset] [])
  rcases own_q _ hi42 with rfl | rfl | rfl | rfl
  · skip
    refine Wk.iloadN X40 hx (hb hby at_62) rfl rfl ?_
    refine Wk.iconst X40 hx (v := (2 : Int32)) (hb hby at_63) rfl rfl ?_
    refine Wk.iushr X40 hx (hb hby at_64) rfl ?_
    refine Wk.iconst X40 hx (v := (3 : Int32)) (hb hby at_65) rfl rfl ?_
    refine Wk.iand X40 hx (hb hby at_66) rfl ?_
    refine Wk.iload X40 hx (hb hby at_67) rfl rfl ?_
    obtain ⟨mm43, hmm43⟩ : ∃ z : Int32, z = (((p3.toUInt32 >>> ((2 : Int32) &&& 31).toUInt32).toInt32) &&& (3 : Int32)) := ⟨_, rfl⟩
    rw [← hmm43]
    refine Wk.callS X40 hx hZ hown (w 69 _ rfl) (w 70 _ rfl) (w 71 _ rfl) (w 72 _ rfl) (by decide) (as' := [(.int mm43), (.int (0 : Int32))]) (backOf (W := 0) (rm_mmin l Z a0 hw [] mm43 (0 : Int32) h40 O41) hZ (w 72 _ rfl) (w 71 _ rfl) (by decide) (by decide)) e40 (by rw [hml]; rfl) (rest := []) (lenOf pd19 rfl) rfl (Nat.le_of_eq rfl) (hb hby at_69) rfl (by decide) (by decide) ?_
    intro T44 h44 v44 L44 X44 e44 hQ44
    obtain ⟨r44, rfl, Nq44, K44, q44_0⟩ := hQ44
    have KK45 : Keep h0 h40 [] := ((KK30.trans K36 all0).wr W40 (Or.inr (Nat.le_of_eq g4)))
    have N44 := Fk.app N40 Nq44 KK45.1 all0
    rw [K44] at e44
    show Wp p e below _ _ T44 (mkF m 72 #[.val (.int p0), .val (.int p1), .val (.int p2), .val (.int p3), .val (.long j1), .second, .val (.long j2), .second, .val (.long j3), .second, .val (.ref a4), .val (.int (0 : Int32)), .unset, .unset, .unset, .unset, .unset, .unset] [(.int r44)])
    have hk43 : r44 = 0 := by
      exact own_min0 hmm43 q44_0
    rcases hk43 with rfl
    · skip
      refine Wk.istore X44 hx (Ls' := #[.val (.int p0), .val (.int p1), .val (.int p2), .val (.int p3), .val (.long j1), .second, .val (.long j2), .second, .val (.long j3), .second, .val (.ref a4), .val (.int (0 : Int32)), .val (.int (0 : Int32)), .unset, .unset, .unset, .unset, .unset]) (hb hby at_72) rfl rfl ?_
      refine Wk.iload X44 hx (hb hby at_74) rfl rfl ?_
      refine Wk.iload X44 hx (hb hby at_76) rfl rfl ?_
      refine Wk.icmpYes X44 hx (hb hby at_78) (by decide) (q := 89) rfl (flt (by decide : ¬ ((0 : Int32) < (0 : Int32)))).2.1 ?_
      refine Wk.aconstNull X44 hx (hb hby at_89) rfl ?_
      refine Wk.astore X44 hx (Ls' := #[.val (.int p0), .val (.int p1), .val (.int p2), .val (.int p3), .val (.long j1), .second, .val (.long j2), .second, .val (.long j3), .second, .val (.ref a4), .val (.int (0 : Int32)), .val (.int (0 : Int32)), .val .null, .unset, .unset, .unset, .unset]) (hb hby at_90) rfl rfl rfl ?_
      refine Wk.new X44 hx hZ hown (w 73 _ rfl) (w 74 _ rfl) (w 75 _ rfl) e44 (hb hby at_92) rfl (by decide) (by decide) ?_
      intro T46 h46 a46 g46 X46 e46 E46 A46 D46
      have O47 : Old Z Z.heap.size h46 := O41.ext E46
      have f48 : Fld Z h46 a46 "com/example/accumulus/accumulus/account/LoanAccount" "loans" "Ljava/util/List;" .null := D46 (Or.inr (w 105 _ rfl)) (ty := (.object "java/util/List")) (by decide)
      have f49 : Fld Z h46 a46 "com/example/accumulus/accumulus/account/LoanAccount" "waiting" "Ljava/util/ArrayDeque;" .null := D46 (Or.inr (w 119 _ rfl)) (ty := (.object "java/util/ArrayDeque")) (by decide)
      refine Wk.dup X46 hx (hb hby at_95) rfl rfl ?_
      refine Wk.callI X46 hx hZ rfl hown (w 76 _ rfl) (w 77 _ rfl) (w 78 _ rfl) (by decide) (as' := []) (backOf (W := 1) (rm_lai l Z a0 hw [] a46 ed h46 O47 A46 f48 f49 (Nat.le_trans (Nat.le_trans (Nat.le_trans (Nat.le_of_eq O0.1.symm) O0.2.1) KK45.1) (Nat.le_of_eq g46)) sD) hZ (w 78 _ rfl) (w 75 _ rfl) (by decide) (by decide)) e46 (by rw [hml]; rfl) (rest := [(.ref a46)]) (lenOf pd12 rfl) rfl (Nat.le_of_eq rfl) (hb hby at_96) rfl (by decide) (by decide) ?_
      intro T50 h50 v50 L50 X50 e50 hQ50
      obtain ⟨d50, el50, kE50, rfl, Nq50, K50, q50_0, q50_1, q50_2, q50_3, q50_4, q50_5, q50_6, q50_7, q50_8, q50_9⟩ := hQ50
      have KK51 : Keep h0 h46 [] := (KK45.ext E46)
      have N50 := Fk.app N44 Nq50 KK51.1 (allS (Or.inr (Nat.le_trans KK45.1 (Nat.le_of_eq g46))) all0)
      have O52 : Old Z Z.heap.size h50 := O47.keep K50 (allS (Nat.le_trans (Nat.le_trans (Nat.le_trans (Nat.le_of_eq O0.1.symm) O0.2.1) KK45.1) (Nat.le_of_eq g46)) all0)
      show Wp p e below _ _ T50 (mkF m 99 #[.val (.int p0), .val (.int p1), .val (.int p2), .val (.int p3), .val (.long j1), .second, .val (.long j2), .second, .val (.long j3), .second, .val (.ref a4), .val (.int (0 : Int32)), .val (.int (0 : Int32)), .val .null, .unset, .unset, .unset, .unset] [(.ref a46)])
      refine Wk.astore X50 hx (Ls' := #[.val (.int p0), .val (.int p1), .val (.int p2), .val (.int p3), .val (.long j1), .second, .val (.long j2), .second, .val (.long j3), .second, .val (.ref a4), .val (.int (0 : Int32)), .val (.int (0 : Int32)), .val .null, .val (.ref a46), .unset, .unset, .unset]) (hb hby at_99) rfl rfl rfl ?_
      refine Wk.aload X50 hx (hb hby at_101) rfl rfl rfl ?_
      refine Wk.callV X50 hx hZ (y := (⟨"com/example/accumulus/accumulus/account/LoanAccount", "nextWaitingDay", "()Ljava/time/LocalDate;"⟩ : MethodName)) (z := (⟨"com/example/accumulus/accumulus/account/LoanAccount", "nextWaitingDay", "()Ljava/time/LocalDate;"⟩ : MethodName)) hown (w 120 _ rfl) (w 121 _ rfl) (notFace_of_selects (args := #[]) (mvT hZ (w 123 _ rfl))) (w 123 _ rfl) (w 122 _ rfl) (by decide) (as' := []) (backOf (W := 0) (rm_nwN l Z a0 hw [] a46 d50 el50 (0 : Int32) kE50 [.null, .null, .null, .null, .null, .null, .null, .null, .null, .null, .null, .null, .null, .null, .null, .null, .null] h50 O52 q50_3 q50_5 q50_6 q50_7 q50_9 (by first | assumption | rfl | decide | exact Nat.le_of_ble_eq_true rfl) (by first | assumption | rfl | decide | exact Nat.le_of_ble_eq_true rfl) (by first | assumption | rfl | decide | exact Nat.le_of_ble_eq_true rfl)) hZ (w 124 _ rfl) (w 75 _ rfl) (by decide) (by decide)) e50 q50_2 (by rw [hml]; rfl) (rest := []) (lenOf pd25 rfl) rfl (Nat.le_of_eq rfl) (hb hby at_103) rfl (by decide) (by decide) ?_
      intro T53 h53 v53 L53 X53 e53 hQ53
      obtain ⟨rfl, Nq53, K53⟩ := hQ53
      have KK54 : Keep h0 h50 [] := (KK51.trans K50 (allS (Or.inr (Nat.le_trans KK45.1 (Nat.le_of_eq g46))) all0))
      have N53 := Fk.app N50 Nq53 KK54.1 all0
      rw [K53] at e53
      show Wp p e below _ _ T53 (mkF m 106 #[.val (.int p0), .val (.int p1), .val (.int p2), .val (.int p3), .val (.long j1), .second, .val (.long j2), .second, .val (.long j3), .second, .val (.ref a4), .val (.int (0 : Int32)), .val (.int (0 : Int32)), .val .null, .val (.ref a46), .unset, .unset, .unset] [.null])
      refine Wk.ifnonnullNo X53 hx (hb hby at_106) rfl ?_
      refine Wk.iconst X53 hx (v := (1 : Int32)) (hb hby at_109) rfl rfl ?_
      refine Wk.goto X53 hx (hb hby at_110) (by decide) (q := 114) rfl ?_
      refine Wk.istore X53 hx (Ls' := #[.val (.int p0), .val (.int p1), .val (.int p2), .val (.int p3), .val (.long j1), .second, .val (.long j2), .second, .val (.long j3), .second, .val (.ref a4), .val (.int (0 : Int32)), .val (.int (0 : Int32)), .val .null, .val (.ref a46), .val (.int (1 : Int32)), .unset, .unset]) (hb hby at_114) rfl rfl ?_
      refine Wk.iload X53 hx (hb hby at_116) rfl rfl ?_
      refine Wk.iconst X53 hx (v := (1 : Int32)) (hb hby at_118) rfl rfl ?_
      refine Wk.icmpYes X53 hx (hb hby at_119) (by decide) (q := 159) rfl (tlt (by decide : (0 : Int32) < (1 : Int32))).1 ?_
      refine Wk.iload X53 hx (hb hby at_159) rfl rfl ?_
      refine Wk.iconst X53 hx (v := (2 : Int32)) (hb hby at_161) rfl rfl ?_
      refine Wk.icmpYes X53 hx (hb hby at_162) (by decide) (q := 175) rfl (tlt (by decide : (0 : Int32) < (2 : Int32))).1 ?_
      refine Wk.iload X53 hx (hb hby at_175) rfl rfl ?_
      refine Wk.iconst X53 hx (v := (3 : Int32)) (hb hby at_177) rfl rfl ?_
      refine Wk.icmpYes X53 hx (hb hby at_178) (by decide) (q := 191) rfl (tlt (by decide : (0 : Int32) < (3 : Int32))).1 ?_
      refine Wk.iload X53 hx (hb hby at_191) rfl rfl ?_
      refine Wk.iconst X53 hx (v := (1 : Int32)) (hb hby at_193) rfl rfl ?_
      refine Wk.icmpYes X53 hx (hb hby at_194) (by decide) (q := 203) rfl (tlt (by decide : (0 : Int32) < (1 : Int32))).1 ?_
      refine Wk.iload X53 hx (hb hby at_203) rfl rfl ?_
      refine Wk.iconst X53 hx (v := (2 : Int32)) (hb hby at_205) rfl rfl ?_
      refine Wk.icmpYes X53 hx (hb hby at_206) (by decide) (q := 215) rfl (tlt (by decide : (0 : Int32) < (2 : Int32))).1 ?_
      refine Wk.iload X53 hx (hb hby at_215) rfl rfl ?_
      refine Wk.iconst X53 hx (v := (3 : Int32)) (hb hby at_217) rfl rfl ?_
      refine Wk.icmpYes X53 hx (hb hby at_218) (by decide) (q := 227) rfl (tlt (by decide : (0 : Int32) < (3 : Int32))).1 ?_
      refine Wk.aload X53 hx (hb hby at_227) rfl rfl rfl ?_
      refine Wk.callV X53 hx hZ (y := (⟨"com/example/accumulus/accumulus/account/LoanAccount", "nextWaitingDay", "()Ljava/time/LocalDate;"⟩ : MethodName)) (z := (⟨"com/example/accumulus/accumulus/account/LoanAccount", "nextWaitingDay", "()Ljava/time/LocalDate;"⟩ : MethodName)) hown (w 120 _ rfl) (w 121 _ rfl) (notFace_of_selects (args := #[]) (mvT hZ (w 123 _ rfl))) (w 123 _ rfl) (w 122 _ rfl) (by decide) (as' := []) (backOf (W := 0) (rm_nwN l Z a0 hw [] a46 d50 el50 (0 : Int32) kE50 [.null, .null, .null, .null, .null, .null, .null, .null, .null, .null, .null, .null, .null, .null, .null, .null, .null] h50 O52 q50_3 q50_5 q50_6 q50_7 q50_9 (by first | assumption | rfl | decide | exact Nat.le_of_ble_eq_true rfl) (by first | assumption | rfl | decide | exact Nat.le_of_ble_eq_true rfl) (by first | assumption | rfl | decide | exact Nat.le_of_ble_eq_true rfl)) hZ (w 124 _ rfl) (w 75 _ rfl) (by decide) (by decide)) e53 q50_2 (by rw [hml]; rfl) (rest := []) (lenOf pd25 rfl) rfl (Nat.le_of_eq rfl) (hb hby at_229) rfl (by decide) (by decide) ?_
      intro T55 h55 v55 L55 X55 e55 hQ55
      obtain ⟨rfl, Nq55, K55⟩ := hQ55
      have N55 := Fk.app N53 Nq55 KK54.1 all0
      rw [K55] at e55
      show Wp p e below _ _ T55 (mkF m 232 #[.val (.int p0), .val (.int p1), .val (.int p2), .val (.int p3), .val (.long j1), .second, .val (.long j2), .second, .val (.long j3), .second, .val (.ref a4), .val (.int (0 : Int32)), .val (.int (0 : Int32)), .val .null, .val (.ref a46), .val (.int (1 : Int32)), .unset, .unset] [.null])
      refine Wk.astore X55 hx (Ls' := #[.val (.int p0), .val (.int p1), .val (.int p2), .val (.int p3), .val (.long j1), .second, .val (.long j2), .second, .val (.long j3), .second, .val (.ref a4), .val (.int (0 : Int32)), .val (.int (0 : Int32)), .val .null, .val (.ref a46), .val (.int (1 : Int32)), .val .null, .unset]) (hb hby at_232) rfl rfl rfl ?_
      refine Wk.iload X55 hx (hb hby at_234) rfl rfl ?_
      refine Wk.ifNo X55 hx (hb hby at_236) rfl ((if0 _ _).trans (feq (by decide : ¬ ((1 : Int32) = (0 : Int32)))).1) ?_
      refine Wk.aload X55 hx (hb hby at_239) rfl rfl rfl ?_
      refine Wk.aload X55 hx (hb hby at_241) rfl rfl rfl ?_
      refine Wk.callS X55 hx hZ hown (w 174 _ rfl) (w 175 _ rfl) (w 176 _ rfl) (w 177 _ rfl) (by decide) (as' := [.null, .null]) (backOf (W := 0) (rm_smN l Z a0 hw [] h50 O52) hZ (w 177 _ rfl) (w 176 _ rfl) (by decide) (by decide)) e55 (by rw [hml]; rfl) (rest := []) (lenOf pd26 rfl) rfl (Nat.le_of_eq rfl) (hb hby at_243) rfl (by decide) (by decide) ?_
      intro T56 h56 v56 L56 X56 e56 hQ56
      obtain ⟨rfl, Nq56, K56⟩ := hQ56
      have N56 := Fk.app N55 Nq56 KK54.1 all0
      rw [K56] at e56
      show Wp p e below _ _ T56 (mkF m 246 #[.val (.int p0), .val (.int p1), .val (.int p2), .val (.int p3), .val (.long j1), .second, .val (.long j2), .second, .val (.long j3), .second, .val (.ref a4), .val (.int (0 : Int32)), .val (.int (0 : Int32)), .val .null, .val (.ref a46), .val (.int (1 : Int32)), .val .null, .unset] [(.int (1 : Int32))])
      refine Wk.ifNo X56 hx (hb hby at_246) rfl ((if0 _ _).trans (feq (by decide : ¬ ((1 : Int32) = (0 : Int32)))).1) ?_
      refine Wk.iconst X56 hx (v := (1 : Int32)) (hb hby at_249) rfl rfl ?_
      refine Wk.goto X56 hx (hb hby at_250) (by decide) (q := 254) rfl ?_
      refine Wk.istore X56 hx (Ls' := #[.val (.int p0), .val (.int p1), .val (.int p2), .val (.int p3), .val (.long j1), .second, .val (.long j2), .second, .val (.long j3), .second, .val (.ref a4), .val (.int (0 : Int32)), .val (.int (0 : Int32)), .val .null, .val (.ref a46), .val (.int (1 : Int32)), .val .null, .unset]) (hb hby at_254) rfl rfl ?_
      refine Wk.aload X56 hx (hb hby at_256) rfl rfl rfl ?_
      refine Wk.callV X56 hx hZ (y := (⟨"com/example/accumulus/accumulus/account/LoanAccount", "nextWaitingDay", "()Ljava/time/LocalDate;"⟩ : MethodName)) (z := (⟨"com/example/accumulus/accumulus/account/LoanAccount", "nextWaitingDay", "()Ljava/time/LocalDate;"⟩ : MethodName)) hown (w 120 _ rfl) (w 121 _ rfl) (notFace_of_selects (args := #[]) (mvT hZ (w 123 _ rfl))) (w 123 _ rfl) (w 122 _ rfl) (by decide) (as' := []) (backOf (W := 0) (rm_nwN l Z a0 hw [] a46 d50 el50 (0 : Int32) kE50 [.null, .null, .null, .null, .null, .null, .null, .null, .null, .null, .null, .null, .null, .null, .null, .null, .null] h50 O52 q50_3 q50_5 q50_6 q50_7 q50_9 (by first | assumption | rfl | decide | exact Nat.le_of_ble_eq_true rfl) (by first | assumption | rfl | decide | exact Nat.le_of_ble_eq_true rfl) (by first | assumption | rfl | decide | exact Nat.le_of_ble_eq_true rfl)) hZ (w 124 _ rfl) (w 75 _ rfl) (by decide) (by decide)) e56 q50_2 (by rw [hml]; rfl) (rest := []) (lenOf pd25 rfl) rfl (Nat.le_of_eq rfl) (hb hby at_258) rfl (by decide) (by decide) ?_
      intro T57 h57 v57 L57 X57 e57 hQ57
      obtain ⟨rfl, Nq57, K57⟩ := hQ57
      have N57 := Fk.app N56 Nq57 KK54.1 all0
      rw [K57] at e57
      show Wp p e below _ _ T57 (mkF m 261 #[.val (.int p0), .val (.int p1), .val (.int p2), .val (.int p3), .val (.long j1), .second, .val (.long j2), .second, .val (.long j3), .second, .val (.ref a4), .val (.int (0 : Int32)), .val (.int (0 : Int32)), .val .null, .val (.ref a46), .val (.int (1 : Int32)), .val .null, .unset] [.null])
      refine Wk.astore X57 hx (Ls' := #[.val (.int p0), .val (.int p1), .val (.int p2), .val (.int p3), .val (.long j1), .second, .val (.long j2), .second, .val (.long j3), .second, .val (.ref a4), .val (.int (0 : Int32)), .val (.int (0 : Int32)), .val .null, .val (.ref a46), .val (.int (1 : Int32)), .val .null, .val .null]) (hb hby at_261) rfl rfl rfl ?_
      refine Wk.iload X57 hx (hb hby at_263) rfl rfl ?_
      refine Wk.ifNo X57 hx (hb hby at_265) rfl ((if0 _ _).trans (feq (by decide : ¬ ((1 : Int32) = (0 : Int32)))).1) ?_
      refine Wk.aload X57 hx (hb hby at_268) rfl rfl rfl ?_
      refine Wk.aload X57 hx (hb hby at_270) rfl rfl rfl ?_
      refine Wk.callS X57 hx hZ hown (w 174 _ rfl) (w 175 _ rfl) (w 176 _ rfl) (w 177 _ rfl) (by decide) (as' := [.null, .null]) (backOf (W := 0) (rm_smN l Z a0 hw [] h50 O52) hZ (w 177 _ rfl) (w 176 _ rfl) (by decide) (by decide)) e57 (by rw [hml]; rfl) (rest := []) (lenOf pd26 rfl) rfl (Nat.le_of_eq rfl) (hb hby at_272) rfl (by decide) (by decide) ?_
      intro T58 h58 v58 L58 X58 e58 hQ58
      obtain ⟨rfl, Nq58, K58⟩ := hQ58
      have N58 := Fk.app N57 Nq58 KK54.1 all0
      rw [K58] at e58
      show Wp p e below _ _ T58 (mkF m 275 #[.val (.int p0), .val (.int p1), .val (.int p2), .val (.int p3), .val (.long j1), .second, .val (.long j2), .second, .val (.long j3), .second, .val (.ref a4), .val (.int (0 : Int32)), .val (.int (0 : Int32)), .val .null, .val (.ref a46), .val (.int (1 : Int32)), .val .null, .val .null] [(.int (1 : Int32))])
      refine Wk.ifNo X58 hx (hb hby at_275) rfl ((if0 _ _).trans (feq (by decide : ¬ ((1 : Int32) = (0 : Int32)))).1) ?_
      refine Wk.iconst X58 hx (v := (1 : Int32)) (hb hby at_278) rfl rfl ?_
      refine Wk.goto X58 hx (hb hby at_279) (by decide) (q := 283) rfl ?_
      refine Wk.istore X58 hx (Ls' := #[.val (.int p0), .val (.int p1), .val (.int p2), .val (.int p3), .val (.long j1), .second, .val (.long j2), .second, .val (.long j3), .second, .val (.ref a4), .val (.int (0 : Int32)), .val (.int (0 : Int32)), .val .null, .val (.ref a46), .val (.int (1 : Int32)), .val .null, .val .null]) (hb hby at_283) rfl rfl ?_
      refine Wk.iload X58 hx (hb hby at_285) rfl rfl ?_
      exact Wk.retZ' X58 hx hlk hr (by simp) (hb hby at_287) (by decide) (by decide) (Qc := Q_rm_law Z p0 p1 p2 p3 u vr_ ed h0) e58 ⟨rfl, N58, KK54⟩
  · skip
    refine Wk.iloadN X40 hx (hb hby at_62) rfl rfl ?_
    refine Wk.iconst X40 hx (v := (2 : Int32)) (hb hby at_63) rfl rfl ?_
    refine Wk.iushr X40 hx (hb hby at_64) rfl ?_
    refine Wk.iconst X40 hx (v := (3 : Int32)) (hb hby at_65) rfl rfl ?_
    refine Wk.iand X40 hx (hb hby at_66) rfl ?_
    refine Wk.iload X40 hx (hb hby at_67) rfl rfl ?_
    obtain ⟨mm59, hmm59⟩ : ∃ z : Int32, z = (((p3.toUInt32 >>> ((2 : Int32) &&& 31).toUInt32).toInt32) &&& (3 : Int32)) := ⟨_, rfl⟩
    rw [← hmm59]
    refine Wk.callS X40 hx hZ hown (w 69 _ rfl) (w 70 _ rfl) (w 71 _ rfl) (w 72 _ rfl) (by decide) (as' := [(.int mm59), (.int (1 : Int32))]) (backOf (W := 0) (rm_mmin l Z a0 hw [] mm59 (1 : Int32) h40 O41) hZ (w 72 _ rfl) (w 71 _ rfl) (by decide) (by decide)) e40 (by rw [hml]; rfl) (rest := []) (lenOf pd19 rfl) rfl (Nat.le_of_eq rfl) (hb hby at_69) rfl (by decide) (by decide) ?_
    intro T60 h60 v60 L60 X60 e60 hQ60
    obtain ⟨r60, rfl, Nq60, K60, q60_0⟩ := hQ60
    have KK61 : Keep h0 h40 [] := ((KK30.trans K36 all0).wr W40 (Or.inr (Nat.le_of_eq g4)))
    have N60 := Fk.app N40 Nq60 KK61.1 all0
    rw [K60] at e60
    show Wp p e below _ _ T60 (mkF m 72 #[.val (.int p0), .val (.int p1), .val (.int p2), .val (.int p3), .val (.long j1), .second, .val (.long j2), .second, .val (.long j3), .second, .val (.ref a4), .val (.int (1 : Int32)), .unset, .unset, .unset, .unset, .unset, .unset] [(.int r60)])
    have hk59 : r60 = 0 ∨ r60 = 1 := by
      exact own_min1 hmm59 q60_0
    rcases hk59 with rfl | rfl
    · skip
      refine Wk.istore X60 hx (Ls' := #[.val (.int p0), .val (.int p1), .val (.int p2), .val (.int p3), .val (.long j1), .second, .val (.long j2), .second, .val (.long j3), .second, .val (.ref a4), .val (.int (1 : Int32)), .val (.int (0 : Int32)), .unset, .unset, .unset, .unset, .unset]) (hb hby at_72) rfl rfl ?_
      refine Wk.iload X60 hx (hb hby at_74) rfl rfl ?_
      refine Wk.iload X60 hx (hb hby at_76) rfl rfl ?_
      refine Wk.icmpNo X60 hx (hb hby at_78) rfl (tlt (by decide : (0 : Int32) < (1 : Int32))).2.1 ?_
      refine Wk.aload X60 hx (hb hby at_81) rfl rfl rfl ?_
      refine Wk.iload X60 hx (hb hby at_83) rfl rfl ?_
      refine Wk.aaload X60 hx hZ e60 (C := (.object "java/time/LocalDate")) V40 (by decide) (by decide) (v := (.ref x12)) rfl rfl (hb hby at_85) rfl ?_
      refine Wk.goto X60 hx (hb hby at_86) (by decide) (q := 90) rfl ?_
      refine Wk.astore X60 hx (Ls' := #[.val (.int p0), .val (.int p1), .val (.int p2), .val (.int p3), .val (.long j1), .second, .val (.long j2), .second, .val (.long j3), .second, .val (.ref a4), .val (.int (1 : Int32)), .val (.int (0 : Int32)), .val (.ref x12), .unset, .unset, .unset, .unset]) (hb hby at_90) rfl rfl rfl ?_
      refine Wk.new X60 hx hZ hown (w 73 _ rfl) (w 74 _ rfl) (w 75 _ rfl) e60 (hb hby at_92) rfl (by decide) (by decide) ?_
      intro T62 h62 a62 g62 X62 e62 E62 A62 D62
      have O63 : Old Z Z.heap.size h62 := O41.ext E62
      have f64 : Fld Z h62 a62 "com/example/accumulus/accumulus/account/LoanAccount" "loans" "Ljava/util/List;" .null := D62 (Or.inr (w 105 _ rfl)) (ty := (.object "java/util/List")) (by decide)
      have f65 : Fld Z h62 a62 "com/example/accumulus/accumulus/account/LoanAccount" "waiting" "Ljava/util/ArrayDeque;" .null := D62 (Or.inr (w 119 _ rfl)) (ty := (.object "java/util/ArrayDeque")) (by decide)
      refine Wk.dup X62 hx (hb hby at_95) rfl rfl ?_
      refine Wk.callI X62 hx hZ rfl hown (w 76 _ rfl) (w 77 _ rfl) (w 78 _ rfl) (by decide) (as' := []) (backOf (W := 1) (rm_lai l Z a0 hw [] a62 ed h62 O63 A62 f64 f65 (Nat.le_trans (Nat.le_trans (Nat.le_trans (Nat.le_of_eq O0.1.symm) O0.2.1) KK61.1) (Nat.le_of_eq g62)) sD) hZ (w 78 _ rfl) (w 75 _ rfl) (by decide) (by decide)) e62 (by rw [hml]; rfl) (rest := [(.ref a62)]) (lenOf pd12 rfl) rfl (Nat.le_of_eq rfl) (hb hby at_96) rfl (by decide) (by decide) ?_
      intro T66 h66 v66 L66 X66 e66 hQ66
      obtain ⟨d66, el66, kE66, rfl, Nq66, K66, q66_0, q66_1, q66_2, q66_3, q66_4, q66_5, q66_6, q66_7, q66_8, q66_9⟩ := hQ66
      have KK67 : Keep h0 h62 [] := (KK61.ext E62)
      have N66 := Fk.app N60 Nq66 KK67.1 (allS (Or.inr (Nat.le_trans KK61.1 (Nat.le_of_eq g62))) all0)
      have O68 : Old Z Z.heap.size h66 := O63.keep K66 (allS (Nat.le_trans (Nat.le_trans (Nat.le_trans (Nat.le_of_eq O0.1.symm) O0.2.1) KK61.1) (Nat.le_of_eq g62)) all0)
      show Wp p e below _ _ T66 (mkF m 99 #[.val (.int p0), .val (.int p1), .val (.int p2), .val (.int p3), .val (.long j1), .second, .val (.long j2), .second, .val (.long j3), .second, .val (.ref a4), .val (.int (1 : Int32)), .val (.int (0 : Int32)), .val (.ref x12), .unset, .unset, .unset, .unset] [(.ref a62)])
      refine Wk.astore X66 hx (Ls' := #[.val (.int p0), .val (.int p1), .val (.int p2), .val (.int p3), .val (.long j1), .second, .val (.long j2), .second, .val (.long j3), .second, .val (.ref a4), .val (.int (1 : Int32)), .val (.int (0 : Int32)), .val (.ref x12), .val (.ref a62), .unset, .unset, .unset]) (hb hby at_99) rfl rfl rfl ?_
      refine Wk.aload X66 hx (hb hby at_101) rfl rfl rfl ?_
      refine Wk.callV X66 hx hZ (y := (⟨"com/example/accumulus/accumulus/account/LoanAccount", "nextWaitingDay", "()Ljava/time/LocalDate;"⟩ : MethodName)) (z := (⟨"com/example/accumulus/accumulus/account/LoanAccount", "nextWaitingDay", "()Ljava/time/LocalDate;"⟩ : MethodName)) hown (w 120 _ rfl) (w 121 _ rfl) (notFace_of_selects (args := #[]) (mvT hZ (w 123 _ rfl))) (w 123 _ rfl) (w 122 _ rfl) (by decide) (as' := []) (backOf (W := 0) (rm_nwN l Z a0 hw [] a62 d66 el66 (0 : Int32) kE66 [.null, .null, .null, .null, .null, .null, .null, .null, .null, .null, .null, .null, .null, .null, .null, .null, .null] h66 O68 q66_3 q66_5 q66_6 q66_7 q66_9 (by first | assumption | rfl | decide | exact Nat.le_of_ble_eq_true rfl) (by first | assumption | rfl | decide | exact Nat.le_of_ble_eq_true rfl) (by first | assumption | rfl | decide | exact Nat.le_of_ble_eq_true rfl)) hZ (w 124 _ rfl) (w 75 _ rfl) (by decide) (by decide)) e66 q66_2 (by rw [hml]; rfl) (rest := []) (lenOf pd25 rfl) rfl (Nat.le_of_eq rfl) (hb hby at_103) rfl (by decide) (by decide) ?_
      intro T69 h69 v69 L69 X69 e69 hQ69
      obtain ⟨rfl, Nq69, K69⟩ := hQ69
      have KK70 : Keep h0 h66 [] := (KK67.trans K66 (allS (Or.inr (Nat.le_trans KK61.1 (Nat.le_of_eq g62))) all0))
      have N69 := Fk.app N66 Nq69 KK70.1 all0
      rw [K69] at e69
      show Wp p e below _ _ T69 (mkF m 106 #[.val (.int p0), .val (.int p1), .val (.int p2), .val (.int p3), .val (.long j1), .second, .val (.long j2), .second, .val (.long j3), .second, .val (.ref a4), .val (.int (1 : Int32)), .val (.int (0 : Int32)), .val (.ref x12), .val (.ref a62), .unset, .unset, .unset] [.null])
      refine Wk.ifnonnullNo X69 hx (hb hby at_106) rfl ?_
      refine Wk.iconst X69 hx (v := (1 : Int32)) (hb hby at_109) rfl rfl ?_
      refine Wk.goto X69 hx (hb hby at_110) (by decide) (q := 114) rfl ?_
      refine Wk.istore X69 hx (Ls' := #[.val (.int p0), .val (.int p1), .val (.int p2), .val (.int p3), .val (.long j1), .second, .val (.long j2), .second, .val (.long j3), .second, .val (.ref a4), .val (.int (1 : Int32)), .val (.int (0 : Int32)), .val (.ref x12), .val (.ref a62), .val (.int (1 : Int32)), .unset, .unset]) (hb hby at_114) rfl rfl ?_
      refine Wk.iload X69 hx (hb hby at_116) rfl rfl ?_
      refine Wk.iconst X69 hx (v := (1 : Int32)) (hb hby at_118) rfl rfl ?_
      refine Wk.icmpNo X69 hx (hb hby at_119) rfl (flt (by decide : ¬ ((1 : Int32) < (1 : Int32)))).1 ?_
      refine Wk.aload X69 hx (hb hby at_122) rfl rfl rfl ?_
      refine Wk.aconstNull X69 hx (hb hby at_124) rfl ?_
      refine Wk.aload X69 hx (hb hby at_125) rfl rfl rfl ?_
      refine Wk.iconst X69 hx (v := (0 : Int32)) (hb hby at_127) rfl rfl ?_
      have KK71 : Keep h40 h66 [] := (((Keep.refl h40 []).ext E62).trans K66 (allS (Or.inr (Nat.le_of_eq g62)) all0))
      have f72 : Arv Z h66 a4 kA4 (.object "java/time/LocalDate") (3 : Int32) [(.ref x12), (.ref x24), (.ref x36)] .null := (V40.keep KK71 nin0)
      refine Wk.aaload X69 hx hZ e69 (C := (.object "java/time/LocalDate")) f72 (by decide) (by decide) (v := (.ref x12)) rfl rfl (hb hby at_128) rfl ?_
      refine Wk.callV X69 hx hZ (y := (⟨"com/example/accumulus/accumulus/account/LoanAccount", "await", "(Lcom/example/accumulus/accumulus/journal/JournalEntry;Ljava/time/LocalDate;)V"⟩ : MethodName)) (z := (⟨"com/example/accumulus/accumulus/account/LoanAccount", "await", "(Lcom/example/accumulus/accumulus/journal/JournalEntry;Ljava/time/LocalDate;)V"⟩ : MethodName)) hown (w 140 _ rfl) (w 141 _ rfl) (notFace_of_selects (args := #[]) (mvT hZ (w 143 _ rfl))) (w 143 _ rfl) (w 142 _ rfl) (by decide) (as' := [.null, (.ref x12)]) (backOf (W := 0) (rm_awt l Z a0 hw [] a62 d66 el66 (0 : Int32) (0 : Int32) (1 : Int32) kE66 [.null, .null, .null, .null, .null, .null, .null, .null, .null, .null, .null, .null, .null, .null, .null, .null, .null] x12 h66 O68 q66_3 q66_5 q66_6 q66_7 q66_8 q66_9 (by first | assumption | rfl | decide | exact Nat.le_of_ble_eq_true rfl) (by first | assumption | rfl | decide | exact Nat.le_of_ble_eq_true rfl) (by first | assumption | rfl | decide | exact Nat.le_of_ble_eq_true rfl) (by first | assumption | rfl | decide | exact Nat.le_of_ble_eq_true rfl) (by first | assumption | rfl | decide | exact Nat.le_of_ble_eq_true rfl) (by first | assumption | rfl | decide | exact Nat.le_of_ble_eq_true rfl) (Nat.le_trans (Nat.le_trans (Nat.le_trans (Nat.le_of_eq O0.1.symm) O0.2.1) KK67.1) q66_0) (Nat.le_trans (Nat.le_trans (Nat.le_trans (Nat.le_of_eq O0.1.symm) O0.2.1) KK67.1) q66_1) q66_4) hZ (w 144 _ rfl) (w 75 _ rfl) (by decide) (by decide)) e69 q66_2 (by rw [hml]; rfl) (rest := []) (lenOf pd21 rfl) rfl (Nat.le_of_eq rfl) (hb hby at_129) rfl (by decide) (by decide) ?_
      intro T73 h73 v73 L73 X73 e73 hQ73
      obtain ⟨w_73, rfl, Nq73, K73, q73_0, q73_1, q73_2, q73_3, q73_4, q73_5, q73_6, q73_7, q73_8⟩ := hQ73
      have N73 := Fk.app N69 Nq73 KK70.1 (allS (Or.inr (Nat.le_trans KK67.1 q66_0)) (allS (Or.inr (Nat.le_trans KK67.1 q66_1)) all0))
      have O74 : Old Z Z.heap.size h73 := O68.keep K73 (allS (Nat.le_trans (Nat.le_trans (Nat.le_trans (Nat.le_of_eq O0.1.symm) O0.2.1) KK67.1) q66_0) (allS (Nat.le_trans (Nat.le_trans (Nat.le_trans (Nat.le_of_eq O0.1.symm) O0.2.1) KK67.1) q66_1) all0))
      have Vl75 : Arv Z h73 el66 kE66 (.object "java/lang/Object") (17 : Int32) [(.ref w_73), .null, .null, .null, .null, .null, .null, .null, .null, .null, .null, .null, .null, .null, .null, .null, .null] .null := q73_8
      show Wp p e below _ _ T73 (mkF m 132 #[.val (.int p0), .val (.int p1), .val (.int p2), .val (.int p3), .val (.long j1), .second, .val (.long j2), .second, .val (.long j3), .second, .val (.ref a4), .val (.int (1 : Int32)), .val (.int (0 : Int32)), .val (.ref x12), .val (.ref a62), .val (.int (1 : Int32)), .unset, .unset] [])
      refine Wk.iload X73 hx (hb hby at_132) rfl rfl ?_
      refine Wk.ifNo X73 hx (hb hby at_134) rfl ((if0 _ _).trans (feq (by decide : ¬ ((1 : Int32) = (0 : Int32)))).1) ?_
      refine Wk.aload X73 hx (hb hby at_137) rfl rfl rfl ?_
      have KK76 : Keep h66 h73 [d66, el66] := ((Keep.refl h66 [d66, el66]).trans K73 (allS (Or.inl (List.mem_of_getElem? (i := 0) rfl)) (allS (Or.inl (List.mem_of_getElem? (i := 1) rfl)) all0)))
      have f77 : Fld Z h73 a62 "com/example/accumulus/accumulus/account/LoanAccount" "waiting" "Ljava/util/ArrayDeque;" (.ref d66) := (q66_3.keep KK76 (ninS (Nat.ne_of_lt (Nat.lt_of_lt_of_le A62.lt q66_0)) (ninS (Nat.ne_of_lt (Nat.lt_of_lt_of_le A62.lt q66_1)) nin0)))
      have KK79 : Keep h62 h73 [a62] := (((Keep.refl h62 [a62]).trans K66 (allS (Or.inl (List.mem_of_getElem? (i := 0) rfl)) all0)).trans K73 (allS (Or.inr q66_0) (allS (Or.inr q66_1) all0)))
      have f80 : Exa Z h73 a62 "com/example/accumulus/accumulus/account/LoanAccount" := (A62.keep KK79)
      refine Wk.callV X73 hx hZ (y := (⟨"com/example/accumulus/accumulus/account/LoanAccount", "nextWaitingDay", "()Ljava/time/LocalDate;"⟩ : MethodName)) (z := (⟨"com/example/accumulus/accumulus/account/LoanAccount", "nextWaitingDay", "()Ljava/time/LocalDate;"⟩ : MethodName)) hown (w 120 _ rfl) (w 121 _ rfl) (notFace_of_selects (args := #[]) (mvT hZ (w 123 _ rfl))) (w 123 _ rfl) (w 122 _ rfl) (by decide) (as' := []) (backOf (W := 0) (rm_nwR l Z a0 hw [] a62 d66 el66 (0 : Int32) kE66 [(.ref w_73), .null, .null, .null, .null, .null, .null, .null, .null, .null, .null, .null, .null, .null, .null, .null, .null] w_73 x12 h73 O74 f77 q73_4 q73_5 q73_6 Vl75 (by first | assumption | rfl | decide | exact Nat.le_of_ble_eq_true rfl) (by first | assumption | rfl | decide | exact Nat.le_of_ble_eq_true rfl) (by first | assumption | rfl | decide | exact Nat.le_of_ble_eq_true rfl) q73_1 q73_2) hZ (w 124 _ rfl) (w 75 _ rfl) (by decide) (by decide)) e73 f80 (by rw [hml]; rfl) (rest := []) (lenOf pd25 rfl) rfl (Nat.le_of_eq rfl) (hb hby at_139) rfl (by decide) (by decide) ?_
      intro T78 h78 v78 L78 X78 e78 hQ78
      obtain ⟨rfl, Nq78, K78⟩ := hQ78
      have KK81 : Keep h0 h73 [] := (KK70.trans K73 (allS (Or.inr (Nat.le_trans KK67.1 q66_0)) (allS (Or.inr (Nat.le_trans KK67.1 q66_1)) all0)))
      have N78 := Fk.app N73 Nq78 KK81.1 all0
      rw [K78] at e78
      show Wp p e below _ _ T78 (mkF m 142 #[.val (.int p0), .val (.int p1), .val (.int p2), .val (.int p3), .val (.long j1), .second, .val (.long j2), .second, .val (.long j3), .second, .val (.ref a4), .val (.int (1 : Int32)), .val (.int (0 : Int32)), .val (.ref x12), .val (.ref a62), .val (.int (1 : Int32)), .unset, .unset] [(.ref x12)])
      refine Wk.aload X78 hx (hb hby at_142) rfl rfl rfl ?_
      refine Wk.iconst X78 hx (v := (0 : Int32)) (hb hby at_144) rfl rfl ?_
      have KK82 : Keep h40 h62 [] := ((Keep.refl h40 []).ext E62)
      have KK83 : Keep h40 h73 [] := (KK71.trans K73 (allS (Or.inr (Nat.le_trans KK82.1 q66_0)) (allS (Or.inr (Nat.le_trans KK82.1 q66_1)) all0)))
      have f84 : Arv Z h73 a4 kA4 (.object "java/time/LocalDate") (3 : Int32) [(.ref x12), (.ref x24), (.ref x36)] .null := (V40.keep KK83 nin0)
      refine Wk.aaload X78 hx hZ e78 (C := (.object "java/time/LocalDate")) f84 (by decide) (by decide) (v := (.ref x12)) rfl rfl (hb hby at_145) rfl ?_
      have KK85 : Keep h12 h40 [a4] := ((((((Keep.refl h12 [a4]).wr W16 (Or.inl (List.mem_of_getElem? (i := 0) rfl))).trans K24 all0).wr W28 (Or.inl (List.mem_of_getElem? (i := 0) rfl))).trans K36 all0).wr W40 (Or.inl (List.mem_of_getElem? (i := 0) rfl)))
      have KK86 : Keep h12 h62 [a4] := (KK85.ext E62)
      have KK87 : Keep h12 h73 [a4] := (((((((((Keep.refl h12 [a4]).wr W16 (Or.inl (List.mem_of_getElem? (i := 0) rfl))).trans K24 all0).wr W28 (Or.inl (List.mem_of_getElem? (i := 0) rfl))).trans K36 all0).wr W40 (Or.inl (List.mem_of_getElem? (i := 0) rfl))).ext E62).trans K66 (allS (Or.inr (Nat.le_trans KK85.1 (Nat.le_of_eq g62))) all0)).trans K73 (allS (Or.inr (Nat.le_trans KK86.1 q66_0)) (allS (Or.inr (Nat.le_trans KK86.1 q66_1)) all0)))
      have f88 : Exa Z h73 x12 "java/time/LocalDate" := (q12_1.keep KK87)
      refine Wk.callS X78 hx hZ hown (w 174 _ rfl) (w 175 _ rfl) (w 176 _ rfl) (w 177 _ rfl) (by decide) (as' := [(.ref x12), (.ref x12)]) (backOf (W := 0) (rm_smR l Z a0 hw [] x12 h73 O74 f88) hZ (w 177 _ rfl) (w 176 _ rfl) (by decide) (by decide)) e78 (by rw [hml]; rfl) (rest := []) (lenOf pd26 rfl) rfl (Nat.le_of_eq rfl) (hb hby at_146) rfl (by decide) (by decide) ?_
      intro T89 h89 v89 L89 X89 e89 hQ89
      obtain ⟨rfl, Nq89, K89⟩ := hQ89
      have N89 := Fk.app N78 Nq89 KK81.1 all0
      rw [K89] at e89
      show Wp p e below _ _ T89 (mkF m 149 #[.val (.int p0), .val (.int p1), .val (.int p2), .val (.int p3), .val (.long j1), .second, .val (.long j2), .second, .val (.long j3), .second, .val (.ref a4), .val (.int (1 : Int32)), .val (.int (0 : Int32)), .val (.ref x12), .val (.ref a62), .val (.int (1 : Int32)), .unset, .unset] [(.int (1 : Int32))])
      refine Wk.ifNo X89 hx (hb hby at_149) rfl ((if0 _ _).trans (feq (by decide : ¬ ((1 : Int32) = (0 : Int32)))).1) ?_
      refine Wk.iconst X89 hx (v := (1 : Int32)) (hb hby at_152) rfl rfl ?_
      refine Wk.goto X89 hx (hb hby at_153) (by decide) (q := 157) rfl ?_
      refine Wk.istore X89 hx (Ls' := #[.val (.int p0), .val (.int p1), .val (.int p2), .val (.int p3), .val (.long j1), .second, .val (.long j2), .second, .val (.long j3), .second, .val (.ref a4), .val (.int (1 : Int32)), .val (.int (0 : Int32)), .val (.ref x12), .val (.ref a62), .val (.int (1 : Int32)), .unset, .unset]) (hb hby at_157) rfl rfl ?_
      refine Wk.iload X89 hx (hb hby at_159) rfl rfl ?_
      refine Wk.iconst X89 hx (v := (2 : Int32)) (hb hby at_161) rfl rfl ?_
      refine Wk.icmpYes X89 hx (hb hby at_162) (by decide) (q := 175) rfl (tlt (by decide : (1 : Int32) < (2 : Int32))).1 ?_
      refine Wk.iload X89 hx (hb hby at_175) rfl rfl ?_
      refine Wk.iconst X89 hx (v := (3 : Int32)) (hb hby at_177) rfl rfl ?_
      refine Wk.icmpYes X89 hx (hb hby at_178) (by decide) (q := 191) rfl (tlt (by decide : (1 : Int32) < (3 : Int32))).1 ?_
      refine Wk.iload X89 hx (hb hby at_191) rfl rfl ?_
      refine Wk.iconst X89 hx (v := (1 : Int32)) (hb hby at_193) rfl rfl ?_
      refine Wk.icmpYes X89 hx (hb hby at_194) (by decide) (q := 203) rfl (tlt (by decide : (0 : Int32) < (1 : Int32))).1 ?_
      refine Wk.iload X89 hx (hb hby at_203) rfl rfl ?_
      refine Wk.iconst X89 hx (v := (2 : Int32)) (hb hby at_205) rfl rfl ?_
      refine Wk.icmpYes X89 hx (hb hby at_206) (by decide) (q := 215) rfl (tlt (by decide : (0 : Int32) < (2 : Int32))).1 ?_
      refine Wk.iload X89 hx (hb hby at_215) rfl rfl ?_
      refine Wk.iconst X89 hx (v := (3 : Int32)) (hb hby at_217) rfl rfl ?_
      refine Wk.icmpYes X89 hx (hb hby at_218) (by decide) (q := 227) rfl (tlt (by decide : (0 : Int32) < (3 : Int32))).1 ?_
      refine Wk.aload X89 hx (hb hby at_227) rfl rfl rfl ?_
      refine Wk.callV X89 hx hZ (y := (⟨"com/example/accumulus/accumulus/account/LoanAccount", "nextWaitingDay", "()Ljava/time/LocalDate;"⟩ : MethodName)) (z := (⟨"com/example/accumulus/accumulus/account/LoanAccount", "nextWaitingDay", "()Ljava/time/LocalDate;"⟩ : MethodName)) hown (w 120 _ rfl) (w 121 _ rfl) (notFace_of_selects (args := #[]) (mvT hZ (w 123 _ rfl))) (w 123 _ rfl) (w 122 _ rfl) (by decide) (as' := []) (backOf (W := 0) (rm_nwR l Z a0 hw [] a62 d66 el66 (0 : Int32) kE66 [(.ref w_73), .null, .null, .null, .null, .null, .null, .null, .null, .null, .null, .null, .null, .null, .null, .null, .null] w_73 x12 h73 O74 f77 q73_4 q73_5 q73_6 Vl75 (by first | assumption | rfl | decide | exact Nat.le_of_ble_eq_true rfl) (by first | assumption | rfl | decide | exact Nat.le_of_ble_eq_true rfl) (by first | assumption | rfl | decide | exact Nat.le_of_ble_eq_true rfl) q73_1 q73_2) hZ (w 124 _ rfl) (w 75 _ rfl) (by decide) (by decide)) e89 f80 (by rw [hml]; rfl) (rest := []) (lenOf pd25 rfl) rfl (Nat.le_of_eq rfl) (hb hby at_229) rfl (by decide) (by decide) ?_
      intro T90 h90 v90 L90 X90 e90 hQ90
      obtain ⟨rfl, Nq90, K90⟩ := hQ90
      have N90 := Fk.app N89 Nq90 KK81.1 all0
      rw [K90] at e90
      show Wp p e below _ _ T90 (mkF m 232 #[.val (.int p0), .val (.int p1), .val (.int p2), .val (.int p3), .val (.long j1), .second, .val (.long j2), .second, .val (.long j3), .second, .val (.ref a4), .val (.int (1 : Int32)), .val (.int (0 : Int32)), .val (.ref x12), .val (.ref a62), .val (.int (1 : Int32)), .unset, .unset] [(.ref x12)])
      refine Wk.astore X90 hx (Ls' := #[.val (.int p0), .val (.int p1), .val (.int p2), .val (.int p3), .val (.long j1), .second, .val (.long j2), .second, .val (.long j3), .second, .val (.ref a4), .val (.int (1 : Int32)), .val (.int (0 : Int32)), .val (.ref x12), .val (.ref a62), .val (.int (1 : Int32)), .val (.ref x12), .unset]) (hb hby at_232) rfl rfl rfl ?_
      refine Wk.iload X90 hx (hb hby at_234) rfl rfl ?_
      refine Wk.ifNo X90 hx (hb hby at_236) rfl ((if0 _ _).trans (feq (by decide : ¬ ((1 : Int32) = (0 : Int32)))).1) ?_
      refine Wk.aload X90 hx (hb hby at_239) rfl rfl rfl ?_
      refine Wk.aload X90 hx (hb hby at_241) rfl rfl rfl ?_
      refine Wk.callS X90 hx hZ hown (w 174 _ rfl) (w 175 _ rfl) (w 176 _ rfl) (w 177 _ rfl) (by decide) (as' := [(.ref x12), (.ref x12)]) (backOf (W := 0) (rm_smR l Z a0 hw [] x12 h73 O74 f88) hZ (w 177 _ rfl) (w 176 _ rfl) (by decide) (by decide)) e90 (by rw [hml]; rfl) (rest := []) (lenOf pd26 rfl) rfl (Nat.le_of_eq rfl) (hb hby at_243) rfl (by decide) (by decide) ?_
      intro T91 h91 v91 L91 X91 e91 hQ91
      obtain ⟨rfl, Nq91, K91⟩ := hQ91
      have N91 := Fk.app N90 Nq91 KK81.1 all0
      rw [K91] at e91
      show Wp p e below _ _ T91 (mkF m 246 #[.val (.int p0), .val (.int p1), .val (.int p2), .val (.int p3), .val (.long j1), .second, .val (.long j2), .second, .val (.long j3), .second, .val (.ref a4), .val (.int (1 : Int32)), .val (.int (0 : Int32)), .val (.ref x12), .val (.ref a62), .val (.int (1 : Int32)), .val (.ref x12), .unset] [(.int (1 : Int32))])
      refine Wk.ifNo X91 hx (hb hby at_246) rfl ((if0 _ _).trans (feq (by decide : ¬ ((1 : Int32) = (0 : Int32)))).1) ?_
      refine Wk.iconst X91 hx (v := (1 : Int32)) (hb hby at_249) rfl rfl ?_
      refine Wk.goto X91 hx (hb hby at_250) (by decide) (q := 254) rfl ?_
      refine Wk.istore X91 hx (Ls' := #[.val (.int p0), .val (.int p1), .val (.int p2), .val (.int p3), .val (.long j1), .second, .val (.long j2), .second, .val (.long j3), .second, .val (.ref a4), .val (.int (1 : Int32)), .val (.int (0 : Int32)), .val (.ref x12), .val (.ref a62), .val (.int (1 : Int32)), .val (.ref x12), .unset]) (hb hby at_254) rfl rfl ?_
      refine Wk.aload X91 hx (hb hby at_256) rfl rfl rfl ?_
      refine Wk.callV X91 hx hZ (y := (⟨"com/example/accumulus/accumulus/account/LoanAccount", "nextWaitingDay", "()Ljava/time/LocalDate;"⟩ : MethodName)) (z := (⟨"com/example/accumulus/accumulus/account/LoanAccount", "nextWaitingDay", "()Ljava/time/LocalDate;"⟩ : MethodName)) hown (w 120 _ rfl) (w 121 _ rfl) (notFace_of_selects (args := #[]) (mvT hZ (w 123 _ rfl))) (w 123 _ rfl) (w 122 _ rfl) (by decide) (as' := []) (backOf (W := 0) (rm_nwR l Z a0 hw [] a62 d66 el66 (0 : Int32) kE66 [(.ref w_73), .null, .null, .null, .null, .null, .null, .null, .null, .null, .null, .null, .null, .null, .null, .null, .null] w_73 x12 h73 O74 f77 q73_4 q73_5 q73_6 Vl75 (by first | assumption | rfl | decide | exact Nat.le_of_ble_eq_true rfl) (by first | assumption | rfl | decide | exact Nat.le_of_ble_eq_true rfl) (by first | assumption | rfl | decide | exact Nat.le_of_ble_eq_true rfl) q73_1 q73_2) hZ (w 124 _ rfl) (w 75 _ rfl) (by decide) (by decide)) e91 f80 (by rw [hml]; rfl) (rest := []) (lenOf pd25 rfl) rfl (Nat.le_of_eq rfl) (hb hby at_258) rfl (by decide) (by decide) ?_
      intro T92 h92 v92 L92 X92 e92 hQ92
      obtain ⟨rfl, Nq92, K92⟩ := hQ92
      have N92 := Fk.app N91 Nq92 KK81.1 all0
      rw [K92] at e92
      show Wp p e below _ _ T92 (mkF m 261 #[.val (.int p0), .val (.int p1), .val (.int p2), .val (.int p3), .val (.long j1), .second, .val (.long j2), .second, .val (.long j3), .second, .val (.ref a4), .val (.int (1 : Int32)), .val (.int (0 : Int32)), .val (.ref x12), .val (.ref a62), .val (.int (1 : Int32)), .val (.ref x12), .unset] [(.ref x12)])
      refine Wk.astore X92 hx (Ls' := #[.val (.int p0), .val (.int p1), .val (.int p2), .val (.int p3), .val (.long j1), .second, .val (.long j2), .second, .val (.long j3), .second, .val (.ref a4), .val (.int (1 : Int32)), .val (.int (0 : Int32)), .val (.ref x12), .val (.ref a62), .val (.int (1 : Int32)), .val (.ref x12), .val (.ref x12)]) (hb hby at_261) rfl rfl rfl ?_
      refine Wk.iload X92 hx (hb hby at_263) rfl rfl ?_
      refine Wk.ifNo X92 hx (hb hby at_265) rfl ((if0 _ _).trans (feq (by decide : ¬ ((1 : Int32) = (0 : Int32)))).1) ?_
      refine Wk.aload X92 hx (hb hby at_268) rfl rfl rfl ?_
      refine Wk.aload X92 hx (hb hby at_270) rfl rfl rfl ?_
      refine Wk.callS X92 hx hZ hown (w 174 _ rfl) (w 175 _ rfl) (w 176 _ rfl) (w 177 _ rfl) (by decide) (as' := [(.ref x12), (.ref x12)]) (backOf (W := 0) (rm_smR l Z a0 hw [] x12 h73 O74 f88) hZ (w 177 _ rfl) (w 176 _ rfl) (by decide) (by decide)) e92 (by rw [hml]; rfl) (rest := []) (lenOf pd26 rfl) rfl (Nat.le_of_eq rfl) (hb hby at_272) rfl (by decide) (by decide) ?_
      intro T93 h93 v93 L93 X93 e93 hQ93
      obtain ⟨rfl, Nq93, K93⟩ := hQ93
      have N93 := Fk.app N92 Nq93 KK81.1 all0
      rw [K93] at e93
      show Wp p e below _ _ T93 (mkF m 275 #[.val (.int p0), .val (.int p1), .val (.int p2), .val (.int p3), .val (.long j1), .second, .val (.long j2), .second, .val (.long j3), .second, .val (.ref a4), .val (.int (1 : Int32)), .val (.int (0 : Int32)), .val (.ref x12), .val (.ref a62), .val (.int (1 : Int32)), .val (.ref x12), .val (.ref x12)] [(.int (1 : Int32))])
      refine Wk.ifNo X93 hx (hb hby at_275) rfl ((if0 _ _).trans (feq (by decide : ¬ ((1 : Int32) = (0 : Int32)))).1) ?_
      refine Wk.iconst X93 hx (v := (1 : Int32)) (hb hby at_278) rfl rfl ?_
      refine Wk.goto X93 hx (hb hby at_279) (by decide) (q := 283) rfl ?_
      refine Wk.istore X93 hx (Ls' := #[.val (.int p0), .val (.int p1), .val (.int p2), .val (.int p3), .val (.long j1), .second, .val (.long j2), .second, .val (.long j3), .second, .val (.ref a4), .val (.int (1 : Int32)), .val (.int (0 : Int32)), .val (.ref x12), .val (.ref a62), .val (.int (1 : Int32)), .val (.ref x12), .val (.ref x12)]) (hb hby at_283) rfl rfl ?_
      refine Wk.iload X93 hx (hb hby at_285) rfl rfl ?_
      exact Wk.retZ' X93 hx hlk hr (by simp) (hb hby at_287) (by decide) (by decide) (Qc := Q_rm_law Z p0 p1 p2 p3 u vr_ ed h0) e93 ⟨rfl, N93, KK81⟩
    · skip
      refine Wk.istore X60 hx (Ls' := #[.val (.int p0), .val (.int p1), .val (.int p2), .val (.int p3), .val (.long j1), .second, .val (.long j2), .second, .val (.long j3), .second, .val (.ref a4), .val (.int (1 : Int32)), .val (.int (1 : Int32)), .unset, .unset, .unset, .unset, .unset]) (hb hby at_72) rfl rfl ?_
      refine Wk.iload X60 hx (hb hby at_74) rfl rfl ?_
      refine Wk.iload X60 hx (hb hby at_76) rfl rfl ?_
      refine Wk.icmpYes X60 hx (hb hby at_78) (by decide) (q := 89) rfl (flt (by decide : ¬ ((1 : Int32) < (1 : Int32)))).2.1 ?_
      refine Wk.aconstNull X60 hx (hb hby at_89) rfl ?_
      refine Wk.astore X60 hx (Ls' := #[.val (.int p0), .val (.int p1), .val (.int p2), .val (.int p3), .val (.long j1), .second, .val (.long j2), .second, .val (.long j3), .second, .val (.ref a4), .val (.int (1 : Int32)), .val (.int (1 : Int32)), .val .null, .unset, .unset, .unset, .unset]) (hb hby at_90) rfl rfl rfl ?_
      refine Wk.new X60 hx hZ hown (w 73 _ rfl) (w 74 _ rfl) (w 75 _ rfl) e60 (hb hby at_92) rfl (by decide) (by decide) ?_
      intro T94 h94 a94 g94 X94 e94 E94 A94 D94
      have O95 : Old Z Z.heap.size h94 := O41.ext E94
      have f96 : Fld Z h94 a94 "com/example/accumulus/accumulus/account/LoanAccount" "loans" "Ljava/util/List;" .null := D94 (Or.inr (w 105 _ rfl)) (ty := (.object "java/util/List")) (by decide)
      have f97 : Fld Z h94 a94 "com/example/accumulus/accumulus/account/LoanAccount" "waiting" "Ljava/util/ArrayDeque;" .null := D94 (Or.inr (w 119 _ rfl)) (ty := (.object "java/util/ArrayDeque")) (by decide)
      refine Wk.dup X94 hx (hb hby at_95) rfl rfl ?_
      refine Wk.callI X94 hx hZ rfl hown (w 76 _ rfl) (w 77 _ rfl) (w 78 _ rfl) (by decide) (as' := []) (backOf (W := 1) (rm_lai l Z a0 hw [] a94 ed h94 O95 A94 f96 f97 (Nat.le_trans (Nat.le_trans (Nat.le_trans (Nat.le_of_eq O0.1.symm) O0.2.1) KK61.1) (Nat.le_of_eq g94)) sD) hZ (w 78 _ rfl) (w 75 _ rfl) (by decide) (by decide)) e94 (by rw [hml]; rfl) (rest := [(.ref a94)]) (lenOf pd12 rfl) rfl (Nat.le_of_eq rfl) (hb hby at_96) rfl (by decide) (by decide) ?_
      intro T98 h98 v98 L98 X98 e98 hQ98
      obtain ⟨d98, el98, kE98, rfl, Nq98, K98, q98_0, q98_1, q98_2, q98_3, q98_4, q98_5, q98_6, q98_7, q98_8, q98_9⟩ := hQ98
      have KK99 : Keep h0 h94 [] := (KK61.ext E94)
      have N98 := Fk.app N60 Nq98 KK99.1 (allS (Or.inr (Nat.le_trans KK61.1 (Nat.le_of_eq g94))) all0)
      have O100 : Old Z Z.heap.size h98 := O95.keep K98 (allS (Nat.le_trans (Nat.le_trans (Nat.le_trans (Nat.le_of_eq O0.1.symm) O0.2.1) KK61.1) (Nat.le_of_eq g94)) all0)
      show Wp p e below _ _ T98 (mkF m 99 #[.val (.int p0), .val (.int p1), .val (.int p2), .val (.int p3), .val (.long j1), .second, .val (.long j2), .second, .val (.long j3), .second, .val (.ref a4), .val (.int (1 : Int32)), .val (.int (1 : Int32)), .val .null, .unset, .unset, .unset, .unset] [(.ref a94)])
      refine Wk.astore X98 hx (Ls' := #[.val (.int p0), .val (.int p1), .val (.int p2), .val (.int p3), .val (.long j1), .second, .val (.long j2), .second, .val (.long j3), .second, .val (.ref a4), .val (.int (1 : Int32)), .val (.int (1 : Int32)), .val .null, .val (.ref a94), .unset, .unset, .unset]) (hb hby at_99) rfl rfl rfl ?_
      refine Wk.aload X98 hx (hb hby at_101) rfl rfl rfl ?_
      refine Wk.callV X98 hx hZ (y := (⟨"com/example/accumulus/accumulus/account/LoanAccount", "nextWaitingDay", "()Ljava/time/LocalDate;"⟩ : MethodName)) (z := (⟨"com/example/accumulus/accumulus/account/LoanAccount", "nextWaitingDay", "()Ljava/time/LocalDate;"⟩ : MethodName)) hown (w 120 _ rfl) (w 121 _ rfl) (notFace_of_selects (args := #[]) (mvT hZ (w 123 _ rfl))) (w 123 _ rfl) (w 122 _ rfl) (by decide) (as' := []) (backOf (W := 0) (rm_nwN l Z a0 hw [] a94 d98 el98 (0 : Int32) kE98 [.null, .null, .null, .null, .null, .null, .null, .null, .null, .null, .null, .null, .null, .null, .null, .null, .null] h98 O100 q98_3 q98_5 q98_6 q98_7 q98_9 (by first | assumption | rfl | decide | exact Nat.le_of_ble_eq_true rfl) (by first | assumption | rfl | decide | exact Nat.le_of_ble_eq_true rfl) (by first | assumption | rfl | decide | exact Nat.le_of_ble_eq_true rfl)) hZ (w 124 _ rfl) (w 75 _ rfl) (by decide) (by decide)) e98 q98_2 (by rw [hml]; rfl) (rest := []) (lenOf pd25 rfl) rfl (Nat.le_of_eq rfl) (hb hby at_103) rfl (by decide) (by decide) ?_
      intro T101 h101 v101 L101 X101 e101 hQ101
      obtain ⟨rfl, Nq101, K101⟩ := hQ101
      have KK102 : Keep h0 h98 [] := (KK99.trans K98 (allS (Or.inr (Nat.le_trans KK61.1 (Nat.le_of_eq g94))) all0))
      have N101 := Fk.app N98 Nq101 KK102.1 all0
      rw [K101] at e101
      show Wp p e below _ _ T101 (mkF m 106 #[.val (.int p0), .val (.int p1), .val (.int p2), .val (.int p3), .val (.long j1), .second, .val (.long j2), .second, .val (.long j3), .second, .val (.ref a4), .val (.int (1 : Int32)), .val (.int (1 : Int32)), .val .null, .val (.ref a94), .unset, .unset, .unset] [.null])
      refine Wk.ifnonnullNo X101 hx (hb hby at_106) rfl ?_
      refine Wk.iconst X101 hx (v := (1 : Int32)) (hb hby at_109) rfl rfl ?_
      refine Wk.goto X101 hx (hb hby at_110) (by decide) (q := 114) rfl ?_
      refine Wk.istore X101 hx (Ls' := #[.val (.int p0), .val (.int p1), .val (.int p2), .val (.int p3), .val (.long j1), .second, .val (.long j2), .second, .val (.long j3), .second, .val (.ref a4), .val (.int (1 : Int32)), .val (.int (1 : Int32)), .val .null, .val (.ref a94), .val (.int (1 : Int32)), .unset, .unset]) (hb hby at_114) rfl rfl ?_
      refine Wk.iload X101 hx (hb hby at_116) rfl rfl ?_
      refine Wk.iconst X101 hx (v := (1 : Int32)) (hb hby at_118) rfl rfl ?_
      refine Wk.icmpNo X101 hx (hb hby at_119) rfl (flt (by decide : ¬ ((1 : Int32) < (1 : Int32)))).1 ?_
      refine Wk.aload X101 hx (hb hby at_122) rfl rfl rfl ?_
      refine Wk.aconstNull X101 hx (hb hby at_124) rfl ?_
      refine Wk.aload X101 hx (hb hby at_125) rfl rfl rfl ?_
      refine Wk.iconst X101 hx (v := (0 : Int32)) (hb hby at_127) rfl rfl ?_
      have KK103 : Keep h40 h98 [] := (((Keep.refl h40 []).ext E94).trans K98 (allS (Or.inr (Nat.le_of_eq g94)) all0))
      have f104 : Arv Z h98 a4 kA4 (.object "java/time/LocalDate") (3 : Int32) [(.ref x12), (.ref x24), (.ref x36)] .null := (V40.keep KK103 nin0)
      refine Wk.aaload X101 hx hZ e101 (C := (.object "java/time/LocalDate")) f104 (by decide) (by decide) (v := (.ref x12)) rfl rfl (hb hby at_128) rfl ?_
      refine Wk.callV X101 hx hZ (y := (⟨"com/example/accumulus/accumulus/account/LoanAccount", "await", "(Lcom/example/accumulus/accumulus/journal/JournalEntry;Ljava/time/LocalDate;)V"⟩ : MethodName)) (z := (⟨"com/example/accumulus/accumulus/account/LoanAccount", "await", "(Lcom/example/accumulus/accumulus/journal/JournalEntry;Ljava/time/LocalDate;)V"⟩ : MethodName)) hown (w 140 _ rfl) (w 141 _ rfl) (notFace_of_selects (args := #[]) (mvT hZ (w 143 _ rfl))) (w 143 _ rfl) (w 142 _ rfl) (by decide) (as' := [.null, (.ref x12)]) (backOf (W := 0) (rm_awt l Z a0 hw [] a94 d98 el98 (0 : Int32) (0 : Int32) (1 : Int32) kE98 [.null, .null, .null, .null, .null, .null, .null, .null, .null, .null, .null, .null, .null, .null, .null, .null, .null] x12 h98 O100 q98_3 q98_5 q98_6 q98_7 q98_8 q98_9 (by first | assumption | rfl | decide | exact Nat.le_of_ble_eq_true rfl) (by first | assumption | rfl | decide | exact Nat.le_of_ble_eq_true rfl) (by first | assumption | rfl | decide | exact Nat.le_of_ble_eq_true rfl) (by first | assumption | rfl | decide | exact Nat.le_of_ble_eq_true rfl) (by first | assumption | rfl | decide | exact Nat.le_of_ble_eq_true rfl) (by first | assumption | rfl | decide | exact Nat.le_of_ble_eq_true rfl) (Nat.le_trans (Nat.le_trans (Nat.le_trans (Nat.le_of_eq O0.1.symm) O0.2.1) KK99.1) q98_0) (Nat.le_trans (Nat.le_trans (Nat.le_trans (Nat.le_of_eq O0.1.symm) O0.2.1) KK99.1) q98_1) q98_4) hZ (w 144 _ rfl) (w 75 _ rfl) (by decide) (by decide)) e101 q98_2 (by rw [hml]; rfl) (rest := []) (lenOf pd21 rfl) rfl (Nat.le_of_eq rfl) (hb hby at_129) rfl (by decide) (by decide) ?_
      intro T105 h105 v105 L105 X105 e105 hQ105
      obtain ⟨w_105, rfl, Nq105, K105, q105_0, q105_1, q105_2, q105_3, q105_4, q105_5, q105_6, q105_7, q105_8⟩ := hQ105
      have N105 := Fk.app N101 Nq105 KK102.1 (allS (Or.inr (Nat.le_trans KK99.1 q98_0)) (allS (Or.inr (Nat.le_trans KK99.1 q98_1)) all0))
      have O106 : Old Z Z.heap.size h105 := O100.keep K105 (allS (Nat.le_trans (Nat.le_trans (Nat.le_trans (Nat.le_of_eq O0.1.symm) O0.2.1) KK99.1) q98_0) (allS (Nat.le_trans (Nat.le_trans (Nat.le_trans (Nat.le_of_eq O0.1.symm) O0.2.1) KK99.1) q98_1) all0))
      have Vl107 : Arv Z h105 el98 kE98 (.object "java/lang/Object") (17 : Int32) [(.ref w_105), .null, .null, .null, .null, .null, .null, .null, .null, .null, .null, .null, .null, .null, .null, .null, .null] .null := q105_8
      show Wp p e below _ _ T105 (mkF m 132 #[.val (.int p0), .val (.int p1), .val (.int p2), .val (.int p3), .val (.long j1), .second, .val (.long j2), .second, .val (.long j3), .second, .val (.ref a4), .val (.int (1 : Int32)), .val (.int (1 : Int32)), .val .null, .val (.ref a94), .val (.int (1 : Int32)), .unset, .unset] [])
      refine Wk.iload X105 hx (hb hby at_132) rfl rfl ?_
      refine Wk.ifNo X105 hx (hb hby at_134) rfl ((if0 _ _).trans (feq (by decide : ¬ ((1 : Int32) = (0 : Int32)))).1) ?_
      refine Wk.aload X105 hx (hb hby at_137) rfl rfl rfl ?_
      have KK108 : Keep h98 h105 [d98, el98] := ((Keep.refl h98 [d98, el98]).trans K105 (allS (Or.inl (List.mem_of_getElem? (i := 0) rfl)) (allS (Or.inl (List.mem_of_getElem? (i := 1) rfl)) all0)))
      have f109 : Fld Z h105 a94 "com/example/accumulus/accumulus/account/LoanAccount" "waiting" "Ljava/util/ArrayDeque;" (.ref d98) := (q98_3.keep KK108 (ninS (Nat.ne_of_lt (Nat.lt_of_lt_of_le A94.lt q98_0)) (ninS (Nat.ne_of_lt (Nat.lt_of_lt_of_le A94.lt q98_1)) nin0)))
      have KK111 : Keep h94 h105 [a94] := (((Keep.refl h94 [a94]).trans K98 (allS (Or.inl (List.mem_of_getElem? (i := 0) rfl)) all0)).trans K105 (allS (Or.inr q98_0) (allS (Or.inr q98_1) all0)))
      have f112 : Exa Z h105 a94 "com/example/accumulus/accumulus/account/LoanAccount" := (A94.keep KK111)
      refine Wk.callV X105 hx hZ (y := (⟨"com/example/accumulus/accumulus/account/LoanAccount", "nextWaitingDay", "()Ljava/time/LocalDate;"⟩ : MethodName)) (z := (⟨"com/example/accumulus/accumulus/account/LoanAccount", "nextWaitingDay", "()Ljava/time/LocalDate;"⟩ : MethodName)) hown (w 120 _ rfl) (w 121 _ rfl) (notFace_of_selects (args := #[]) (mvT hZ (w 123 _ rfl))) (w 123 _ rfl) (w 122 _ rfl) (by decide) (as' := []) (backOf (W := 0) (rm_nwR l Z a0 hw [] a94 d98 el98 (0 : Int32) kE98 [(.ref w_105), .null, .null, .null, .null, .null, .null, .null, .null, .null, .null, .null, .null, .null, .null, .null, .null] w_105 x12 h105 O106 f109 q105_4 q105_5 q105_6 Vl107 (by first | assumption | rfl | decide | exact Nat.le_of_ble_eq_true rfl) (by first | assumption | rfl | decide | exact Nat.le_of_ble_eq_true rfl) (by first | assumption | rfl | decide | exact Nat.le_of_ble_eq_true rfl) q105_1 q105_2) hZ (w 124 _ rfl) (w 75 _ rfl) (by decide) (by decide)) e105 f112 (by rw [hml]; rfl) (rest := []) (lenOf pd25 rfl) rfl (Nat.le_of_eq rfl) (hb hby at_139) rfl (by decide) (by decide) ?_
      intro T110 h110 v110 L110 X110 e110 hQ110
      obtain ⟨rfl, Nq110, K110⟩ := hQ110
      have KK113 : Keep h0 h105 [] := (KK102.trans K105 (allS (Or.inr (Nat.le_trans KK99.1 q98_0)) (allS (Or.inr (Nat.le_trans KK99.1 q98_1)) all0)))
      have N110 := Fk.app N105 Nq110 KK113.1 all0
      rw [K110] at e110
      show Wp p e below _ _ T110 (mkF m 142 #[.val (.int p0), .val (.int p1), .val (.int p2), .val (.int p3), .val (.long j1), .second, .val (.long j2), .second, .val (.long j3), .second, .val (.ref a4), .val (.int (1 : Int32)), .val (.int (1 : Int32)), .val .null, .val (.ref a94), .val (.int (1 : Int32)), .unset, .unset] [(.ref x12)])
      refine Wk.aload X110 hx (hb hby at_142) rfl rfl rfl ?_
      refine Wk.iconst X110 hx (v := (0 : Int32)) (hb hby at_144) rfl rfl ?_
      have KK114 : Keep h40 h94 [] := ((Keep.refl h40 []).ext E94)
      have KK115 : Keep h40 h105 [] := (KK103.trans K105 (allS (Or.inr (Nat.le_trans KK114.1 q98_0)) (allS (Or.inr (Nat.le_trans KK114.1 q98_1)) all0)))
      have f116 : Arv Z h105 a4 kA4 (.object "java/time/LocalDate") (3 : Int32) [(.ref x12), (.ref x24), (.ref x36)] .null := (V40.keep KK115 nin0)
      refine Wk.aaload X110 hx hZ e110 (C := (.object "java/time/LocalDate")) f116 (by decide) (by decide) (v := (.ref x12)) rfl rfl (hb hby at_145) rfl ?_
      have KK117 : Keep h12 h40 [a4] := ((((((Keep.refl h12 [a4]).wr W16 (Or.inl (List.mem_of_getElem? (i := 0) rfl))).trans K24 all0).wr W28 (Or.inl (List.mem_of_getElem? (i := 0) rfl))).trans K36 all0).wr W40 (Or.inl (List.mem_of_getElem? (i := 0) rfl)))
      have KK118 : Keep h12 h94 [a4] := (KK117.ext E94)
      have KK119 : Keep h12 h105 [a4] := (((((((((Keep.refl h12 [a4]).wr W16 (Or.inl (List.mem_of_getElem? (i := 0) rfl))).trans K24 all0).wr W28 (Or.inl (List.mem_of_getElem? (i := 0) rfl))).trans K36 all0).wr W40 (Or.inl (List.mem_of_getElem? (i := 0) rfl))).ext E94).trans K98 (allS (Or.inr (Nat.le_trans KK117.1 (Nat.le_of_eq g94))) all0)).trans K105 (allS (Or.inr (Nat.le_trans KK118.1 q98_0)) (allS (Or.inr (Nat.le_trans KK118.1 q98_1)) all0)))
      have f120 : Exa Z h105 x12 "java/time/LocalDate" := (q12_1.keep KK119)
      refine Wk.callS X110 hx hZ hown (w 174 _ rfl) (w 175 _ rfl) (w 176 _ rfl) (w 177 _ rfl) (by decide) (as' := [(.ref x12), (.ref x12)]) (backOf (W := 0) (rm_smR l Z a0 hw [] x12 h105 O106 f120) hZ (w 177 _ rfl) (w 176 _ rfl) (by decide) (by decide)) e110 (by rw [hml]; rfl) (rest := []) (lenOf pd26 rfl) rfl (Nat.le_of_eq rfl) (hb hby at_146) rfl (by decide) (by decide) ?_
      intro T121 h121 v121 L121 X121 e121 hQ121
      obtain ⟨rfl, Nq121, K121⟩ := hQ121
      have N121 := Fk.app N110 Nq121 KK113.1 all0
      rw [K121] at e121
      show Wp p e below _ _ T121 (mkF m 149 #[.val (.int p0), .val (.int p1), .val (.int p2), .val (.int p3), .val (.long j1), .second, .val (.long j2), .second, .val (.long j3), .second, .val (.ref a4), .val (.int (1 : Int32)), .val (.int (1 : Int32)), .val .null, .val (.ref a94), .val (.int (1 : Int32)), .unset, .unset] [(.int (1 : Int32))])
      refine Wk.ifNo X121 hx (hb hby at_149) rfl ((if0 _ _).trans (feq (by decide : ¬ ((1 : Int32) = (0 : Int32)))).1) ?_
      refine Wk.iconst X121 hx (v := (1 : Int32)) (hb hby at_152) rfl rfl ?_
      refine Wk.goto X121 hx (hb hby at_153) (by decide) (q := 157) rfl ?_
      refine Wk.istore X121 hx (Ls' := #[.val (.int p0), .val (.int p1), .val (.int p2), .val (.int p3), .val (.long j1), .second, .val (.long j2), .second, .val (.long j3), .second, .val (.ref a4), .val (.int (1 : Int32)), .val (.int (1 : Int32)), .val .null, .val (.ref a94), .val (.int (1 : Int32)), .unset, .unset]) (hb hby at_157) rfl rfl ?_
      refine Wk.iload X121 hx (hb hby at_159) rfl rfl ?_
      refine Wk.iconst X121 hx (v := (2 : Int32)) (hb hby at_161) rfl rfl ?_
      refine Wk.icmpYes X121 hx (hb hby at_162) (by decide) (q := 175) rfl (tlt (by decide : (1 : Int32) < (2 : Int32))).1 ?_
      refine Wk.iload X121 hx (hb hby at_175) rfl rfl ?_
      refine Wk.iconst X121 hx (v := (3 : Int32)) (hb hby at_177) rfl rfl ?_
      refine Wk.icmpYes X121 hx (hb hby at_178) (by decide) (q := 191) rfl (tlt (by decide : (1 : Int32) < (3 : Int32))).1 ?_
      refine Wk.iload X121 hx (hb hby at_191) rfl rfl ?_
      refine Wk.iconst X121 hx (v := (1 : Int32)) (hb hby at_193) rfl rfl ?_
      refine Wk.icmpNo X121 hx (hb hby at_194) rfl (flt (by decide : ¬ ((1 : Int32) < (1 : Int32)))).1 ?_
      refine Wk.aload X121 hx (hb hby at_197) rfl rfl rfl ?_
      refine Wk.callV X121 hx hZ (y := (⟨"com/example/accumulus/accumulus/account/LoanAccount", "takeWaiting", "()Lcom/example/accumulus/accumulus/journal/JournalEntry;"⟩ : MethodName)) (z := (⟨"com/example/accumulus/accumulus/account/LoanAccount", "takeWaiting", "()Lcom/example/accumulus/accumulus/journal/JournalEntry;"⟩ : MethodName)) hown (w 183 _ rfl) (w 184 _ rfl) (notFace_of_selects (args := #[]) (mvT hZ (w 186 _ rfl))) (w 186 _ rfl) (w 185 _ rfl) (by decide) (as' := []) (backOf (W := 0) (rm_tk l Z a0 hw [] a94 d98 el98 (0 : Int32) (1 : Int32) (1 : Int32) kE98 [(.ref w_105), .null, .null, .null, .null, .null, .null, .null, .null, .null, .null, .null, .null, .null, .null, .null, .null] w_105 h105 O106 f109 q105_4 q105_5 q105_6 q105_7 Vl107 (by first | assumption | rfl | decide | exact Nat.le_of_ble_eq_true rfl) (by first | assumption | rfl | decide | exact Nat.le_of_ble_eq_true rfl) (by first | assumption | rfl | decide | exact Nat.le_of_ble_eq_true rfl) (by first | assumption | rfl | decide | exact Nat.le_of_ble_eq_true rfl) (by first | assumption | rfl | decide | exact Nat.le_of_ble_eq_true rfl) (by first | assumption | rfl | decide | exact Nat.le_of_ble_eq_true rfl) (Nat.le_trans (Nat.le_trans (Nat.le_trans (Nat.le_of_eq O0.1.symm) O0.2.1) KK99.1) q98_0) (Nat.le_trans (Nat.le_trans (Nat.le_trans (Nat.le_of_eq O0.1.symm) O0.2.1) KK99.1) q98_1) q98_4 q105_1 q105_3) hZ (w 187 _ rfl) (w 75 _ rfl) (by decide) (by decide)) e121 f112 (by rw [hml]; rfl) (rest := []) (lenOf pd27 rfl) rfl (Nat.le_of_eq rfl) (hb hby at_199) rfl (by decide) (by decide) ?_
      intro T122 h122 v122 L122 X122 e122 hQ122
      obtain ⟨rfl, Nq122, K122, q122_0, q122_1, q122_2, q122_3, q122_4⟩ := hQ122
      have N122 := Fk.app N121 Nq122 KK113.1 (allS (Or.inr (Nat.le_trans KK99.1 q98_1)) (allS (Or.inr (Nat.le_trans KK99.1 q98_0)) all0))
      have O123 : Old Z Z.heap.size h122 := O106.keep K122 (allS (Nat.le_trans (Nat.le_trans (Nat.le_trans (Nat.le_of_eq O0.1.symm) O0.2.1) KK99.1) q98_1) (allS (Nat.le_trans (Nat.le_trans (Nat.le_trans (Nat.le_of_eq O0.1.symm) O0.2.1) KK99.1) q98_0) all0))
      have Vl124 : Arv Z h122 el98 kE98 (.object "java/lang/Object") (17 : Int32) [.null, .null, .null, .null, .null, .null, .null, .null, .null, .null, .null, .null, .null, .null, .null, .null, .null] .null := q122_4
      show Wp p e below _ _ T122 (mkF m 202 #[.val (.int p0), .val (.int p1), .val (.int p2), .val (.int p3), .val (.long j1), .second, .val (.long j2), .second, .val (.long j3), .second, .val (.ref a4), .val (.int (1 : Int32)), .val (.int (1 : Int32)), .val .null, .val (.ref a94), .val (.int (1 : Int32)), .unset, .unset] [.null])
      refine Wk.pop X122 hx (hb hby at_202) rfl rfl ?_
      refine Wk.iload X122 hx (hb hby at_203) rfl rfl ?_
      refine Wk.iconst X122 hx (v := (2 : Int32)) (hb hby at_205) rfl rfl ?_
      refine Wk.icmpYes X122 hx (hb hby at_206) (by decide) (q := 215) rfl (tlt (by decide : (1 : Int32) < (2 : Int32))).1 ?_
      refine Wk.iload X122 hx (hb hby at_215) rfl rfl ?_
      refine Wk.iconst X122 hx (v := (3 : Int32)) (hb hby at_217) rfl rfl ?_
      refine Wk.icmpYes X122 hx (hb hby at_218) (by decide) (q := 227) rfl (tlt (by decide : (1 : Int32) < (3 : Int32))).1 ?_
      refine Wk.aload X122 hx (hb hby at_227) rfl rfl rfl ?_
      have KK125 : Keep h105 h122 [el98, d98] := ((Keep.refl h105 [el98, d98]).trans K122 (allS (Or.inl (List.mem_of_getElem? (i := 0) rfl)) (allS (Or.inl (List.mem_of_getElem? (i := 1) rfl)) all0)))
      have f126 : Fld Z h122 a94 "com/example/accumulus/accumulus/account/LoanAccount" "waiting" "Ljava/util/ArrayDeque;" (.ref d98) := (f109.keep KK125 (ninS (Nat.ne_of_lt (Nat.lt_of_lt_of_le A94.lt q98_1)) (ninS (Nat.ne_of_lt (Nat.lt_of_lt_of_le A94.lt q98_0)) nin0)))
      have KK128 : Keep h94 h122 [a94] := (KK111.trans K122 (allS (Or.inr q98_1) (allS (Or.inr q98_0) all0)))
      have f129 : Exa Z h122 a94 "com/example/accumulus/accumulus/account/LoanAccount" := (A94.keep KK128)
      refine Wk.callV X122 hx hZ (y := (⟨"com/example/accumulus/accumulus/account/LoanAccount", "nextWaitingDay", "()Ljava/time/LocalDate;"⟩ : MethodName)) (z := (⟨"com/example/accumulus/accumulus/account/LoanAccount", "nextWaitingDay", "()Ljava/time/LocalDate;"⟩ : MethodName)) hown (w 120 _ rfl) (w 121 _ rfl) (notFace_of_selects (args := #[]) (mvT hZ (w 123 _ rfl))) (w 123 _ rfl) (w 122 _ rfl) (by decide) (as' := []) (backOf (W := 0) (rm_nwN l Z a0 hw [] a94 d98 el98 (1 : Int32) kE98 [.null, .null, .null, .null, .null, .null, .null, .null, .null, .null, .null, .null, .null, .null, .null, .null, .null] h122 O123 f126 q122_0 q122_1 q122_2 Vl124 (by first | assumption | rfl | decide | exact Nat.le_of_ble_eq_true rfl) (by first | assumption | rfl | decide | exact Nat.le_of_ble_eq_true rfl) (by first | assumption | rfl | decide | exact Nat.le_of_ble_eq_true rfl)) hZ (w 124 _ rfl) (w 75 _ rfl) (by decide) (by decide)) e122 f129 (by rw [hml]; rfl) (rest := []) (lenOf pd25 rfl) rfl (Nat.le_of_eq rfl) (hb hby at_229) rfl (by decide) (by decide) ?_
      intro T127 h127 v127 L127 X127 e127 hQ127
      obtain ⟨rfl, Nq127, K127⟩ := hQ127
      have KK130 : Keep h0 h122 [] := (KK113.trans K122 (allS (Or.inr (Nat.le_trans KK99.1 q98_1)) (allS (Or.inr (Nat.le_trans KK99.1 q98_0)) all0)))
      have N127 := Fk.app N122 Nq127 KK130.1 all0
      rw [K127] at e127
      show Wp p e below _ _ T127 (mkF m 232 #[.val (.int p0), .val (.int p1), .val (.int p2), .val (.int p3), .val (.long j1), .second, .val (.long j2), .second, .val (.long j3), .second, .val (.ref a4), .val (.int (1 : Int32)), .val (.int (1 : Int32)), .val .null, .val (.ref a94), .val (.int (1 : Int32)), .unset, .unset] [.null])
      refine Wk.astore X127 hx (Ls' := #[.val (.int p0), .val (.int p1), .val (.int p2), .val (.int p3), .val (.long j1), .second, .val (.long j2), .second, .val (.long j3), .second, .val (.ref a4), .val (.int (1 : Int32)), .val (.int (1 : Int32)), .val .null, .val (.ref a94), .val (.int (1 : Int32)), .val .null, .unset]) (hb hby at_232) rfl rfl rfl ?_
      refine Wk.iload X127 hx (hb hby at_234) rfl rfl ?_
      refine Wk.ifNo X127 hx (hb hby at_236) rfl ((if0 _ _).trans (feq (by decide : ¬ ((1 : Int32) = (0 : Int32)))).1) ?_
      refine Wk.aload X127 hx (hb hby at_239) rfl rfl rfl ?_
      refine Wk.aload X127 hx (hb hby at_241) rfl rfl rfl ?_
      refine Wk.callS X127 hx hZ hown (w 174 _ rfl) (w 175 _ rfl) (w 176 _ rfl) (w 177 _ rfl) (by decide) (as' := [.null, .null]) (backOf (W := 0) (rm_smN l Z a0 hw [] h122 O123) hZ (w 177 _ rfl) (w 176 _ rfl) (by decide) (by decide)) e127 (by rw [hml]; rfl) (rest := []) (lenOf pd26 rfl) rfl (Nat.le_of_eq rfl) (hb hby at_243) rfl (by decide) (by decide) ?_
      intro T131 h131 v131 L131 X131 e131 hQ131
      obtain ⟨rfl, Nq131, K131⟩ := hQ131
      have N131 := Fk.app N127 Nq131 KK130.1 all0
      rw [K131] at e131
      show Wp p e below _ _ T131 (mkF m 246 #[.val (.int p0), .val (.int p1), .val (.int p2), .val (.int p3), .val (.long j1), .second, .val (.long j2), .second, .val (.long j3), .second, .val (.ref a4), .val (.int (1 : Int32)), .val (.int (1 : Int32)), .val .null, .val (.ref a94), .val (.int (1 : Int32)), .val .null, .unset] [(.int (1 : Int32))])
      refine Wk.ifNo X131 hx (hb hby at_246) rfl ((if0 _ _).trans (feq (by decide : ¬ ((1 : Int32) = (0 : Int32)))).1) ?_
      refine Wk.iconst X131 hx (v := (1 : Int32)) (hb hby at_249) rfl rfl ?_
      refine Wk.goto X131 hx (hb hby at_250) (by decide) (q := 254) rfl ?_
      refine Wk.istore X131 hx (Ls' := #[.val (.int p0), .val (.int p1), .val (.int p2), .val (.int p3), .val (.long j1), .second, .val (.long j2), .second, .val (.long j3), .second, .val (.ref a4), .val (.int (1 : Int32)), .val (.int (1 : Int32)), .val .null, .val (.ref a94), .val (.int (1 : Int32)), .val .null, .unset]) (hb hby at_254) rfl rfl ?_
      refine Wk.aload X131 hx (hb hby at_256) rfl rfl rfl ?_
      refine Wk.callV X131 hx hZ (y := (⟨"com/example/accumulus/accumulus/account/LoanAccount", "nextWaitingDay", "()Ljava/time/LocalDate;"⟩ : MethodName)) (z := (⟨"com/example/accumulus/accumulus/account/LoanAccount", "nextWaitingDay", "()Ljava/time/LocalDate;"⟩ : MethodName)) hown (w 120 _ rfl) (w 121 _ rfl) (notFace_of_selects (args := #[]) (mvT hZ (w 123 _ rfl))) (w 123 _ rfl) (w 122 _ rfl) (by decide) (as' := []) (backOf (W := 0) (rm_nwN l Z a0 hw [] a94 d98 el98 (1 : Int32) kE98 [.null, .null, .null, .null, .null, .null, .null, .null, .null, .null, .null, .null, .null, .null, .null, .null, .null] h122 O123 f126 q122_0 q122_1 q122_2 Vl124 (by first | assumption | rfl | decide | exact Nat.le_of_ble_eq_true rfl) (by first | assumption | rfl | decide | exact Nat.le_of_ble_eq_true rfl) (by first | assumption | rfl | decide | exact Nat.le_of_ble_eq_true rfl)) hZ (w 124 _ rfl) (w 75 _ rfl) (by decide) (by decide)) e131 f129 (by rw [hml]; rfl) (rest := []) (lenOf pd25 rfl) rfl (Nat.le_of_eq rfl) (hb hby at_258) rfl (by decide) (by decide) ?_
      intro T132 h132 v132 L132 X132 e132 hQ132
      obtain ⟨rfl, Nq132, K132⟩ := hQ132
      have N132 := Fk.app N131 Nq132 KK130.1 all0
      rw [K132] at e132
      show Wp p e below _ _ T132 (mkF m 261 #[.val (.int p0), .val (.int p1), .val (.int p2), .val (.int p3), .val (.long j1), .second, .val (.long j2), .second, .val (.long j3), .second, .val (.ref a4), .val (.int (1 : Int32)), .val (.int (1 : Int32)), .val .null, .val (.ref a94), .val (.int (1 : Int32)), .val .null, .unset] [.null])
      refine Wk.astore X132 hx (Ls' := #[.val (.int p0), .val (.int p1), .val (.int p2), .val (.int p3), .val (.long j1), .second, .val (.long j2), .second, .val (.long j3), .second, .val (.ref a4), .val (.int (1 : Int32)), .val (.int (1 : Int32)), .val .null, .val (.ref a94), .val (.int (1 : Int32)), .val .null, .val .null]) (hb hby at_261) rfl rfl rfl ?_
      refine Wk.iload X132 hx (hb hby at_263) rfl rfl ?_
      refine Wk.ifNo X132 hx (hb hby at_265) rfl ((if0 _ _).trans (feq (by decide : ¬ ((1 : Int32) = (0 : Int32)))).1) ?_
      refine Wk.aload X132 hx (hb hby at_268) rfl rfl rfl ?_
      refine Wk.aload X132 hx (hb hby at_270) rfl rfl rfl ?_
      refine Wk.callS X132 hx hZ hown (w 174 _ rfl) (w 175 _ rfl) (w 176 _ rfl) (w 177 _ rfl) (by decide) (as' := [.null, .null]) (backOf (W := 0) (rm_smN l Z a0 hw [] h122 O123) hZ (w 177 _ rfl) (w 176 _ rfl) (by decide) (by decide)) e132 (by rw [hml]; rfl) (rest := []) (lenOf pd26 rfl) rfl (Nat.le_of_eq rfl) (hb hby at_272) rfl (by decide) (by decide) ?_
      intro T133 h133 v133 L133 X133 e133 hQ133
      obtain ⟨rfl, Nq133, K133⟩ := hQ133
      have N133 := Fk.app N132 Nq133 KK130.1 all0
      rw [K133] at e133
      show Wp p e below _ _ T133 (mkF m 275 #[.val (.int p0), .val (.int p1), .val (.int p2), .val (.int p3), .val (.long j1), .second, .val (.long j2), .second, .val (.long j3), .second, .val (.ref a4), .val (.int (1 : Int32)), .val (.int (1 : Int32)), .val .null, .val (.ref a94), .val (.int (1 : Int32)), .val .null, .val .null] [(.int (1 : Int32))])
      refine Wk.ifNo X133 hx (hb hby at_275) rfl ((if0 _ _).trans (feq (by decide : ¬ ((1 : Int32) = (0 : Int32)))).1) ?_
      refine Wk.iconst X133 hx (v := (1 : Int32)) (hb hby at_278) rfl rfl ?_
      refine Wk.goto X133 hx (hb hby at_279) (by decide) (q := 283) rfl ?_
      refine Wk.istore X133 hx (Ls' := #[.val (.int p0), .val (.int p1), .val (.int p2), .val (.int p3), .val (.long j1), .second, .val (.long j2), .second, .val (.long j3), .second, .val (.ref a4), .val (.int (1 : Int32)), .val (.int (1 : Int32)), .val .null, .val (.ref a94), .val (.int (1 : Int32)), .val .null, .val .null]) (hb hby at_283) rfl rfl ?_
      refine Wk.iload X133 hx (hb hby at_285) rfl rfl ?_
      exact Wk.retZ' X133 hx hlk hr (by simp) (hb hby at_287) (by decide) (by decide) (Qc := Q_rm_law Z p0 p1 p2 p3 u vr_ ed h0) e133 ⟨rfl, N133, KK130⟩
  · skip
    refine Wk.iloadN X40 hx (hb hby at_62) rfl rfl ?_
    refine Wk.iconst X40 hx (v := (2 : Int32)) (hb hby at_63) rfl rfl ?_
    refine Wk.iushr X40 hx (hb hby at_64) rfl ?_
    refine Wk.iconst X40 hx (v := (3 : Int32)) (hb hby at_65) rfl rfl ?_
    refine Wk.iand X40 hx (hb hby at_66) rfl ?_
    refine Wk.iload X40 hx (hb hby at_67) rfl rfl ?_
    obtain ⟨mm134, hmm134⟩ : ∃ z : Int32, z = (((p3.toUInt32 >>> ((2 : Int32) &&& 31).toUInt32).toInt32) &&& (3 : Int32)) := ⟨_, rfl⟩
    rw [← hmm134]
    refine Wk.callS X40 hx hZ hown (w 69 _ rfl) (w 70 _ rfl) (w 71 _ rfl) (w 72 _ rfl) (by decide) (as' := [(.int mm134), (.int (2 : Int32))]) (backOf (W := 0) (rm_mmin l Z a0 hw [] mm134 (2 : Int32) h40 O41) hZ (w 72 _ rfl) (w 71 _ rfl) (by decide) (by decide)) e40 (by rw [hml]; rfl) (rest := []) (lenOf pd19 rfl) rfl (Nat.le_of_eq rfl) (hb hby at_69) rfl (by decide) (by decide) ?_
    intro T135 h135 v135 L135 X135 e135 hQ135
    obtain ⟨r135, rfl, Nq135, K135, q135_0⟩ := hQ135
    have KK136 : Keep h0 h40 [] := ((KK30.trans K36 all0).wr W40 (Or.inr (Nat.le_of_eq g4)))
    have N135 := Fk.app N40 Nq135 KK136.1 all0
    rw [K135] at e135
    show Wp p e below _ _ T135 (mkF m 72 #[.val (.int p0), .val (.int p1), .val (.int p2), .val (.int p3), .val (.long j1), .second, .val (.long j2), .second, .val (.long j3), .second, .val (.ref a4), .val (.int (2 : Int32)), .unset, .unset, .unset, .unset, .unset, .unset] [(.int r135)])
    have hk134 : r135 = 0 ∨ r135 = 1 ∨ r135 = 2 := by
      exact own_min2 hmm134 q135_0
    rcases hk134 with rfl | rfl | rfl
    · skip
      refine Wk.istore X135 hx (Ls' := #[.val (.int p0), .val (.int p1), .val (.int p2), .val (.int p3), .val (.long j1), .second, .val (.long j2), .second, .val (.long j3), .second, .val (.ref a4), .val (.int (2 : Int32)), .val (.int (0 : Int32)), .unset, .unset, .unset, .unset, .unset]) (hb hby at_72) rfl rfl ?_
      refine Wk.iload X135 hx (hb hby at_74) rfl rfl ?_
      refine Wk.iload X135 hx (hb hby at_76) rfl rfl ?_
      refine Wk.icmpNo X135 hx (hb hby at_78) rfl (tlt (by decide : (0 : Int32) < (2 : Int32))).2.1 ?_
      refine Wk.aload X135 hx (hb hby at_81) rfl rfl rfl ?_
      refine Wk.iload X135 hx (hb hby at_83) rfl rfl ?_
      refine Wk.aaload X135 hx hZ e135 (C := (.object "java/time/LocalDate")) V40 (by decide) (by decide) (v := (.ref x12)) rfl rfl (hb hby at_85) rfl ?_
      refine Wk.goto X135 hx (hb hby at_86) (by decide) (q := 90) rfl ?_
      refine Wk.astore X135 hx (Ls' := #[.val (.int p0), .val (.int p1), .val (.int p2), .val (.int p3), .val (.long j1), .second, .val (.long j2), .second, .val (.long j3), .second, .val (.ref a4), .val (.int (2 : Int32)), .val (.int (0 : Int32)), .val (.ref x12), .unset, .unset, .unset, .unset]) (hb hby at_90) rfl rfl rfl ?_
      refine Wk.new X135 hx hZ hown (w 73 _ rfl) (w 74 _ rfl) (w 75 _ rfl) e135 (hb hby at_92) rfl (by decide) (by decide) ?_
      intro T137 h137 a137 g137 X137 e137 E137 A137 D137
      have O138 : Old Z Z.heap.size h137 := O41.ext E137
      have f139 : Fld Z h137 a137 "com/example/accumulus/accumulus/account/LoanAccount" "loans" "Ljava/util/List;" .null := D137 (Or.inr (w 105 _ rfl)) (ty := (.object "java/util/List")) (by decide)
      have f140 : Fld Z h137 a137 "com/example/accumulus/accumulus/account/LoanAccount" "waiting" "Ljava/util/ArrayDeque;" .null := D137 (Or.inr (w 119 _ rfl)) (ty := (.object "java/util/ArrayDeque")) (by decide)
      refine Wk.dup X137 hx (hb hby at_95) rfl rfl ?_
      refine Wk.callI X137 hx hZ rfl hown (w 76 _ rfl) (w 77 _ rfl) (w 78 _ rfl) (by decide) (as' := []) (backOf (W := 1) (rm_lai l Z a0 hw [] a137 ed h137 O138 A137 f139 f140 (Nat.le_trans (Nat.le_trans (Nat.le_trans (Nat.le_of_eq O0.1.symm) O0.2.1) KK136.1) (Nat.le_of_eq g137)) sD) hZ (w 78 _ rfl) (w 75 _ rfl) (by decide) (by decide)) e137 (by rw [hml]; rfl) (rest := [(.ref a137)]) (lenOf pd12 rfl) rfl (Nat.le_of_eq rfl) (hb hby at_96) rfl (by decide) (by decide) ?_
      intro T141 h141 v141 L141 X141 e141 hQ141
      obtain ⟨d141, el141, kE141, rfl, Nq141, K141, q141_0, q141_1, q141_2, q141_3, q141_4, q141_5, q141_6, q141_7, q141_8, q141_9⟩ := hQ141
      have KK142 : Keep h0 h137 [] := (KK136.ext E137)
      have N141 := Fk.app N135 Nq141 KK142.1 (allS (Or.inr (Nat.le_trans KK136.1 (Nat.le_of_eq g137))) all0)
      have O143 : Old Z Z.heap.size h141 := O138.keep K141 (allS (Nat.le_trans (Nat.le_trans (Nat.le_trans (Nat.le_of_eq O0.1.symm) O0.2.1) KK136.1) (Nat.le_of_eq g137)) all0)
      show Wp p e below _ _ T141 (mkF m 99 #[.val (.int p0), .val (.int p1), .val (.int p2), .val (.int p3), .val (.long j1), .second, .val (.long j2), .second, .val (.long j3), .second, .val (.ref a4), .val (.int (2 : Int32)), .val (.int (0 : Int32)), .val (.ref x12), .unset, .unset, .unset, .unset] [(.ref a137)])
      refine Wk.astore X141 hx (Ls' := #[.val (.int p0), .val (.int p1), .val (.int p2), .val (.int p3), .val (.long j1), .second, .val (.long j2), .second, .val (.long j3), .second, .val (.ref a4), .val (.int (2 : Int32)), .val (.int (0 : Int32)), .val (.ref x12), .val (.ref a137), .unset, .unset, .unset]) (hb hby at_99) rfl rfl rfl ?_
      refine Wk.aload X141 hx (hb hby at_101) rfl rfl rfl ?_
      refine Wk.callV X141 hx hZ (y := (⟨"com/example/accumulus/accumulus/account/LoanAccount", "nextWaitingDay", "()Ljava/time/LocalDate;"⟩ : MethodName)) (z := (⟨"com/example/accumulus/accumulus/account/LoanAccount", "nextWaitingDay", "()Ljava/time/LocalDate;"⟩ : MethodName)) hown (w 120 _ rfl) (w 121 _ rfl) (notFace_of_selects (args := #[]) (mvT hZ (w 123 _ rfl))) (w 123 _ rfl) (w 122 _ rfl) (by decide) (as' := []) (backOf (W := 0) (rm_nwN l Z a0 hw [] a137 d141 el141 (0 : Int32) kE141 [.null, .null, .null, .null, .null, .null, .null, .null, .null, .null, .null, .null, .null, .null, .null, .null, .null] h141 O143 q141_3 q141_5 q141_6 q141_7 q141_9 (by first | assumption | rfl | decide | exact Nat.le_of_ble_eq_true rfl) (by first | assumption | rfl | decide | exact Nat.le_of_ble_eq_true rfl) (by first | assumption | rfl | decide | exact Nat.le_of_ble_eq_true rfl)) hZ (w 124 _ rfl) (w 75 _ rfl) (by decide) (by decide)) e141 q141_2 (by rw [hml]; rfl) (rest := []) (lenOf pd25 rfl) rfl (Nat.le_of_eq rfl) (hb hby at_103) rfl (by decide) (by decide) ?_
      intro T144 h144 v144 L144 X144 e144 hQ144
      obtain ⟨rfl, Nq144, K144⟩ := hQ144
      have KK145 : Keep h0 h141 [] := (KK142.trans K141 (allS (Or.inr (Nat.le_trans KK136.1 (Nat.le_of_eq g137))) all0))
      have N144 := Fk.app N141 Nq144 KK145.1 all0
      rw [K144] at e144
      show Wp p e below _ _ T144 (mkF m 106 #[.val (.int p0), .val (.int p1), .val (.int p2), .val (.int p3), .val (.long j1), .second, .val (.long j2), .second, .val (.long j3), .second, .val (.ref a4), .val (.int (2 : Int32)), .val (.int (0 : Int32)), .val (.ref x12), .val (.ref a137), .unset, .unset, .unset] [.null])
      refine Wk.ifnonnullNo X144 hx (hb hby at_106) rfl ?_
      refine Wk.iconst X144 hx (v := (1 : Int32)) (hb hby at_109) rfl rfl ?_
      refine Wk.goto X144 hx (hb hby at_110) (by decide) (q := 114) rfl ?_
      refine Wk.istore X144 hx (Ls' := #[.val (.int p0), .val (.int p1), .val (.int p2), .val (.int p3), .val (.long j1), .second, .val (.long j2), .second, .val (.long j3), .second, .val (.ref a4), .val (.int (2 : Int32)), .val (.int (0 : Int32)), .val (.ref x12), .val (.ref a137), .val (.int (1 : Int32)), .unset, .unset]) (hb hby at_114) rfl rfl ?_
      refine Wk.iload X144 hx (hb hby at_116) rfl rfl ?_
      refine Wk.iconst X144 hx (v := (1 : Int32)) (hb hby at_118) rfl rfl ?_
      refine Wk.icmpNo X144 hx (hb hby at_119) rfl (flt (by decide : ¬ ((2 : Int32) < (1 : Int32)))).1 ?_
      refine Wk.aload X144 hx (hb hby at_122) rfl rfl rfl ?_
      refine Wk.aconstNull X144 hx (hb hby at_124) rfl ?_
      refine Wk.aload X144 hx (hb hby at_125) rfl rfl rfl ?_
      refine Wk.iconst X144 hx (v := (0 : Int32)) (hb hby at_127) rfl rfl ?_
      have KK146 : Keep h40 h141 [] := (((Keep.refl h40 []).ext E137).trans K141 (allS (Or.inr (Nat.le_of_eq g137)) all0))
      have f147 : Arv Z h141 a4 kA4 (.object "java/time/LocalDate") (3 : Int32) [(.ref x12), (.ref x24), (.ref x36)] .null := (V40.keep KK146 nin0)
      refine Wk.aaload X144 hx hZ e144 (C := (.object "java/time/LocalDate")) f147 (by decide) (by decide) (v := (.ref x12)) rfl rfl (hb hby at_128) rfl ?_
      refine Wk.callV X144 hx hZ (y := (⟨"com/example/accumulus/accumulus/account/LoanAccount", "await", "(Lcom/example/accumulus/accumulus/journal/JournalEntry;Ljava/time/LocalDate;)V"⟩ : MethodName)) (z := (⟨"com/example/accumulus/accumulus/account/LoanAccount", "await", "(Lcom/example/accumulus/accumulus/journal/JournalEntry;Ljava/time/LocalDate;)V"⟩ : MethodName)) hown (w 140 _ rfl) (w 141 _ rfl) (notFace_of_selects (args := #[]) (mvT hZ (w 143 _ rfl))) (w 143 _ rfl) (w 142 _ rfl) (by decide) (as' := [.null, (.ref x12)]) (backOf (W := 0) (rm_awt l Z a0 hw [] a137 d141 el141 (0 : Int32) (0 : Int32) (1 : Int32) kE141 [.null, .null, .null, .null, .null, .null, .null, .null, .null, .null, .null, .null, .null, .null, .null, .null, .null] x12 h141 O143 q141_3 q141_5 q141_6 q141_7 q141_8 q141_9 (by first | assumption | rfl | decide | exact Nat.le_of_ble_eq_true rfl) (by first | assumption | rfl | decide | exact Nat.le_of_ble_eq_true rfl) (by first | assumption | rfl | decide | exact Nat.le_of_ble_eq_true rfl) (by first | assumption | rfl | decide | exact Nat.le_of_ble_eq_true rfl) (by first | assumption | rfl | decide | exact Nat.le_of_ble_eq_true rfl) (by first | assumption | rfl | decide | exact Nat.le_of_ble_eq_true rfl) (Nat.le_trans (Nat.le_trans (Nat.le_trans (Nat.le_of_eq O0.1.symm) O0.2.1) KK142.1) q141_0) (Nat.le_trans (Nat.le_trans (Nat.le_trans (Nat.le_of_eq O0.1.symm) O0.2.1) KK142.1) q141_1) q141_4) hZ (w 144 _ rfl) (w 75 _ rfl) (by decide) (by decide)) e144 q141_2 (by rw [hml]; rfl) (rest := []) (lenOf pd21 rfl) rfl (Nat.le_of_eq rfl) (hb hby at_129) rfl (by decide) (by decide) ?_
      intro T148 h148 v148 L148 X148 e148 hQ148
      obtain ⟨w_148, rfl, Nq148, K148, q148_0, q148_1, q148_2, q148_3, q148_4, q148_5, q148_6, q148_7, q148_8⟩ := hQ148
      have N148 := Fk.app N144 Nq148 KK145.1 (allS (Or.inr (Nat.le_trans KK142.1 q141_0)) (allS (Or.inr (Nat.le_trans KK142.1 q141_1)) all0))
      have O149 : Old Z Z.heap.size h148 := O143.keep K148 (allS (Nat.le_trans (Nat.le_trans (Nat.le_trans (Nat.le_of_eq O0.1.symm) O0.2.1) KK142.1) q141_0) (allS (Nat.le_trans (Nat.le_trans (Nat.le_trans (Nat.le_of_eq O0.1.symm) O0.2.1) KK142.1) q141_1) all0))
      have Vl150 : Arv Z h148 el141 kE141 (.object "java/lang/Object") (17 : Int32) [(.ref w_148), .null, .null, .null, .null, .null, .null, .null, .null, .null, .null, .null, .null, .null, .null, .null, .null] .null := q148_8
      show Wp p e below _ _ T148 (mkF m 132 #[.val (.int p0), .val (.int p1), .val (.int p2), .val (.int p3), .val (.long j1), .second, .val (.long j2), .second, .val (.long j3), .second, .val (.ref a4), .val (.int (2 : Int32)), .val (.int (0 : Int32)), .val (.ref x12), .val (.ref a137), .val (.int (1 : Int32)), .unset, .unset] [])
      refine Wk.iload X148 hx (hb hby at_132) rfl rfl ?_
      refine Wk.ifNo X148 hx (hb hby at_134) rfl ((if0 _ _).trans (feq (by decide : ¬ ((1 : Int32) = (0 : Int32)))).1) ?_
      refine Wk.aload X148 hx (hb hby at_137) rfl rfl rfl ?_
      have KK151 : Keep h141 h148 [d141, el141] := ((Keep.refl h141 [d141, el141]).trans K148 (allS (Or.inl (List.mem_of_getElem? (i := 0) rfl)) (allS (Or.inl (List.mem_of_getElem? (i := 1) rfl)) all0)))
      have f152 : Fld Z h148 a137 "com/example/accumulus/accumulus/account/LoanAccount" "waiting" "Ljava/util/ArrayDeque;" (.ref d141) := (q141_3.keep KK151 (ninS (Nat.ne_of_lt (Nat.lt_of_lt_of_le A137.lt q141_0)) (ninS (Nat.ne_of_lt (Nat.lt_of_lt_of_le A137.lt q141_1)) nin0)))
      have KK154 : Keep h137 h148 [a137] := (((Keep.refl h137 [a137]).trans K141 (allS (Or.inl (List.mem_of_getElem? (i := 0) rfl)) all0)).trans K148 (allS (Or.inr q141_0) (allS (Or.inr q141_1) all0)))
      have f155 : Exa Z h148 a137 "com/example/accumulus/accumulus/account/LoanAccount" := (A137.keep KK154)
      refine Wk.callV X148 hx hZ (y := (⟨"com/example/accumulus/accumulus/account/LoanAccount", "nextWaitingDay", "()Ljava/time/LocalDate;"⟩ : MethodName)) (z := (⟨"com/example/accumulus/accumulus/account/LoanAccount", "nextWaitingDay", "()Ljava/time/LocalDate;"⟩ : MethodName)) hown (w 120 _ rfl) (w 121 _ rfl) (notFace_of_selects (args := #[]) (mvT hZ (w 123 _ rfl))) (w 123 _ rfl) (w 122 _ rfl) (by decide) (as' := []) (backOf (W := 0) (rm_nwR l Z a0 hw [] a137 d141 el141 (0 : Int32) kE141 [(.ref w_148), .null, .null, .null, .null, .null, .null, .null, .null, .null, .null, .null, .null, .null, .null, .null, .null] w_148 x12 h148 O149 f152 q148_4 q148_5 q148_6 Vl150 (by first | assumption | rfl | decide | exact Nat.le_of_ble_eq_true rfl) (by first | assumption | rfl | decide | exact Nat.le_of_ble_eq_true rfl) (by first | assumption | rfl | decide | exact Nat.le_of_ble_eq_true rfl) q148_1 q148_2) hZ (w 124 _ rfl) (w 75 _ rfl) (by decide) (by decide)) e148 f155 (by rw [hml]; rfl) (rest := []) (lenOf pd25 rfl) rfl (Nat.le_of_eq rfl) (hb hby at_139) rfl (by decide) (by decide) ?_
      intro T153 h153 v153 L153 X153 e153 hQ153
      obtain ⟨rfl, Nq153, K153⟩ := hQ153
      have KK156 : Keep h0 h148 [] := (KK145.trans K148 (allS (Or.inr (Nat.le_trans KK142.1 q141_0)) (allS (Or.inr (Nat.le_trans KK142.1 q141_1)) all0)))
      have N153 := Fk.app N148 Nq153 KK156.1 all0
      rw [K153] at e153
      show Wp p e below _ _ T153 (mkF m 142 #[.val (.int p0), .val (.int p1), .val (.int p2), .val (.int p3), .val (.long j1), .second, .val (.long j2), .second, .val (.long j3), .second, .val (.ref a4), .val (.int (2 : Int32)), .val (.int (0 : Int32)), .val (.ref x12), .val (.ref a137), .val (.int (1 : Int32)), .unset, .unset] [(.ref x12)])
      refine Wk.aload X153 hx (hb hby at_142) rfl rfl rfl ?_
      refine Wk.iconst X153 hx (v := (0 : Int32)) (hb hby at_144) rfl rfl ?_
      have KK157 : Keep h40 h137 [] := ((Keep.refl h40 []).ext E137)
      have KK158 : Keep h40 h148 [] := (KK146.trans K148 (allS (Or.inr (Nat.le_trans KK157.1 q141_0)) (allS (Or.inr (Nat.le_trans KK157.1 q141_1)) all0)))
      have f159 : Arv Z h148 a4 kA4 (.object "java/time/LocalDate") (3 : Int32) [(.ref x12), (.ref x24), (.ref x36)] .null := (V40.keep KK158 nin0)
      refine Wk.aaload X153 hx hZ e153 (C := (.object "java/time/LocalDate")) f159 (by decide) (by decide) (v := (.ref x12)) rfl rfl (hb hby at_145) rfl ?_
      have KK160 : Keep h12 h40 [a4] := ((((((Keep.refl h12 [a4]).wr W16 (Or.inl (List.mem_of_getElem? (i := 0) rfl))).trans K24 all0).wr W28 (Or.inl (List.mem_of_getElem? (i := 0) rfl))).trans K36 all0).wr W40 (Or.inl (List.mem_of_getElem? (i := 0) rfl)))
      have KK161 : Keep h12 h137 [a4] := (KK160.ext E137)
      have KK162 : Keep h12 h148 [a4] := (((((((((Keep.refl h12 [a4]).wr W16 (Or.inl (List.mem_of_getElem? (i := 0) rfl))).trans K24 all0).wr W28 (Or.inl (List.mem_of_getElem? (i := 0) rfl))).trans K36 all0).wr W40 (Or.inl (List.mem_of_getElem? (i := 0) rfl))).ext E137).trans K141 (allS (Or.inr (Nat.le_trans KK160.1 (Nat.le_of_eq g137))) all0)).trans K148 (allS (Or.inr (Nat.le_trans KK161.1 q141_0)) (allS (Or.inr (Nat.le_trans KK161.1 q141_1)) all0)))
      have f163 : Exa Z h148 x12 "java/time/LocalDate" := (q12_1.keep KK162)
      refine Wk.callS X153 hx hZ hown (w 174 _ rfl) (w 175 _ rfl) (w 176 _ rfl) (w 177 _ rfl) (by decide) (as' := [(.ref x12), (.ref x12)]) (backOf (W := 0) (rm_smR l Z a0 hw [] x12 h148 O149 f163) hZ (w 177 _ rfl) (w 176 _ rfl) (by decide) (by decide)) e153 (by rw [hml]; rfl) (rest := []) (lenOf pd26 rfl) rfl (Nat.le_of_eq rfl) (hb hby at_146) rfl (by decide) (by decide) ?_
      intro T164 h164 v164 L164 X164 e164 hQ164
      obtain ⟨rfl, Nq164, K164⟩ := hQ164
      have N164 := Fk.app N153 Nq164 KK156.1 all0
      rw [K164] at e164
      show Wp p e below _ _ T164 (mkF m 149 #[.val (.int p0), .val (.int p1), .val (.int p2), .val (.int p3), .val (.long j1), .second, .val (.long j2), .second, .val (.long j3), .second, .val (.ref a4), .val (.int (2 : Int32)), .val (.int (0 : Int32)), .val (.ref x12), .val (.ref a137), .val (.int (1 : Int32)), .unset, .unset] [(.int (1 : Int32))])
      refine Wk.ifNo X164 hx (hb hby at_149) rfl ((if0 _ _).trans (feq (by decide : ¬ ((1 : Int32) = (0 : Int32)))).1) ?_
      refine Wk.iconst X164 hx (v := (1 : Int32)) (hb hby at_152) rfl rfl ?_
      refine Wk.goto X164 hx (hb hby at_153) (by decide) (q := 157) rfl ?_
      refine Wk.istore X164 hx (Ls' := #[.val (.int p0), .val (.int p1), .val (.int p2), .val (.int p3), .val (.long j1), .second, .val (.long j2), .second, .val (.long j3), .second, .val (.ref a4), .val (.int (2 : Int32)), .val (.int (0 : Int32)), .val (.ref x12), .val (.ref a137), .val (.int (1 : Int32)), .unset, .unset]) (hb hby at_157) rfl rfl ?_
      refine Wk.iload X164 hx (hb hby at_159) rfl rfl ?_
      refine Wk.iconst X164 hx (v := (2 : Int32)) (hb hby at_161) rfl rfl ?_
      refine Wk.icmpNo X164 hx (hb hby at_162) rfl (flt (by decide : ¬ ((2 : Int32) < (2 : Int32)))).1 ?_
      refine Wk.aload X164 hx (hb hby at_165) rfl rfl rfl ?_
      refine Wk.aconstNull X164 hx (hb hby at_167) rfl ?_
      refine Wk.aload X164 hx (hb hby at_168) rfl rfl rfl ?_
      refine Wk.iconst X164 hx (v := (1 : Int32)) (hb hby at_170) rfl rfl ?_
      refine Wk.aaload X164 hx hZ e164 (C := (.object "java/time/LocalDate")) f159 (by decide) (by decide) (v := (.ref x24)) rfl rfl (hb hby at_171) rfl ?_
      refine Wk.callV X164 hx hZ (y := (⟨"com/example/accumulus/accumulus/account/LoanAccount", "await", "(Lcom/example/accumulus/accumulus/journal/JournalEntry;Ljava/time/LocalDate;)V"⟩ : MethodName)) (z := (⟨"com/example/accumulus/accumulus/account/LoanAccount", "await", "(Lcom/example/accumulus/accumulus/journal/JournalEntry;Ljava/time/LocalDate;)V"⟩ : MethodName)) hown (w 140 _ rfl) (w 141 _ rfl) (notFace_of_selects (args := #[]) (mvT hZ (w 143 _ rfl))) (w 143 _ rfl) (w 142 _ rfl) (by decide) (as' := [.null, (.ref x24)]) (backOf (W := 0) (rm_awt l Z a0 hw [] a137 d141 el141 (0 : Int32) (1 : Int32) (2 : Int32) kE141 [(.ref w_148), .null, .null, .null, .null, .null, .null, .null, .null, .null, .null, .null, .null, .null, .null, .null, .null] x24 h148 O149 f152 q148_4 q148_5 q148_6 q148_7 Vl150 (by first | assumption | rfl | decide | exact Nat.le_of_ble_eq_true rfl) (by first | assumption | rfl | decide | exact Nat.le_of_ble_eq_true rfl) (by first | assumption | rfl | decide | exact Nat.le_of_ble_eq_true rfl) (by first | assumption | rfl | decide | exact Nat.le_of_ble_eq_true rfl) (by first | assumption | rfl | decide | exact Nat.le_of_ble_eq_true rfl) (by first | assumption | rfl | decide | exact Nat.le_of_ble_eq_true rfl) (Nat.le_trans (Nat.le_trans (Nat.le_trans (Nat.le_of_eq O0.1.symm) O0.2.1) KK142.1) q141_0) (Nat.le_trans (Nat.le_trans (Nat.le_trans (Nat.le_of_eq O0.1.symm) O0.2.1) KK142.1) q141_1) q141_4) hZ (w 144 _ rfl) (w 75 _ rfl) (by decide) (by decide)) e164 f155 (by rw [hml]; rfl) (rest := []) (lenOf pd21 rfl) rfl (Nat.le_of_eq rfl) (hb hby at_172) rfl (by decide) (by decide) ?_
      intro T165 h165 v165 L165 X165 e165 hQ165
      obtain ⟨w_165, rfl, Nq165, K165, q165_0, q165_1, q165_2, q165_3, q165_4, q165_5, q165_6, q165_7, q165_8⟩ := hQ165
      have N165 := Fk.app N164 Nq165 KK156.1 (allS (Or.inr (Nat.le_trans KK142.1 q141_0)) (allS (Or.inr (Nat.le_trans KK142.1 q141_1)) all0))
      have O166 : Old Z Z.heap.size h165 := O149.keep K165 (allS (Nat.le_trans (Nat.le_trans (Nat.le_trans (Nat.le_of_eq O0.1.symm) O0.2.1) KK142.1) q141_0) (allS (Nat.le_trans (Nat.le_trans (Nat.le_trans (Nat.le_of_eq O0.1.symm) O0.2.1) KK142.1) q141_1) all0))
      have Vl167 : Arv Z h165 el141 kE141 (.object "java/lang/Object") (17 : Int32) [(.ref w_148), (.ref w_165), .null, .null, .null, .null, .null, .null, .null, .null, .null, .null, .null, .null, .null, .null, .null] .null := q165_8
      show Wp p e below _ _ T165 (mkF m 175 #[.val (.int p0), .val (.int p1), .val (.int p2), .val (.int p3), .val (.long j1), .second, .val (.long j2), .second, .val (.long j3), .second, .val (.ref a4), .val (.int (2 : Int32)), .val (.int (0 : Int32)), .val (.ref x12), .val (.ref a137), .val (.int (1 : Int32)), .unset, .unset] [])
      refine Wk.iload X165 hx (hb hby at_175) rfl rfl ?_
      refine Wk.iconst X165 hx (v := (3 : Int32)) (hb hby at_177) rfl rfl ?_
      refine Wk.icmpYes X165 hx (hb hby at_178) (by decide) (q := 191) rfl (tlt (by decide : (2 : Int32) < (3 : Int32))).1 ?_
      refine Wk.iload X165 hx (hb hby at_191) rfl rfl ?_
      refine Wk.iconst X165 hx (v := (1 : Int32)) (hb hby at_193) rfl rfl ?_
      refine Wk.icmpYes X165 hx (hb hby at_194) (by decide) (q := 203) rfl (tlt (by decide : (0 : Int32) < (1 : Int32))).1 ?_
      refine Wk.iload X165 hx (hb hby at_203) rfl rfl ?_
      refine Wk.iconst X165 hx (v := (2 : Int32)) (hb hby at_205) rfl rfl ?_
      refine Wk.icmpYes X165 hx (hb hby at_206) (by decide) (q := 215) rfl (tlt (by decide : (0 : Int32) < (2 : Int32))).1 ?_
      refine Wk.iload X165 hx (hb hby at_215) rfl rfl ?_
      refine Wk.iconst X165 hx (v := (3 : Int32)) (hb hby at_217) rfl rfl ?_
      refine Wk.icmpYes X165 hx (hb hby at_218) (by decide) (q := 227) rfl (tlt (by decide : (0 : Int32) < (3 : Int32))).1 ?_
      refine Wk.aload X165 hx (hb hby at_227) rfl rfl rfl ?_
      have KK168 : Keep h148 h165 [d141, el141] := ((Keep.refl h148 [d141, el141]).trans K165 (allS (Or.inl (List.mem_of_getElem? (i := 0) rfl)) (allS (Or.inl (List.mem_of_getElem? (i := 1) rfl)) all0)))
      have f169 : Fld Z h165 a137 "com/example/accumulus/accumulus/account/LoanAccount" "waiting" "Ljava/util/ArrayDeque;" (.ref d141) := (f152.keep KK168 (ninS (Nat.ne_of_lt (Nat.lt_of_lt_of_le A137.lt q141_0)) (ninS (Nat.ne_of_lt (Nat.lt_of_lt_of_le A137.lt q141_1)) nin0)))
      have f170 : Exa Z h165 w_148 "com/example/accumulus/accumulus/account/LoanAccount$Waiting" := (q148_1.keep KK168)
      have f171 : Fld Z h165 w_148 "com/example/accumulus/accumulus/account/LoanAccount$Waiting" "pricingDate" "Ljava/time/LocalDate;" (.ref x12) := (q148_2.keep KK168 (ninS (Ne.symm (Nat.ne_of_lt (Nat.lt_of_lt_of_le q141_5.lt q148_0))) (ninS (Exa.neArv f170 Vl167 (w 146 _ rfl)) nin0)))
      have KK173 : Keep h137 h165 [a137] := (KK154.trans K165 (allS (Or.inr q141_0) (allS (Or.inr q141_1) all0)))
      have f174 : Exa Z h165 a137 "com/example/accumulus/accumulus/account/LoanAccount" := (A137.keep KK173)
      refine Wk.callV X165 hx hZ (y := (⟨"com/example/accumulus/accumulus/account/LoanAccount", "nextWaitingDay", "()Ljava/time/LocalDate;"⟩ : MethodName)) (z := (⟨"com/example/accumulus/accumulus/account/LoanAccount", "nextWaitingDay", "()Ljava/time/LocalDate;"⟩ : MethodName)) hown (w 120 _ rfl) (w 121 _ rfl) (notFace_of_selects (args := #[]) (mvT hZ (w 123 _ rfl))) (w 123 _ rfl) (w 122 _ rfl) (by decide) (as' := []) (backOf (W := 0) (rm_nwR l Z a0 hw [] a137 d141 el141 (0 : Int32) kE141 [(.ref w_148), (.ref w_165), .null, .null, .null, .null, .null, .null, .null, .null, .null, .null, .null, .null, .null, .null, .null] w_148 x12 h165 O166 f169 q165_4 q165_5 q165_6 Vl167 (by first | assumption | rfl | decide | exact Nat.le_of_ble_eq_true rfl) (by first | assumption | rfl | decide | exact Nat.le_of_ble_eq_true rfl) (by first | assumption | rfl | decide | exact Nat.le_of_ble_eq_true rfl) f170 f171) hZ (w 124 _ rfl) (w 75 _ rfl) (by decide) (by decide)) e165 f174 (by rw [hml]; rfl) (rest := []) (lenOf pd25 rfl) rfl (Nat.le_of_eq rfl) (hb hby at_229) rfl (by decide) (by decide) ?_
      intro T172 h172 v172 L172 X172 e172 hQ172
      obtain ⟨rfl, Nq172, K172⟩ := hQ172
      have KK175 : Keep h0 h165 [] := (KK156.trans K165 (allS (Or.inr (Nat.le_trans KK142.1 q141_0)) (allS (Or.inr (Nat.le_trans KK142.1 q141_1)) all0)))
      have N172 := Fk.app N165 Nq172 KK175.1 all0
      rw [K172] at e172
      show Wp p e below _ _ T172 (mkF m 232 #[.val (.int p0), .val (.int p1), .val (.int p2), .val (.int p3), .val (.long j1), .second, .val (.long j2), .second, .val (.long j3), .second, .val (.ref a4), .val (.int (2 : Int32)), .val (.int (0 : Int32)), .val (.ref x12), .val (.ref a137), .val (.int (1 : Int32)), .unset, .unset] [(.ref x12)])
      refine Wk.astore X172 hx (Ls' := #[.val (.int p0), .val (.int p1), .val (.int p2), .val (.int p3), .val (.long j1), .second, .val (.long j2), .second, .val (.long j3), .second, .val (.ref a4), .val (.int (2 : Int32)), .val (.int (0 : Int32)), .val (.ref x12), .val (.ref a137), .val (.int (1 : Int32)), .val (.ref x12), .unset]) (hb hby at_232) rfl rfl rfl ?_
      refine Wk.iload X172 hx (hb hby at_234) rfl rfl ?_
      refine Wk.ifNo X172 hx (hb hby at_236) rfl ((if0 _ _).trans (feq (by decide : ¬ ((1 : Int32) = (0 : Int32)))).1) ?_
      refine Wk.aload X172 hx (hb hby at_239) rfl rfl rfl ?_
      refine Wk.aload X172 hx (hb hby at_241) rfl rfl rfl ?_
      have KK176 : Keep h12 h165 [a4] := (KK162.trans K165 (allS (Or.inr (Nat.le_trans KK161.1 q141_0)) (allS (Or.inr (Nat.le_trans KK161.1 q141_1)) all0)))
      have f177 : Exa Z h165 x12 "java/time/LocalDate" := (q12_1.keep KK176)
      refine Wk.callS X172 hx hZ hown (w 174 _ rfl) (w 175 _ rfl) (w 176 _ rfl) (w 177 _ rfl) (by decide) (as' := [(.ref x12), (.ref x12)]) (backOf (W := 0) (rm_smR l Z a0 hw [] x12 h165 O166 f177) hZ (w 177 _ rfl) (w 176 _ rfl) (by decide) (by decide)) e172 (by rw [hml]; rfl) (rest := []) (lenOf pd26 rfl) rfl (Nat.le_of_eq rfl) (hb hby at_243) rfl (by decide) (by decide) ?_
      intro T178 h178 v178 L178 X178 e178 hQ178
      obtain ⟨rfl, Nq178, K178⟩ := hQ178
      have N178 := Fk.app N172 Nq178 KK175.1 all0
      rw [K178] at e178
      show Wp p e below _ _ T178 (mkF m 246 #[.val (.int p0), .val (.int p1), .val (.int p2), .val (.int p3), .val (.long j1), .second, .val (.long j2), .second, .val (.long j3), .second, .val (.ref a4), .val (.int (2 : Int32)), .val (.int (0 : Int32)), .val (.ref x12), .val (.ref a137), .val (.int (1 : Int32)), .val (.ref x12), .unset] [(.int (1 : Int32))])
      refine Wk.ifNo X178 hx (hb hby at_246) rfl ((if0 _ _).trans (feq (by decide : ¬ ((1 : Int32) = (0 : Int32)))).1) ?_
      refine Wk.iconst X178 hx (v := (1 : Int32)) (hb hby at_249) rfl rfl ?_
      refine Wk.goto X178 hx (hb hby at_250) (by decide) (q := 254) rfl ?_
      refine Wk.istore X178 hx (Ls' := #[.val (.int p0), .val (.int p1), .val (.int p2), .val (.int p3), .val (.long j1), .second, .val (.long j2), .second, .val (.long j3), .second, .val (.ref a4), .val (.int (2 : Int32)), .val (.int (0 : Int32)), .val (.ref x12), .val (.ref a137), .val (.int (1 : Int32)), .val (.ref x12), .unset]) (hb hby at_254) rfl rfl ?_
      refine Wk.aload X178 hx (hb hby at_256) rfl rfl rfl ?_
      refine Wk.callV X178 hx hZ (y := (⟨"com/example/accumulus/accumulus/account/LoanAccount", "nextWaitingDay", "()Ljava/time/LocalDate;"⟩ : MethodName)) (z := (⟨"com/example/accumulus/accumulus/account/LoanAccount", "nextWaitingDay", "()Ljava/time/LocalDate;"⟩ : MethodName)) hown (w 120 _ rfl) (w 121 _ rfl) (notFace_of_selects (args := #[]) (mvT hZ (w 123 _ rfl))) (w 123 _ rfl) (w 122 _ rfl) (by decide) (as' := []) (backOf (W := 0) (rm_nwR l Z a0 hw [] a137 d141 el141 (0 : Int32) kE141 [(.ref w_148), (.ref w_165), .null, .null, .null, .null, .null, .null, .null, .null, .null, .null, .null, .null, .null, .null, .null] w_148 x12 h165 O166 f169 q165_4 q165_5 q165_6 Vl167 (by first | assumption | rfl | decide | exact Nat.le_of_ble_eq_true rfl) (by first | assumption | rfl | decide | exact Nat.le_of_ble_eq_true rfl) (by first | assumption | rfl | decide | exact Nat.le_of_ble_eq_true rfl) f170 f171) hZ (w 124 _ rfl) (w 75 _ rfl) (by decide) (by decide)) e178 f174 (by rw [hml]; rfl) (rest := []) (lenOf pd25 rfl) rfl (Nat.le_of_eq rfl) (hb hby at_258) rfl (by decide) (by decide) ?_
      intro T179 h179 v179 L179 X179 e179 hQ179
      obtain ⟨rfl, Nq179, K179⟩ := hQ179
      have N179 := Fk.app N178 Nq179 KK175.1 all0
      rw [K179] at e179
      show Wp p e below _ _ T179 (mkF m 261 #[.val (.int p0), .val (.int p1), .val (.int p2), .val (.int p3), .val (.long j1), .second, .val (.long j2), .second, .val (.long j3), .second, .val (.ref a4), .val (.int (2 : Int32)), .val (.int (0 : Int32)), .val (.ref x12), .val (.ref a137), .val (.int (1 : Int32)), .val (.ref x12), .unset] [(.ref x12)])
      refine Wk.astore X179 hx (Ls' := #[.val (.int p0), .val (.int p1), .val (.int p2), .val (.int p3), .val (.long j1), .second, .val (.long j2), .second, .val (.long j3), .second, .val (.ref a4), .val (.int (2 : Int32)), .val (.int (0 : Int32)), .val (.ref x12), .val (.ref a137), .val (.int (1 : Int32)), .val (.ref x12), .val (.ref x12)]) (hb hby at_261) rfl rfl rfl ?_
      refine Wk.iload X179 hx (hb hby at_263) rfl rfl ?_
      refine Wk.ifNo X179 hx (hb hby at_265) rfl ((if0 _ _).trans (feq (by decide : ¬ ((1 : Int32) = (0 : Int32)))).1) ?_
      refine Wk.aload X179 hx (hb hby at_268) rfl rfl rfl ?_
      refine Wk.aload X179 hx (hb hby at_270) rfl rfl rfl ?_
      refine Wk.callS X179 hx hZ hown (w 174 _ rfl) (w 175 _ rfl) (w 176 _ rfl) (w 177 _ rfl) (by decide) (as' := [(.ref x12), (.ref x12)]) (backOf (W := 0) (rm_smR l Z a0 hw [] x12 h165 O166 f177) hZ (w 177 _ rfl) (w 176 _ rfl) (by decide) (by decide)) e179 (by rw [hml]; rfl) (rest := []) (lenOf pd26 rfl) rfl (Nat.le_of_eq rfl) (hb hby at_272) rfl (by decide) (by decide) ?_
      intro T180 h180 v180 L180 X180 e180 hQ180
      obtain ⟨rfl, Nq180, K180⟩ := hQ180
      have N180 := Fk.app N179 Nq180 KK175.1 all0
      rw [K180] at e180
      show Wp p e below _ _ T180 (mkF m 275 #[.val (.int p0), .val (.int p1), .val (.int p2), .val (.int p3), .val (.long j1), .second, .val (.long j2), .second, .val (.long j3), .second, .val (.ref a4), .val (.int (2 : Int32)), .val (.int (0 : Int32)), .val (.ref x12), .val (.ref a137), .val (.int (1 : Int32)), .val (.ref x12), .val (.ref x12)] [(.int (1 : Int32))])
      refine Wk.ifNo X180 hx (hb hby at_275) rfl ((if0 _ _).trans (feq (by decide : ¬ ((1 : Int32) = (0 : Int32)))).1) ?_
      refine Wk.iconst X180 hx (v := (1 : Int32)) (hb hby at_278) rfl rfl ?_
      refine Wk.goto X180 hx (hb hby at_279) (by decide) (q := 283) rfl ?_
      refine Wk.istore X180 hx (Ls' := #[.val (.int p0), .val (.int p1), .val (.int p2), .val (.int p3), .val (.long j1), .second, .val (.long j2), .second, .val (.long j3), .second, .val (.ref a4), .val (.int (2 : Int32)), .val (.int (0 : Int32)), .val (.ref x12), .val (.ref a137), .val (.int (1 : Int32)), .val (.ref x12), .val (.ref x12)]) (hb hby at_283) rfl rfl ?_
      refine Wk.iload X180 hx (hb hby at_285) rfl rfl ?_
      exact Wk.retZ' X180 hx hlk hr (by simp) (hb hby at_287) (by decide) (by decide) (Qc := Q_rm_law Z p0 p1 p2 p3 u vr_ ed h0) e180 ⟨rfl, N180, KK175⟩
    · skip
      refine Wk.istore X135 hx (Ls' := #[.val (.int p0), .val (.int p1), .val (.int p2), .val (.int p3), .val (.long j1), .second, .val (.long j2), .second, .val (.long j3), .second, .val (.ref a4), .val (.int (2 : Int32)), .val (.int (1 : Int32)), .unset, .unset, .unset, .unset, .unset]) (hb hby at_72) rfl rfl ?_
      refine Wk.iload X135 hx (hb hby at_74) rfl rfl ?_
      refine Wk.iload X135 hx (hb hby at_76) rfl rfl ?_
      refine Wk.icmpNo X135 hx (hb hby at_78) rfl (tlt (by decide : (1 : Int32) < (2 : Int32))).2.1 ?_
      refine Wk.aload X135 hx (hb hby at_81) rfl rfl rfl ?_
      refine Wk.iload X135 hx (hb hby at_83) rfl rfl ?_
      refine Wk.aaload X135 hx hZ e135 (C := (.object "java/time/LocalDate")) V40 (by decide) (by decide) (v := (.ref x24)) rfl rfl (hb hby at_85) rfl ?_
      refine Wk.goto X135 hx (hb hby at_86) (by decide) (q := 90) rfl ?_
      refine Wk.astore X135 hx (Ls' := #[.val (.int p0), .val (.int p1), .val (.int p2), .val (.int p3), .val (.long j1), .second, .val (.long j2), .second, .val (.long j3), .second, .val (.ref a4), .val (.int (2 : Int32)), .val (.int (1 : Int32)), .val (.ref x24), .unset, .unset, .unset, .unset]) (hb hby at_90) rfl rfl rfl ?_
      refine Wk.new X135 hx hZ hown (w 73 _ rfl) (w 74 _ rfl) (w 75 _ rfl) e135 (hb hby at_92) rfl (by decide) (by decide) ?_
      intro T181 h181 a181 g181 X181 e181 E181 A181 D181
      have O182 : Old Z Z.heap.size h181 := O41.ext E181
      have f183 : Fld Z h181 a181 "com/example/accumulus/accumulus/account/LoanAccount" "loans" "Ljava/util/List;" .null := D181 (Or.inr (w 105 _ rfl)) (ty := (.object "java/util/List")) (by decide)
      have f184 : Fld Z h181 a181 "com/example/accumulus/accumulus/account/LoanAccount" "waiting" "Ljava/util/ArrayDeque;" .null := D181 (Or.inr (w 119 _ rfl)) (ty := (.object "java/util/ArrayDeque")) (by decide)
      refine Wk.dup X181 hx (hb hby at_95) rfl rfl ?_
      refine Wk.callI X181 hx hZ rfl hown (w 76 _ rfl) (w 77 _ rfl) (w 78 _ rfl) (by decide) (as' := []) (backOf (W := 1) (rm_lai l Z a0 hw [] a181 ed h181 O182 A181 f183 f184 (Nat.le_trans (Nat.le_trans (Nat.le_trans (Nat.le_of_eq O0.1.symm) O0.2.1) KK136.1) (Nat.le_of_eq g181)) sD) hZ (w 78 _ rfl) (w 75 _ rfl) (by decide) (by decide)) e181 (by rw [hml]; rfl) (rest := [(.ref a181)]) (lenOf pd12 rfl) rfl (Nat.le_of_eq rfl) (hb hby at_96) rfl (by decide) (by decide) ?_
      intro T185 h185 v185 L185 X185 e185 hQ185
      obtain ⟨d185, el185, kE185, rfl, Nq185, K185, q185_0, q185_1, q185_2, q185_3, q185_4, q185_5, q185_6, q185_7, q185_8, q185_9⟩ := hQ185
      have KK186 : Keep h0 h181 [] := (KK136.ext E181)
      have N185 := Fk.app N135 Nq185 KK186.1 (allS (Or.inr (Nat.le_trans KK136.1 (Nat.le_of_eq g181))) all0)
      have O187 : Old Z Z.heap.size h185 := O182.keep K185 (allS (Nat.le_trans (Nat.le_trans (Nat.le_trans (Nat.le_of_eq O0.1.symm) O0.2.1) KK136.1) (Nat.le_of_eq g181)) all0)
      show Wp p e below _ _ T185 (mkF m 99 #[.val (.int p0), .val (.int p1), .val (.int p2), .val (.int p3), .val (.long j1), .second, .val (.long j2), .second, .val (.long j3), .second, .val (.ref a4), .val (.int (2 : Int32)), .val (.int (1 : Int32)), .val (.ref x24), .unset, .unset, .unset, .unset] [(.ref a181)])
      refine Wk.astore X185 hx (Ls' := #[.val (.int p0), .val (.int p1), .val (.int p2), .val (.int p3), .val (.long j1), .second, .val (.long j2), .second, .val (.long j3), .second, .val (.ref a4), .val (.int (2 : Int32)), .val (.int (1 : Int32)), .val (.ref x24), .val (.ref a181), .unset, .unset, .unset]) (hb hby at_99) rfl rfl rfl ?_
      refine Wk.aload X185 hx (hb hby at_101) rfl rfl rfl ?_
      refine Wk.callV X185 hx hZ (y := (⟨"com/example/accumulus/accumulus/account/LoanAccount", "nextWaitingDay", "()Ljava/time/LocalDate;"⟩ : MethodName)) (z := (⟨"com/example/accumulus/accumulus/account/LoanAccount", "nextWaitingDay", "()Ljava/time/LocalDate;"⟩ : MethodName)) hown (w 120 _ rfl) (w 121 _ rfl) (notFace_of_selects (args := #[]) (mvT hZ (w 123 _ rfl))) (w 123 _ rfl) (w 122 _ rfl) (by decide) (as' := []) (backOf (W := 0) (rm_nwN l Z a0 hw [] a181 d185 el185 (0 : Int32) kE185 [.null, .null, .null, .null, .null, .null, .null, .null, .null, .null, .null, .null, .null, .null, .null, .null, .null] h185 O187 q185_3 q185_5 q185_6 q185_7 q185_9 (by first | assumption | rfl | decide | exact Nat.le_of_ble_eq_true rfl) (by first | assumption | rfl | decide | exact Nat.le_of_ble_eq_true rfl) (by first | assumption | rfl | decide | exact Nat.le_of_ble_eq_true rfl)) hZ (w 124 _ rfl) (w 75 _ rfl) (by decide) (by decide)) e185 q185_2 (by rw [hml]; rfl) (rest := []) (lenOf pd25 rfl) rfl (Nat.le_of_eq rfl) (hb hby at_103) rfl (by decide) (by decide) ?_
      intro T188 h188 v188 L188 X188 e188 hQ188
      obtain ⟨rfl, Nq188, K188⟩ := hQ188
      have KK189 : Keep h0 h185 [] := (KK186.trans K185 (allS (Or.inr (Nat.le_trans KK136.1 (Nat.le_of_eq g181))) all0))
      have N188 := Fk.app N185 Nq188 KK189.1 all0
      rw [K188] at e188
      show Wp p e below _ _ T188 (mkF m 106 #[.val (.int p0), .val (.int p1), .val (.int p2), .val (.int p3), .val (.long j1), .second, .val (.long j2), .second, .val (.long j3), .second, .val (.ref a4), .val (.int (2 : Int32)), .val (.int (1 : Int32)), .val (.ref x24), .val (.ref a181), .unset, .unset, .unset] [.null])
      refine Wk.ifnonnullNo X188 hx (hb hby at_106) rfl ?_
      refine Wk.iconst X188 hx (v := (1 : Int32)) (hb hby at_109) rfl rfl ?_
      refine Wk.goto X188 hx (hb hby at_110) (by decide) (q := 114) rfl ?_
      refine Wk.istore X188 hx (Ls' := #[.val (.int p0), .val (.int p1), .val (.int p2), .val (.int p3), .val (.long j1), .second, .val (.long j2), .second, .val (.long j3), .second, .val (.ref a4), .val (.int (2 : Int32)), .val (.int (1 : Int32)), .val (.ref x24), .val (.ref a181), .val (.int (1 : Int32)), .unset, .unset]) (hb hby at_114) rfl rfl ?_
      refine Wk.iload X188 hx (hb hby at_116) rfl rfl ?_
      refine Wk.iconst X188 hx (v := (1 : Int32)) (hb hby at_118) rfl rfl ?_
      refine Wk.icmpNo X188 hx (hb hby at_119) rfl (flt (by decide : ¬ ((2 : Int32) < (1 : Int32)))).1 ?_
      refine Wk.aload X188 hx (hb hby at_122) rfl rfl rfl ?_
      refine Wk.aconstNull X188 hx (hb hby at_124) rfl ?_
      refine Wk.aload X188 hx (hb hby at_125) rfl rfl rfl ?_
      refine Wk.iconst X188 hx (v := (0 : Int32)) (hb hby at_127) rfl rfl ?_
      have KK190 : Keep h40 h185 [] := (((Keep.refl h40 []).ext E181).trans K185 (allS (Or.inr (Nat.le_of_eq g181)) all0))
      have f191 : Arv Z h185 a4 kA4 (.object "java/time/LocalDate") (3 : Int32) [(.ref x12), (.ref x24), (.ref x36)] .null := (V40.keep KK190 nin0)
      refine Wk.aaload X188 hx hZ e188 (C := (.object "java/time/LocalDate")) f191 (by decide) (by decide) (v := (.ref x12)) rfl rfl (hb hby at_128) rfl ?_
      refine Wk.callV X188 hx hZ (y := (⟨"com/example/accumulus/accumulus/account/LoanAccount", "await", "(Lcom/example/accumulus/accumulus/journal/JournalEntry;Ljava/time/LocalDate;)V"⟩ : MethodName)) (z := (⟨"com/example/accumulus/accumulus/account/LoanAccount", "await", "(Lcom/example/accumulus/accumulus/journal/JournalEntry;Ljava/time/LocalDate;)V"⟩ : MethodName)) hown (w 140 _ rfl) (w 141 _ rfl) (notFace_of_selects (args := #[]) (mvT hZ (w 143 _ rfl))) (w 143 _ rfl) (w 142 _ rfl) (by decide) (as' := [.null, (.ref x12)]) (backOf (W := 0) (rm_awt l Z a0 hw [] a181 d185 el185 (0 : Int32) (0 : Int32) (1 : Int32) kE185 [.null, .null, .null, .null, .null, .null, .null, .null, .null, .null, .null, .null, .null, .null, .null, .null, .null] x12 h185 O187 q185_3 q185_5 q185_6 q185_7 q185_8 q185_9 (by first | assumption | rfl | decide | exact Nat.le_of_ble_eq_true rfl) (by first | assumption | rfl | decide | exact Nat.le_of_ble_eq_true rfl) (by first | assumption | rfl | decide | exact Nat.le_of_ble_eq_true rfl) (by first | assumption | rfl | decide | exact Nat.le_of_ble_eq_true rfl) (by first | assumption | rfl | decide | exact Nat.le_of_ble_eq_true rfl) (by first | assumption | rfl | decide | exact Nat.le_of_ble_eq_true rfl) (Nat.le_trans (Nat.le_trans (Nat.le_trans (Nat.le_of_eq O0.1.symm) O0.2.1) KK186.1) q185_0) (Nat.le_trans (Nat.le_trans (Nat.le_trans (Nat.le_of_eq O0.1.symm) O0.2.1) KK186.1) q185_1) q185_4) hZ (w 144 _ rfl) (w 75 _ rfl) (by decide) (by decide)) e188 q185_2 (by rw [hml]; rfl) (rest := []) (lenOf pd21 rfl) rfl (Nat.le_of_eq rfl) (hb hby at_129) rfl (by decide) (by decide) ?_
      intro T192 h192 v192 L192 X192 e192 hQ192
      obtain ⟨w_192, rfl, Nq192, K192, q192_0, q192_1, q192_2, q192_3, q192_4, q192_5, q192_6, q192_7, q192_8⟩ := hQ192
      have N192 := Fk.app N188 Nq192 KK189.1 (allS (Or.inr (Nat.le_trans KK186.1 q185_0)) (allS (Or.inr (Nat.le_trans KK186.1 q185_1)) all0))
      have O193 : Old Z Z.heap.size h192 := O187.keep K192 (allS (Nat.le_trans (Nat.le_trans (Nat.le_trans (Nat.le_of_eq O0.1.symm) O0.2.1) KK186.1) q185_0) (allS (Nat.le_trans (Nat.le_trans (Nat.le_trans (Nat.le_of_eq O0.1.symm) O0.2.1) KK186.1) q185_1) all0))
      have Vl194 : Arv Z h192 el185 kE185 (.object "java/lang/Object") (17 : Int32) [(.ref w_192), .null, .null, .null, .null, .null, .null, .null, .null, .null, .null, .null, .null, .null, .null, .null, .null] .null := q192_8
      show Wp p e below _ _ T192 (mkF m 132 #[.val (.int p0), .val (.int p1), .val (.int p2), .val (.int p3), .val (.long j1), .second, .val (.long j2), .second, .val (.long j3), .second, .val (.ref a4), .val (.int (2 : Int32)), .val (.int (1 : Int32)), .val (.ref x24), .val (.ref a181), .val (.int (1 : Int32)), .unset, .unset] [])
      refine Wk.iload X192 hx (hb hby at_132) rfl rfl ?_
      refine Wk.ifNo X192 hx (hb hby at_134) rfl ((if0 _ _).trans (feq (by decide : ¬ ((1 : Int32) = (0 : Int32)))).1) ?_
      refine Wk.aload X192 hx (hb hby at_137) rfl rfl rfl ?_
      have KK195 : Keep h185 h192 [d185, el185] := ((Keep.refl h185 [d185, el185]).trans K192 (allS (Or.inl (List.mem_of_getElem? (i := 0) rfl)) (allS (Or.inl (List.mem_of_getElem? (i := 1) rfl)) all0)))
      have f196 : Fld Z h192 a181 "com/example/accumulus/accumulus/account/LoanAccount" "waiting" "Ljava/util/ArrayDeque;" (.ref d185) := (q185_3.keep KK195 (ninS (Nat.ne_of_lt (Nat.lt_of_lt_of_le A181.lt q185_0)) (ninS (Nat.ne_of_lt (Nat.lt_of_lt_of_le A181.lt q185_1)) nin0)))
      have KK198 : Keep h181 h192 [a181] := (((Keep.refl h181 [a181]).trans K185 (allS (Or.inl (List.mem_of_getElem? (i := 0) rfl)) all0)).trans K192 (allS (Or.inr q185_0) (allS (Or.inr q185_1) all0)))
      have f199 : Exa Z h192 a181 "com/example/accumulus/accumulus/account/LoanAccount" := (A181.keep KK198)
      refine Wk.callV X192 hx hZ (y := (⟨"com/example/accumulus/accumulus/account/LoanAccount", "nextWaitingDay", "()Ljava/time/LocalDate;"⟩ : MethodName)) (z := (⟨"com/example/accumulus/accumulus/account/LoanAccount", "nextWaitingDay", "()Ljava/time/LocalDate;"⟩ : MethodName)) hown (w 120 _ rfl) (w 121 _ rfl) (notFace_of_selects (args := #[]) (mvT hZ (w 123 _ rfl))) (w 123 _ rfl) (w 122 _ rfl) (by decide) (as' := []) (backOf (W := 0) (rm_nwR l Z a0 hw [] a181 d185 el185 (0 : Int32) kE185 [(.ref w_192), .null, .null, .null, .null, .null, .null, .null, .null, .null, .null, .null, .null, .null, .null, .null, .null] w_192 x12 h192 O193 f196 q192_4 q192_5 q192_6 Vl194 (by first | assumption | rfl | decide | exact Nat.le_of_ble_eq_true rfl) (by first | assumption | rfl | decide | exact Nat.le_of_ble_eq_true rfl) (by first | assumption | rfl | decide | exact Nat.le_of_ble_eq_true rfl) q192_1 q192_2) hZ (w 124 _ rfl) (w 75 _ rfl) (by decide) (by decide)) e192 f199 (by rw [hml]; rfl) (rest := []) (lenOf pd25 rfl) rfl (Nat.le_of_eq rfl) (hb hby at_139) rfl (by decide) (by decide) ?_
      intro T197 h197 v197 L197 X197 e197 hQ197
      obtain ⟨rfl, Nq197, K197⟩ := hQ197
      have KK200 : Keep h0 h192 [] := (KK189.trans K192 (allS (Or.inr (Nat.le_trans KK186.1 q185_0)) (allS (Or.inr (Nat.le_trans KK186.1 q185_1)) all0)))
      have N197 := Fk.app N192 Nq197 KK200.1 all0
      rw [K197] at e197
      show Wp p e below _ _ T197 (mkF m 142 #[.val (.int p0), .val (.int p1), .val (.int p2), .val (.int p3), .val (.long j1), .second, .val (.long j2), .second, .val (.long j3), .second, .val (.ref a4), .val (.int (2 : Int32)), .val (.int (1 : Int32)), .val (.ref x24), .val (.ref a181), .val (.int (1 : Int32)), .unset, .unset] [(.ref x12)])
      refine Wk.aload X197 hx (hb hby at_142) rfl rfl rfl ?_
      refine Wk.iconst X197 hx (v := (0 : Int32)) (hb hby at_144) rfl rfl ?_
      have KK201 : Keep h40 h181 [] := ((Keep.refl h40 []).ext E181)
      have KK202 : Keep h40 h192 [] := (KK190.trans K192 (allS (Or.inr (Nat.le_trans KK201.1 q185_0)) (allS (Or.inr (Nat.le_trans KK201.1 q185_1)) all0)))
      have f203 : Arv Z h192 a4 kA4 (.object "java/time/LocalDate") (3 : Int32) [(.ref x12), (.ref x24), (.ref x36)] .null := (V40.keep KK202 nin0)
      refine Wk.aaload X197 hx hZ e197 (C := (.object "java/time/LocalDate")) f203 (by decide) (by decide) (v := (.ref x12)) rfl rfl (hb hby at_145) rfl ?_
      have KK204 : Keep h12 h40 [a4] := ((((((Keep.refl h12 [a4]).wr W16 (Or.inl (List.mem_of_getElem? (i := 0) rfl))).trans K24 all0).wr W28 (Or.inl (List.mem_of_getElem? (i := 0) rfl))).trans K36 all0).wr W40 (Or.inl (List.mem_of_getElem? (i := 0) rfl)))
      have KK205 : Keep h12 h181 [a4] := (KK204.ext E181)
      have KK206 : Keep h12 h192 [a4] := (((((((((Keep.refl h12 [a4]).wr W16 (Or.inl (List.mem_of_getElem? (i := 0) rfl))).trans K24 all0).wr W28 (Or.inl (List.mem_of_getElem? (i := 0) rfl))).trans K36 all0).wr W40 (Or.inl (List.mem_of_getElem? (i := 0) rfl))).ext E181).trans K185 (allS (Or.inr (Nat.le_trans KK204.1 (Nat.le_of_eq g181))) all0)).trans K192 (allS (Or.inr (Nat.le_trans KK205.1 q185_0)) (allS (Or.inr (Nat.le_trans KK205.1 q185_1)) all0)))
      have f207 : Exa Z h192 x12 "java/time/LocalDate" := (q12_1.keep KK206)
      refine Wk.callS X197 hx hZ hown (w 174 _ rfl) (w 175 _ rfl) (w 176 _ rfl) (w 177 _ rfl) (by decide) (as' := [(.ref x12), (.ref x12)]) (backOf (W := 0) (rm_smR l Z a0 hw [] x12 h192 O193 f207) hZ (w 177 _ rfl) (w 176 _ rfl) (by decide) (by decide)) e197 (by rw [hml]; rfl) (rest := []) (lenOf pd26 rfl) rfl (Nat.le_of_eq rfl) (hb hby at_146) rfl (by decide) (by decide) ?_
      intro T208 h208 v208 L208 X208 e208 hQ208
      obtain ⟨rfl, Nq208, K208⟩ := hQ208
      have N208 := Fk.app N197 Nq208 KK200.1 all0
      rw [K208] at e208
      show Wp p e below _ _ T208 (mkF m 149 #[.val (.int p0), .val (.int p1), .val (.int p2), .val (.int p3), .val (.long j1), .second, .val (.long j2), .second, .val (.long j3), .second, .val (.ref a4), .val (.int (2 : Int32)), .val (.int (1 : Int32)), .val (.ref x24), .val (.ref a181), .val (.int (1 : Int32)), .unset, .unset] [(.int (1 : Int32))])
      refine Wk.ifNo X208 hx (hb hby at_149) rfl ((if0 _ _).trans (feq (by decide : ¬ ((1 : Int32) = (0 : Int32)))).1) ?_
      refine Wk.iconst X208 hx (v := (1 : Int32)) (hb hby at_152) rfl rfl ?_
      refine Wk.goto X208 hx (hb hby at_153) (by decide) (q := 157) rfl ?_
      refine Wk.istore X208 hx (Ls' := #[.val (.int p0), .val (.int p1), .val (.int p2), .val (.int p3), .val (.long j1), .second, .val (.long j2), .second, .val (.long j3), .second, .val (.ref a4), .val (.int (2 : Int32)), .val (.int (1 : Int32)), .val (.ref x24), .val (.ref a181), .val (.int (1 : Int32)), .unset, .unset]) (hb hby at_157) rfl rfl ?_
      refine Wk.iload X208 hx (hb hby at_159) rfl rfl ?_
      refine Wk.iconst X208 hx (v := (2 : Int32)) (hb hby at_161) rfl rfl ?_
      refine Wk.icmpNo X208 hx (hb hby at_162) rfl (flt (by decide : ¬ ((2 : Int32) < (2 : Int32)))).1 ?_
      refine Wk.aload X208 hx (hb hby at_165) rfl rfl rfl ?_
      refine Wk.aconstNull X208 hx (hb hby at_167) rfl ?_
      refine Wk.aload X208 hx (hb hby at_168) rfl rfl rfl ?_
      refine Wk.iconst X208 hx (v := (1 : Int32)) (hb hby at_170) rfl rfl ?_
      refine Wk.aaload X208 hx hZ e208 (C := (.object "java/time/LocalDate")) f203 (by decide) (by decide) (v := (.ref x24)) rfl rfl (hb hby at_171) rfl ?_
      refine Wk.callV X208 hx hZ (y := (⟨"com/example/accumulus/accumulus/account/LoanAccount", "await", "(Lcom/example/accumulus/accumulus/journal/JournalEntry;Ljava/time/LocalDate;)V"⟩ : MethodName)) (z := (⟨"com/example/accumulus/accumulus/account/LoanAccount", "await", "(Lcom/example/accumulus/accumulus/journal/JournalEntry;Ljava/time/LocalDate;)V"⟩ : MethodName)) hown (w 140 _ rfl) (w 141 _ rfl) (notFace_of_selects (args := #[]) (mvT hZ (w 143 _ rfl))) (w 143 _ rfl) (w 142 _ rfl) (by decide) (as' := [.null, (.ref x24)]) (backOf (W := 0) (rm_awt l Z a0 hw [] a181 d185 el185 (0 : Int32) (1 : Int32) (2 : Int32) kE185 [(.ref w_192), .null, .null, .null, .null, .null, .null, .null, .null, .null, .null, .null, .null, .null, .null, .null, .null] x24 h192 O193 f196 q192_4 q192_5 q192_6 q192_7 Vl194 (by first | assumption | rfl | decide | exact Nat.le_of_ble_eq_true rfl) (by first | assumption | rfl | decide | exact Nat.le_of_ble_eq_true rfl) (by first | assumption | rfl | decide | exact Nat.le_of_ble_eq_true rfl) (by first | assumption | rfl | decide | exact Nat.le_of_ble_eq_true rfl) (by first | assumption | rfl | decide | exact Nat.le_of_ble_eq_true rfl) (by first | assumption | rfl | decide | exact Nat.le_of_ble_eq_true rfl) (Nat.le_trans (Nat.le_trans (Nat.le_trans (Nat.le_of_eq O0.1.symm) O0.2.1) KK186.1) q185_0) (Nat.le_trans (Nat.le_trans (Nat.le_trans (Nat.le_of_eq O0.1.symm) O0.2.1) KK186.1) q185_1) q185_4) hZ (w 144 _ rfl) (w 75 _ rfl) (by decide) (by decide)) e208 f199 (by rw [hml]; rfl) (rest := []) (lenOf pd21 rfl) rfl (Nat.le_of_eq rfl) (hb hby at_172) rfl (by decide) (by decide) ?_
      intro T209 h209 v209 L209 X209 e209 hQ209
      obtain ⟨w_209, rfl, Nq209, K209, q209_0, q209_1, q209_2, q209_3, q209_4, q209_5, q209_6, q209_7, q209_8⟩ := hQ209
      have N209 := Fk.app N208 Nq209 KK200.1 (allS (Or.inr (Nat.le_trans KK186.1 q185_0)) (allS (Or.inr (Nat.le_trans KK186.1 q185_1)) all0))
      have O210 : Old Z Z.heap.size h209 := O193.keep K209 (allS (Nat.le_trans (Nat.le_trans (Nat.le_trans (Nat.le_of_eq O0.1.symm) O0.2.1) KK186.1) q185_0) (allS (Nat.le_trans (Nat.le_trans (Nat.le_trans (Nat.le_of_eq O0.1.symm) O0.2.1) KK186.1) q185_1) all0))
      have Vl211 : Arv Z h209 el185 kE185 (.object "java/lang/Object") (17 : Int32) [(.ref w_192), (.ref w_209), .null, .null, .null, .null, .null, .null, .null, .null, .null, .null, .null, .null, .null, .null, .null] .null := q209_8
      show Wp p e below _ _ T209 (mkF m 175 #[.val (.int p0), .val (.int p1), .val (.int p2), .val (.int p3), .val (.long j1), .second, .val (.long j2), .second, .val (.long j3), .second, .val (.ref a4), .val (.int (2 : Int32)), .val (.int (1 : Int32)), .val (.ref x24), .val (.ref a181), .val (.int (1 : Int32)), .unset, .unset] [])
      refine Wk.iload X209 hx (hb hby at_175) rfl rfl ?_
      refine Wk.iconst X209 hx (v := (3 : Int32)) (hb hby at_177) rfl rfl ?_
      refine Wk.icmpYes X209 hx (hb hby at_178) (by decide) (q := 191) rfl (tlt (by decide : (2 : Int32) < (3 : Int32))).1 ?_
      refine Wk.iload X209 hx (hb hby at_191) rfl rfl ?_
      refine Wk.iconst X209 hx (v := (1 : Int32)) (hb hby at_193) rfl rfl ?_
      refine Wk.icmpNo X209 hx (hb hby at_194) rfl (flt (by decide : ¬ ((1 : Int32) < (1 : Int32)))).1 ?_
      refine Wk.aload X209 hx (hb hby at_197) rfl rfl rfl ?_
      have KK212 : Keep h192 h209 [d185, el185] := ((Keep.refl h192 [d185, el185]).trans K209 (allS (Or.inl (List.mem_of_getElem? (i := 0) rfl)) (allS (Or.inl (List.mem_of_getElem? (i := 1) rfl)) all0)))
      have f213 : Fld Z h209 a181 "com/example/accumulus/accumulus/account/LoanAccount" "waiting" "Ljava/util/ArrayDeque;" (.ref d185) := (f196.keep KK212 (ninS (Nat.ne_of_lt (Nat.lt_of_lt_of_le A181.lt q185_0)) (ninS (Nat.ne_of_lt (Nat.lt_of_lt_of_le A181.lt q185_1)) nin0)))
      have f214 : Exa Z h209 w_192 "com/example/accumulus/accumulus/account/LoanAccount$Waiting" := (q192_1.keep KK212)
      have f215 : Fld Z h209 w_192 "com/example/accumulus/accumulus/account/LoanAccount$Waiting" "loan" "Lcom/example/accumulus/accumulus/journal/JournalEntry;" .null := (q192_3.keep KK212 (ninS (Ne.symm (Nat.ne_of_lt (Nat.lt_of_lt_of_le q185_5.lt q192_0))) (ninS (Exa.neArv f214 Vl211 (w 146 _ rfl)) nin0)))
      have KK217 : Keep h181 h209 [a181] := (KK198.trans K209 (allS (Or.inr q185_0) (allS (Or.inr q185_1) all0)))
      have f218 : Exa Z h209 a181 "com/example/accumulus/accumulus/account/LoanAccount" := (A181.keep KK217)
      refine Wk.callV X209 hx hZ (y := (⟨"com/example/accumulus/accumulus/account/LoanAccount", "takeWaiting", "()Lcom/example/accumulus/accumulus/journal/JournalEntry;"⟩ : MethodName)) (z := (⟨"com/example/accumulus/accumulus/account/LoanAccount", "takeWaiting", "()Lcom/example/accumulus/accumulus/journal/JournalEntry;"⟩ : MethodName)) hown (w 183 _ rfl) (w 184 _ rfl) (notFace_of_selects (args := #[]) (mvT hZ (w 186 _ rfl))) (w 186 _ rfl) (w 185 _ rfl) (by decide) (as' := []) (backOf (W := 0) (rm_tk l Z a0 hw [] a181 d185 el185 (0 : Int32) (1 : Int32) (2 : Int32) kE185 [(.ref w_192), (.ref w_209), .null, .null, .null, .null, .null, .null, .null, .null, .null, .null, .null, .null, .null, .null, .null] w_192 h209 O210 f213 q209_4 q209_5 q209_6 q209_7 Vl211 (by first | assumption | rfl | decide | exact Nat.le_of_ble_eq_true rfl) (by first | assumption | rfl | decide | exact Nat.le_of_ble_eq_true rfl) (by first | assumption | rfl | decide | exact Nat.le_of_ble_eq_true rfl) (by first | assumption | rfl | decide | exact Nat.le_of_ble_eq_true rfl) (by first | assumption | rfl | decide | exact Nat.le_of_ble_eq_true rfl) (by first | assumption | rfl | decide | exact Nat.le_of_ble_eq_true rfl) (Nat.le_trans (Nat.le_trans (Nat.le_trans (Nat.le_of_eq O0.1.symm) O0.2.1) KK186.1) q185_0) (Nat.le_trans (Nat.le_trans (Nat.le_trans (Nat.le_of_eq O0.1.symm) O0.2.1) KK186.1) q185_1) q185_4 f214 f215) hZ (w 187 _ rfl) (w 75 _ rfl) (by decide) (by decide)) e209 f218 (by rw [hml]; rfl) (rest := []) (lenOf pd27 rfl) rfl (Nat.le_of_eq rfl) (hb hby at_199) rfl (by decide) (by decide) ?_
      intro T216 h216 v216 L216 X216 e216 hQ216
      obtain ⟨rfl, Nq216, K216, q216_0, q216_1, q216_2, q216_3, q216_4⟩ := hQ216
      have KK219 : Keep h0 h209 [] := (KK200.trans K209 (allS (Or.inr (Nat.le_trans KK186.1 q185_0)) (allS (Or.inr (Nat.le_trans KK186.1 q185_1)) all0)))
      have N216 := Fk.app N209 Nq216 KK219.1 (allS (Or.inr (Nat.le_trans KK186.1 q185_1)) (allS (Or.inr (Nat.le_trans KK186.1 q185_0)) all0))
      have O220 : Old Z Z.heap.size h216 := O210.keep K216 (allS (Nat.le_trans (Nat.le_trans (Nat.le_trans (Nat.le_of_eq O0.1.symm) O0.2.1) KK186.1) q185_1) (allS (Nat.le_trans (Nat.le_trans (Nat.le_trans (Nat.le_of_eq O0.1.symm) O0.2.1) KK186.1) q185_0) all0))
      have Vl221 : Arv Z h216 el185 kE185 (.object "java/lang/Object") (17 : Int32) [.null, (.ref w_209), .null, .null, .null, .null, .null, .null, .null, .null, .null, .null, .null, .null, .null, .null, .null] .null := q216_4
      show Wp p e below _ _ T216 (mkF m 202 #[.val (.int p0), .val (.int p1), .val (.int p2), .val (.int p3), .val (.long j1), .second, .val (.long j2), .second, .val (.long j3), .second, .val (.ref a4), .val (.int (2 : Int32)), .val (.int (1 : Int32)), .val (.ref x24), .val (.ref a181), .val (.int (1 : Int32)), .unset, .unset] [.null])
      refine Wk.pop X216 hx (hb hby at_202) rfl rfl ?_
      refine Wk.iload X216 hx (hb hby at_203) rfl rfl ?_
      refine Wk.iconst X216 hx (v := (2 : Int32)) (hb hby at_205) rfl rfl ?_
      refine Wk.icmpYes X216 hx (hb hby at_206) (by decide) (q := 215) rfl (tlt (by decide : (1 : Int32) < (2 : Int32))).1 ?_
      refine Wk.iload X216 hx (hb hby at_215) rfl rfl ?_
      refine Wk.iconst X216 hx (v := (3 : Int32)) (hb hby at_217) rfl rfl ?_
      refine Wk.icmpYes X216 hx (hb hby at_218) (by decide) (q := 227) rfl (tlt (by decide : (1 : Int32) < (3 : Int32))).1 ?_
      refine Wk.aload X216 hx (hb hby at_227) rfl rfl rfl ?_
      have KK222 : Keep h209 h216 [el185, d185] := ((Keep.refl h209 [el185, d185]).trans K216 (allS (Or.inl (List.mem_of_getElem? (i := 0) rfl)) (allS (Or.inl (List.mem_of_getElem? (i := 1) rfl)) all0)))
      have f223 : Fld Z h216 a181 "com/example/accumulus/accumulus/account/LoanAccount" "waiting" "Ljava/util/ArrayDeque;" (.ref d185) := (f213.keep KK222 (ninS (Nat.ne_of_lt (Nat.lt_of_lt_of_le A181.lt q185_1)) (ninS (Nat.ne_of_lt (Nat.lt_of_lt_of_le A181.lt q185_0)) nin0)))
      have f224 : Exa Z h216 w_209 "com/example/accumulus/accumulus/account/LoanAccount$Waiting" := (q209_1.keep KK222)
      have f225 : Fld Z h216 w_209 "com/example/accumulus/accumulus/account/LoanAccount$Waiting" "pricingDate" "Ljava/time/LocalDate;" (.ref x24) := (q209_2.keep KK222 (ninS (Exa.neArv f224 Vl221 (w 146 _ rfl)) (ninS (Ne.symm (Nat.ne_of_lt (Nat.lt_of_lt_of_le q192_4.lt q209_0))) nin0)))
      have KK227 : Keep h181 h216 [a181] := (KK217.trans K216 (allS (Or.inr q185_1) (allS (Or.inr q185_0) all0)))
      have f228 : Exa Z h216 a181 "com/example/accumulus/accumulus/account/LoanAccount" := (A181.keep KK227)
      refine Wk.callV X216 hx hZ (y := (⟨"com/example/accumulus/accumulus/account/LoanAccount", "nextWaitingDay", "()Ljava/time/LocalDate;"⟩ : MethodName)) (z := (⟨"com/example/accumulus/accumulus/account/LoanAccount", "nextWaitingDay", "()Ljava/time/LocalDate;"⟩ : MethodName)) hown (w 120 _ rfl) (w 121 _ rfl) (notFace_of_selects (args := #[]) (mvT hZ (w 123 _ rfl))) (w 123 _ rfl) (w 122 _ rfl) (by decide) (as' := []) (backOf (W := 0) (rm_nwR l Z a0 hw [] a181 d185 el185 (1 : Int32) kE185 [.null, (.ref w_209), .null, .null, .null, .null, .null, .null, .null, .null, .null, .null, .null, .null, .null, .null, .null] w_209 x24 h216 O220 f223 q216_0 q216_1 q216_2 Vl221 (by first | assumption | rfl | decide | exact Nat.le_of_ble_eq_true rfl) (by first | assumption | rfl | decide | exact Nat.le_of_ble_eq_true rfl) (by first | assumption | rfl | decide | exact Nat.le_of_ble_eq_true rfl) f224 f225) hZ (w 124 _ rfl) (w 75 _ rfl) (by decide) (by decide)) e216 f228 (by rw [hml]; rfl) (rest := []) (lenOf pd25 rfl) rfl (Nat.le_of_eq rfl) (hb hby at_229) rfl (by decide) (by decide) ?_
      intro T226 h226 v226 L226 X226 e226 hQ226
      obtain ⟨rfl, Nq226, K226⟩ := hQ226
      have KK229 : Keep h0 h216 [] := (KK219.trans K216 (allS (Or.inr (Nat.le_trans KK186.1 q185_1)) (allS (Or.inr (Nat.le_trans KK186.1 q185_0)) all0)))
      have N226 := Fk.app N216 Nq226 KK229.1 all0
      rw [K226] at e226
      show Wp p e below _ _ T226 (mkF m 232 #[.val (.int p0), .val (.int p1), .val (.int p2), .val (.int p3), .val (.long j1), .second, .val (.long j2), .second, .val (.long j3), .second, .val (.ref a4), .val (.int (2 : Int32)), .val (.int (1 : Int32)), .val (.ref x24), .val (.ref a181), .val (.int (1 : Int32)), .unset, .unset] [(.ref x24)])
      refine Wk.astore X226 hx (Ls' := #[.val (.int p0), .val (.int p1), .val (.int p2), .val (.int p3), .val (.long j1), .second, .val (.long j2), .second, .val (.long j3), .second, .val (.ref a4), .val (.int (2 : Int32)), .val (.int (1 : Int32)), .val (.ref x24), .val (.ref a181), .val (.int (1 : Int32)), .val (.ref x24), .unset]) (hb hby at_232) rfl rfl rfl ?_
      refine Wk.iload X226 hx (hb hby at_234) rfl rfl ?_
      refine Wk.ifNo X226 hx (hb hby at_236) rfl ((if0 _ _).trans (feq (by decide : ¬ ((1 : Int32) = (0 : Int32)))).1) ?_
      refine Wk.aload X226 hx (hb hby at_239) rfl rfl rfl ?_
      refine Wk.aload X226 hx (hb hby at_241) rfl rfl rfl ?_
      have KK230 : Keep h24 h40 [a4] := ((((Keep.refl h24 [a4]).wr W28 (Or.inl (List.mem_of_getElem? (i := 0) rfl))).trans K36 all0).wr W40 (Or.inl (List.mem_of_getElem? (i := 0) rfl)))
      have KK231 : Keep h24 h181 [a4] := (KK230.ext E181)
      have KK232 : Keep h24 h216 [a4] := (((((((((Keep.refl h24 [a4]).wr W28 (Or.inl (List.mem_of_getElem? (i := 0) rfl))).trans K36 all0).wr W40 (Or.inl (List.mem_of_getElem? (i := 0) rfl))).ext E181).trans K185 (allS (Or.inr (Nat.le_trans KK230.1 (Nat.le_of_eq g181))) all0)).trans K192 (allS (Or.inr (Nat.le_trans KK231.1 q185_0)) (allS (Or.inr (Nat.le_trans KK231.1 q185_1)) all0))).trans K209 (allS (Or.inr (Nat.le_trans KK231.1 q185_0)) (allS (Or.inr (Nat.le_trans KK231.1 q185_1)) all0))).trans K216 (allS (Or.inr (Nat.le_trans KK231.1 q185_1)) (allS (Or.inr (Nat.le_trans KK231.1 q185_0)) all0)))
      have f233 : Exa Z h216 x24 "java/time/LocalDate" := (q24_1.keep KK232)
      refine Wk.callS X226 hx hZ hown (w 174 _ rfl) (w 175 _ rfl) (w 176 _ rfl) (w 177 _ rfl) (by decide) (as' := [(.ref x24), (.ref x24)]) (backOf (W := 0) (rm_smR l Z a0 hw [] x24 h216 O220 f233) hZ (w 177 _ rfl) (w 176 _ rfl) (by decide) (by decide)) e226 (by rw [hml]; rfl) (rest := []) (lenOf pd26 rfl) rfl (Nat.le_of_eq rfl) (hb hby at_243) rfl (by decide) (by decide) ?_
      intro T234 h234 v234 L234 X234 e234 hQ234
      obtain ⟨rfl, Nq234, K234⟩ := hQ234
      have N234 := Fk.app N226 Nq234 KK229.1 all0
      rw [K234] at e234
      show Wp p e below _ _ T234 (mkF m 246 #[.val (.int p0), .val (.int p1), .val (.int p2), .val (.int p3), .val (.long j1), .second, .val (.long j2), .second, .val (.long j3), .second, .val (.ref a4), .val (.int (2 : Int32)), .val (.int (1 : Int32)), .val (.ref x24), .val (.ref a181), .val (.int (1 : Int32)), .val (.ref x24), .unset] [(.int (1 : Int32))])
      refine Wk.ifNo X234 hx (hb hby at_246) rfl ((if0 _ _).trans (feq (by decide : ¬ ((1 : Int32) = (0 : Int32)))).1) ?_
      refine Wk.iconst X234 hx (v := (1 : Int32)) (hb hby at_249) rfl rfl ?_
      refine Wk.goto X234 hx (hb hby at_250) (by decide) (q := 254) rfl ?_
      refine Wk.istore X234 hx (Ls' := #[.val (.int p0), .val (.int p1), .val (.int p2), .val (.int p3), .val (.long j1), .second, .val (.long j2), .second, .val (.long j3), .second, .val (.ref a4), .val (.int (2 : Int32)), .val (.int (1 : Int32)), .val (.ref x24), .val (.ref a181), .val (.int (1 : Int32)), .val (.ref x24), .unset]) (hb hby at_254) rfl rfl ?_
      refine Wk.aload X234 hx (hb hby at_256) rfl rfl rfl ?_
      refine Wk.callV X234 hx hZ (y := (⟨"com/example/accumulus/accumulus/account/LoanAccount", "nextWaitingDay", "()Ljava/time/LocalDate;"⟩ : MethodName)) (z := (⟨"com/example/accumulus/accumulus/account/LoanAccount", "nextWaitingDay", "()Ljava/time/LocalDate;"⟩ : MethodName)) hown (w 120 _ rfl) (w 121 _ rfl) (notFace_of_selects (args := #[]) (mvT hZ (w 123 _ rfl))) (w 123 _ rfl) (w 122 _ rfl) (by decide) (as' := []) (backOf (W := 0) (rm_nwR l Z a0 hw [] a181 d185 el185 (1 : Int32) kE185 [.null, (.ref w_209), .null, .null, .null, .null, .null, .null, .null, .null, .null, .null, .null, .null, .null, .null, .null] w_209 x24 h216 O220 f223 q216_0 q216_1 q216_2 Vl221 (by first | assumption | rfl | decide | exact Nat.le_of_ble_eq_true rfl) (by first | assumption | rfl | decide | exact Nat.le_of_ble_eq_true rfl) (by first | assumption | rfl | decide | exact Nat.le_of_ble_eq_true rfl) f224 f225) hZ (w 124 _ rfl) (w 75 _ rfl) (by decide) (by decide)) e234 f228 (by rw [hml]; rfl) (rest := []) (lenOf pd25 rfl) rfl (Nat.le_of_eq rfl) (hb hby at_258) rfl (by decide) (by decide) ?_
      intro T235 h235 v235 L235 X235 e235 hQ235
      obtain ⟨rfl, Nq235, K235⟩ := hQ235
      have N235 := Fk.app N234 Nq235 KK229.1 all0
      rw [K235] at e235
      show Wp p e below _ _ T235 (mkF m 261 #[.val (.int p0), .val (.int p1), .val (.int p2), .val (.int p3), .val (.long j1), .second, .val (.long j2), .second, .val (.long j3), .second, .val (.ref a4), .val (.int (2 : Int32)), .val (.int (1 : Int32)), .val (.ref x24), .val (.ref a181), .val (.int (1 : Int32)), .val (.ref x24), .unset] [(.ref x24)])
      refine Wk.astore X235 hx (Ls' := #[.val (.int p0), .val (.int p1), .val (.int p2), .val (.int p3), .val (.long j1), .second, .val (.long j2), .second, .val (.long j3), .second, .val (.ref a4), .val (.int (2 : Int32)), .val (.int (1 : Int32)), .val (.ref x24), .val (.ref a181), .val (.int (1 : Int32)), .val (.ref x24), .val (.ref x24)]) (hb hby at_261) rfl rfl rfl ?_
      refine Wk.iload X235 hx (hb hby at_263) rfl rfl ?_
      refine Wk.ifNo X235 hx (hb hby at_265) rfl ((if0 _ _).trans (feq (by decide : ¬ ((1 : Int32) = (0 : Int32)))).1) ?_
      refine Wk.aload X235 hx (hb hby at_268) rfl rfl rfl ?_
      refine Wk.aload X235 hx (hb hby at_270) rfl rfl rfl ?_
      refine Wk.callS X235 hx hZ hown (w 174 _ rfl) (w 175 _ rfl) (w 176 _ rfl) (w 177 _ rfl) (by decide) (as' := [(.ref x24), (.ref x24)]) (backOf (W := 0) (rm_smR l Z a0 hw [] x24 h216 O220 f233) hZ (w 177 _ rfl) (w 176 _ rfl) (by decide) (by decide)) e235 (by rw [hml]; rfl) (rest := []) (lenOf pd26 rfl) rfl (Nat.le_of_eq rfl) (hb hby at_272) rfl (by decide) (by decide) ?_
      intro T236 h236 v236 L236 X236 e236 hQ236
      obtain ⟨rfl, Nq236, K236⟩ := hQ236
      have N236 := Fk.app N235 Nq236 KK229.1 all0
      rw [K236] at e236
      show Wp p e below _ _ T236 (mkF m 275 #[.val (.int p0), .val (.int p1), .val (.int p2), .val (.int p3), .val (.long j1), .second, .val (.long j2), .second, .val (.long j3), .second, .val (.ref a4), .val (.int (2 : Int32)), .val (.int (1 : Int32)), .val (.ref x24), .val (.ref a181), .val (.int (1 : Int32)), .val (.ref x24), .val (.ref x24)] [(.int (1 : Int32))])
      refine Wk.ifNo X236 hx (hb hby at_275) rfl ((if0 _ _).trans (feq (by decide : ¬ ((1 : Int32) = (0 : Int32)))).1) ?_
      refine Wk.iconst X236 hx (v := (1 : Int32)) (hb hby at_278) rfl rfl ?_
      refine Wk.goto X236 hx (hb hby at_279) (by decide) (q := 283) rfl ?_
      refine Wk.istore X236 hx (Ls' := #[.val (.int p0), .val (.int p1), .val (.int p2), .val (.int p3), .val (.long j1), .second, .val (.long j2), .second, .val (.long j3), .second, .val (.ref a4), .val (.int (2 : Int32)), .val (.int (1 : Int32)), .val (.ref x24), .val (.ref a181), .val (.int (1 : Int32)), .val (.ref x24), .val (.ref x24)]) (hb hby at_283) rfl rfl ?_
      refine Wk.iload X236 hx (hb hby at_285) rfl rfl ?_
      exact Wk.retZ' X236 hx hlk hr (by simp) (hb hby at_287) (by decide) (by decide) (Qc := Q_rm_law Z p0 p1 p2 p3 u vr_ ed h0) e236 ⟨rfl, N236, KK229⟩
    · skip
      refine Wk.istore X135 hx (Ls' := #[.val (.int p0), .val (.int p1), .val (.int p2), .val (.int p3), .val (.long j1), .second, .val (.long j2), .second, .val (.long j3), .second, .val (.ref a4), .val (.int (2 : Int32)), .val (.int (2 : Int32)), .unset, .unset, .unset, .unset, .unset]) (hb hby at_72) rfl rfl ?_
      refine Wk.iload X135 hx (hb hby at_74) rfl rfl ?_
      refine Wk.iload X135 hx (hb hby at_76) rfl rfl ?_
      refine Wk.icmpYes X135 hx (hb hby at_78) (by decide) (q := 89) rfl (flt (by decide : ¬ ((2 : Int32) < (2 : Int32)))).2.1 ?_
      refine Wk.aconstNull X135 hx (hb hby at_89) rfl ?_
      refine Wk.astore X135 hx (Ls' := #[.val (.int p0), .val (.int p1), .val (.int p2), .val (.int p3), .val (.long j1), .second, .val (.long j2), .second, .val (.long j3), .second, .val (.ref a4), .val (.int (2 : Int32)), .val (.int (2 : Int32)), .val .null, .unset, .unset, .unset, .unset]) (hb hby at_90) rfl rfl rfl ?_
      refine Wk.new X135 hx hZ hown (w 73 _ rfl) (w 74 _ rfl) (w 75 _ rfl) e135 (hb hby at_92) rfl (by decide) (by decide) ?_
      intro T237 h237 a237 g237 X237 e237 E237 A237 D237
      have O238 : Old Z Z.heap.size h237 := O41.ext E237
      have f239 : Fld Z h237 a237 "com/example/accumulus/accumulus/account/LoanAccount" "loans" "Ljava/util/List;" .null := D237 (Or.inr (w 105 _ rfl)) (ty := (.object "java/util/List")) (by decide)
      have f240 : Fld Z h237 a237 "com/example/accumulus/accumulus/account/LoanAccount" "waiting" "Ljava/util/ArrayDeque;" .null := D237 (Or.inr (w 119 _ rfl)) (ty := (.object "java/util/ArrayDeque")) (by decide)
      refine Wk.dup X237 hx (hb hby at_95) rfl rfl ?_
      refine Wk.callI X237 hx hZ rfl hown (w 76 _ rfl) (w 77 _ rfl) (w 78 _ rfl) (by decide) (as' := []) (backOf (W := 1) (rm_lai l Z a0 hw [] a237 ed h237 O238 A237 f239 f240 (Nat.le_trans (Nat.le_trans (Nat.le_trans (Nat.le_of_eq O0.1.symm) O0.2.1) KK136.1) (Nat.le_of_eq g237)) sD) hZ (w 78 _ rfl) (w 75 _ rfl) (by decide) (by decide)) e237 (by rw [hml]; rfl) (rest := [(.ref a237)]) (lenOf pd12 rfl) rfl (Nat.le_of_eq rfl) (hb hby at_96) rfl (by decide) (by decide) ?_
      intro T241 h241 v241 L241 X241 e241 hQ241
      obtain ⟨d241, el241, kE241, rfl, Nq241, K241, q241_0, q241_1, q241_2, q241_3, q241_4, q241_5, q241_6, q241_7, q241_8, q241_9⟩ := hQ241
      have KK242 : Keep h0 h237 [] := (KK136.ext E237)
      have N241 := Fk.app N135 Nq241 KK242.1 (allS (Or.inr (Nat.le_trans KK136.1 (Nat.le_of_eq g237))) all0)
      have O243 : Old Z Z.heap.size h241 := O238.keep K241 (allS (Nat.le_trans (Nat.le_trans (Nat.le_trans (Nat.le_of_eq O0.1.symm) O0.2.1) KK136.1) (Nat.le_of_eq g237)) all0)
      show Wp p e below _ _ T241 (mkF m 99 #[.val (.int p0), .val (.int p1), .val (.int p2), .val (.int p3), .val (.long j1), .second, .val (.long j2), .second, .val (.long j3), .second, .val (.ref a4), .val (.int (2 : Int32)), .val (.int (2 : Int32)), .val .null, .unset, .unset, .unset, .unset] [(.ref a237)])
      refine Wk.astore X241 hx (Ls' := #[.val (.int p0), .val (.int p1), .val (.int p2), .val (.int p3), .val (.long j1), .second, .val (.long j2), .second, .val (.long j3), .second, .val (.ref a4), .val (.int (2 : Int32)), .val (.int (2 : Int32)), .val .null, .val (.ref a237), .unset, .unset, .unset]) (hb hby at_99) rfl rfl rfl ?_
      refine Wk.aload X241 hx (hb hby at_101) rfl rfl rfl ?_
      refine Wk.callV X241 hx hZ (y := (⟨"com/example/accumulus/accumulus/account/LoanAccount", "nextWaitingDay", "()Ljava/time/LocalDate;"⟩ : MethodName)) (z := (⟨"com/example/accumulus/accumulus/account/LoanAccount", "nextWaitingDay", "()Ljava/time/LocalDate;"⟩ : MethodName)) hown (w 120 _ rfl) (w 121 _ rfl) (notFace_of_selects (args := #[]) (mvT hZ (w 123 _ rfl))) (w 123 _ rfl) (w 122 _ rfl) (by decide) (as' := []) (backOf (W := 0) (rm_nwN l Z a0 hw [] a237 d241 el241 (0 : Int32) kE241 [.null, .null, .null, .null, .null, .null, .null, .null, .null, .null, .null, .null, .null, .null, .null, .null, .null] h241 O243 q241_3 q241_5 q241_6 q241_7 q241_9 (by first | assumption | rfl | decide | exact Nat.le_of_ble_eq_true rfl) (by first | assumption | rfl | decide | exact Nat.le_of_ble_eq_true rfl) (by first | assumption | rfl | decide | exact Nat.le_of_ble_eq_true rfl)) hZ (w 124 _ rfl) (w 75 _ rfl) (by decide) (by decide)) e241 q241_2 (by rw [hml]; rfl) (rest := []) (lenOf pd25 rfl) rfl (Nat.le_of_eq rfl) (hb hby at_103) rfl (by decide) (by decide) ?_
      intro T244 h244 v244 L244 X244 e244 hQ244
      obtain ⟨rfl, Nq244, K244⟩ := hQ244
      have KK245 : Keep h0 h241 [] := (KK242.trans K241 (allS (Or.inr (Nat.le_trans KK136.1 (Nat.le_of_eq g237))) all0))
      have N244 := Fk.app N241 Nq244 KK245.1 all0
      rw [K244] at e244
      show Wp p e below _ _ T244 (mkF m 106 #[.val (.int p0), .val (.int p1), .val (.int p2), .val (.int p3), .val (.long j1), .second, .val (.long j2), .second, .val (.long j3), .second, .val (.ref a4), .val (.int (2 : Int32)), .val (.int (2 : Int32)), .val .null, .val (.ref a237), .unset, .unset, .unset] [.null])
      refine Wk.ifnonnullNo X244 hx (hb hby at_106) rfl ?_
      refine Wk.iconst X244 hx (v := (1 : Int32)) (hb hby at_109) rfl rfl ?_
      refine Wk.goto X244 hx (hb hby at_110) (by decide) (q := 114) rfl ?_
      refine Wk.istore X244 hx (Ls' := #[.val (.int p0), .val (.int p1), .val (.int p2), .val (.int p3), .val (.long j1), .second, .val (.long j2), .second, .val (.long j3), .second, .val (.ref a4), .val (.int (2 : Int32)), .val (.int (2 : Int32)), .val .null, .val (.ref a237), .val (.int (1 : Int32)), .unset, .unset]) (hb hby at_114) rfl rfl ?_
      refine Wk.iload X244 hx (hb hby at_116) rfl rfl ?_
      refine Wk.iconst X244 hx (v := (1 : Int32)) (hb hby at_118) rfl rfl ?_
      refine Wk.icmpNo X244 hx (hb hby at_119) rfl (flt (by decide : ¬ ((2 : Int32) < (1 : Int32)))).1 ?_
      refine Wk.aload X244 hx (hb hby at_122) rfl rfl rfl ?_
      refine Wk.aconstNull X244 hx (hb hby at_124) rfl ?_
      refine Wk.aload X244 hx (hb hby at_125) rfl rfl rfl ?_
      refine Wk.iconst X244 hx (v := (0 : Int32)) (hb hby at_127) rfl rfl ?_
      have KK246 : Keep h40 h241 [] := (((Keep.refl h40 []).ext E237).trans K241 (allS (Or.inr (Nat.le_of_eq g237)) all0))
      have f247 : Arv Z h241 a4 kA4 (.object "java/time/LocalDate") (3 : Int32) [(.ref x12), (.ref x24), (.ref x36)] .null := (V40.keep KK246 nin0)
      refine Wk.aaload X244 hx hZ e244 (C := (.object "java/time/LocalDate")) f247 (by decide) (by decide) (v := (.ref x12)) rfl rfl (hb hby at_128) rfl ?_
      refine Wk.callV X244 hx hZ (y := (⟨"com/example/accumulus/accumulus/account/LoanAccount", "await", "(Lcom/example/accumulus/accumulus/journal/JournalEntry;Ljava/time/LocalDate;)V"⟩ : MethodName)) (z := (⟨"com/example/accumulus/accumulus/account/LoanAccount", "await", "(Lcom/example/accumulus/accumulus/journal/JournalEntry;Ljava/time/LocalDate;)V"⟩ : MethodName)) hown (w 140 _ rfl) (w 141 _ rfl) (notFace_of_selects (args := #[]) (mvT hZ (w 143 _ rfl))) (w 143 _ rfl) (w 142 _ rfl) (by decide) (as' := [.null, (.ref x12)]) (backOf (W := 0) (rm_awt l Z a0 hw [] a237 d241 el241 (0 : Int32) (0 : Int32) (1 : Int32) kE241 [.null, .null, .null, .null, .null, .null, .null, .null, .null, .null, .null, .null, .null, .null, .null, .null, .null] x12 h241 O243 q241_3 q241_5 q241_6 q241_7 q241_8 q241_9 (by first | assumption | rfl | decide | exact Nat.le_of_ble_eq_true rfl) (by first | assumption | rfl | decide | exact Nat.le_of_ble_eq_true rfl) (by first | assumption | rfl | decide | exact Nat.le_of_ble_eq_true rfl) (by first | assumption | rfl | decide | exact Nat.le_of_ble_eq_true rfl) (by first | assumption | rfl | decide | exact Nat.le_of_ble_eq_true rfl) (by first | assumption | rfl | decide | exact Nat.le_of_ble_eq_true rfl) (Nat.le_trans (Nat.le_trans (Nat.le_trans (Nat.le_of_eq O0.1.symm) O0.2.1) KK242.1) q241_0) (Nat.le_trans (Nat.le_trans (Nat.le_trans (Nat.le_of_eq O0.1.symm) O0.2.1) KK242.1) q241_1) q241_4) hZ (w 144 _ rfl) (w 75 _ rfl) (by decide) (by decide)) e244 q241_2 (by rw [hml]; rfl) (rest := []) (lenOf pd21 rfl) rfl (Nat.le_of_eq rfl) (hb hby at_129) rfl (by decide) (by decide) ?_
      intro T248 h248 v248 L248 X248 e248 hQ248
      obtain ⟨w_248, rfl, Nq248, K248, q248_0, q248_1, q248_2, q248_3, q248_4, q248_5, q248_6, q248_7, q248_8⟩ := hQ248
      have N248 := Fk.app N244 Nq248 KK245.1 (allS (Or.inr (Nat.le_trans KK242.1 q241_0)) (allS (Or.inr (Nat.le_trans KK242.1 q241_1)) all0))
      have O249 : Old Z Z.heap.size h248 := O243.keep K248 (allS (Nat.le_trans (Nat.le_trans (Nat.le_trans (Nat.le_of_eq O0.1.symm) O0.2.1) KK242.1) q241_0) (allS (Nat.le_trans (Nat.le_trans (Nat.le_trans (Nat.le_of_eq O0.1.symm) O0.2.1) KK242.1) q241_1) all0))
      have Vl250 : Arv Z h248 el241 kE241 (.object "java/lang/Object") (17 : Int32) [(.ref w_248), .null, .null, .null, .null, .null, .null, .null, .null, .null, .null, .null, .null, .null, .null, .null, .null] .null := q248_8
      show Wp p e below _ _ T248 (mkF m 132 #[.val (.int p0), .val (.int p1), .val (.int p2), .val (.int p3), .val (.long j1), .second, .val (.long j2), .second, .val (.long j3), .second, .val (.ref a4), .val (.int (2 : Int32)), .val (.int (2 : Int32)), .val .null, .val (.ref a237), .val (.int (1 : Int32)), .unset, .unset] [])
      refine Wk.iload X248 hx (hb hby at_132) rfl rfl ?_
      refine Wk.ifNo X248 hx (hb hby at_134) rfl ((if0 _ _).trans (feq (by decide : ¬ ((1 : Int32) = (0 : Int32)))).1) ?_
      refine Wk.aload X248 hx (hb hby at_137) rfl rfl rfl ?_
      have KK251 : Keep h241 h248 [d241, el241] := ((Keep.refl h241 [d241, el241]).trans K248 (allS (Or.inl (List.mem_of_getElem? (i := 0) rfl)) (allS (Or.inl (List.mem_of_getElem? (i := 1) rfl)) all0)))
      have f252 : Fld Z h248 a237 "com/example/accumulus/accumulus/account/LoanAccount" "waiting" "Ljava/util/ArrayDeque;" (.ref d241) := (q241_3.keep KK251 (ninS (Nat.ne_of_lt (Nat.lt_of_lt_of_le A237.lt q241_0)) (ninS (Nat.ne_of_lt (Nat.lt_of_lt_of_le A237.lt q241_1)) nin0)))
      have KK254 : Keep h237 h248 [a237] := (((Keep.refl h237 [a237]).trans K241 (allS (Or.inl (List.mem_of_getElem? (i := 0) rfl)) all0)).trans K248 (allS (Or.inr q241_0) (allS (Or.inr q241_1) all0)))
      have f255 : Exa Z h248 a237 "com/example/accumulus/accumulus/account/LoanAccount" := (A237.keep KK254)
      refine Wk.callV X248 hx hZ (y := (⟨"com/example/accumulus/accumulus/account/LoanAccount", "nextWaitingDay", "()Ljava/time/LocalDate;"⟩ : MethodName)) (z := (⟨"com/example/accumulus/accumulus/account/LoanAccount", "nextWaitingDay", "()Ljava/time/LocalDate;"⟩ : MethodName)) hown (w 120 _ rfl) (w 121 _ rfl) (notFace_of_selects (args := #[]) (mvT hZ (w 123 _ rfl))) (w 123 _ rfl) (w 122 _ rfl) (by decide) (as' := []) (backOf (W := 0) (rm_nwR l Z a0 hw [] a237 d241 el241 (0 : Int32) kE241 [(.ref w_248), .null, .null, .null, .null, .null, .null, .null, .null, .null, .null, .null, .null, .null, .null, .null, .null] w_248 x12 h248 O249 f252 q248_4 q248_5 q248_6 Vl250 (by first | assumption | rfl | decide | exact Nat.le_of_ble_eq_true rfl) (by first | assumption | rfl | decide | exact Nat.le_of_ble_eq_true rfl) (by first | assumption | rfl | decide | exact Nat.le_of_ble_eq_true rfl) q248_1 q248_2) hZ (w 124 _ rfl) (w 75 _ rfl) (by decide) (by decide)) e248 f255 (by rw [hml]; rfl) (rest := []) (lenOf pd25 rfl) rfl (Nat.le_of_eq rfl) (hb hby at_139) rfl (by decide) (by decide) ?_
      intro T253 h253 v253 L253 X253 e253 hQ253
      obtain ⟨rfl, Nq253, K253⟩ := hQ253
      have KK256 : Keep h0 h248 [] := (KK245.trans K248 (allS (Or.inr (Nat.le_trans KK242.1 q241_0)) (allS (Or.inr (Nat.le_trans KK242.1 q241_1)) all0)))
      have N253 := Fk.app N248 Nq253 KK256.1 all0
      rw [K253] at e253
      show Wp p e below _ _ T253 (mkF m 142 #[.val (.int p0), .val (.int p1), .val (.int p2), .val (.int p3), .val (.long j1), .second, .val (.long j2), .second, .val (.long j3), .second, .val (.ref a4), .val (.int (2 : Int32)), .val (.int (2 : Int32)), .val .null, .val (.ref a237), .val (.int (1 : Int32)), .unset, .unset] [(.ref x12)])
      refine Wk.aload X253 hx (hb hby at_142) rfl rfl rfl ?_
      refine Wk.iconst X253 hx (v := (0 : Int32)) (hb hby at_144) rfl rfl ?_
      have KK257 : Keep h40 h237 [] := ((Keep.refl h40 []).ext E237)
      have KK258 : Keep h40 h248 [] := (KK246.trans K248 (allS (Or.inr (Nat.le_trans KK257.1 q241_0)) (allS (Or.inr (Nat.le_trans KK257.1 q241_1)) all0)))
      have f259 : Arv Z h248 a4 kA4 (.object "java/time/LocalDate") (3 : Int32) [(.ref x12), (.ref x24), (.ref x36)] .null := (V40.keep KK258 nin0)
      refine Wk.aaload X253 hx hZ e253 (C := (.object "java/time/LocalDate")) f259 (by decide) (by decide) (v := (.ref x12)) rfl rfl (hb hby at_145) rfl ?_
      have KK260 : Keep h12 h40 [a4] := ((((((Keep.refl h12 [a4]).wr W16 (Or.inl (List.mem_of_getElem? (i := 0) rfl))).trans K24 all0).wr W28 (Or.inl (List.mem_of_getElem? (i := 0) rfl))).trans K36 all0).wr W40 (Or.inl (List.mem_of_getElem? (i := 0) rfl)))
      have KK261 : Keep h12 h237 [a4] := (KK260.ext E237)
      have KK262 : Keep h12 h248 [a4] := (((((((((Keep.refl h12 [a4]).wr W16 (Or.inl (List.mem_of_getElem? (i := 0) rfl))).trans K24 all0).wr W28 (Or.inl (List.mem_of_getElem? (i := 0) rfl))).trans K36 all0).wr W40 (Or.inl (List.mem_of_getElem? (i := 0) rfl))).ext E237).trans K241 (allS (Or.inr (Nat.le_trans KK260.1 (Nat.le_of_eq g237))) all0)).trans K248 (allS (Or.inr (Nat.le_trans KK261.1 q241_0)) (allS (Or.inr (Nat.le_trans KK261.1 q241_1)) all0)))
      have f263 : Exa Z h248 x12 "java/time/LocalDate" := (q12_1.keep KK262)
      refine Wk.callS X253 hx hZ hown (w 174 _ rfl) (w 175 _ rfl) (w 176 _ rfl) (w 177 _ rfl) (by decide) (as' := [(.ref x12), (.ref x12)]) (backOf (W := 0) (rm_smR l Z a0 hw [] x12 h248 O249 f263) hZ (w 177 _ rfl) (w 176 _ rfl) (by decide) (by decide)) e253 (by rw [hml]; rfl) (rest := []) (lenOf pd26 rfl) rfl (Nat.le_of_eq rfl) (hb hby at_146) rfl (by decide) (by decide) ?_
      intro T264 h264 v264 L264 X264 e264 hQ264
      obtain ⟨rfl, Nq264, K264⟩ := hQ264
      have N264 := Fk.app N253 Nq264 KK256.1 all0
      rw [K264] at e264
      show Wp p e below _ _ T264 (mkF m 149 #[.val (.int p0), .val (.int p1), .val (.int p2), .val (.int p3), .val (.long j1), .second, .val (.long j2), .second, .val (.long j3), .second, .val (.ref a4), .val (.int (2 : Int32)), .val (.int (2 : Int32)), .val .null, .val (.ref a237), .val (.int (1 : Int32)), .unset, .unset] [(.int (1 : Int32))])
      refine Wk.ifNo X264 hx (hb hby at_149) rfl ((if0 _ _).trans (feq (by decide : ¬ ((1 : Int32) = (0 : Int32)))).1) ?_
      refine Wk.iconst X264 hx (v := (1 : Int32)) (hb hby at_152) rfl rfl ?_
      refine Wk.goto X264 hx (hb hby at_153) (by decide) (q := 157) rfl ?_
      refine Wk.istore X264 hx (Ls' := #[.val (.int p0), .val (.int p1), .val (.int p2), .val (.int p3), .val (.long j1), .second, .val (.long j2), .second, .val (.long j3), .second, .val (.ref a4), .val (.int (2 : Int32)), .val (.int (2 : Int32)), .val .null, .val (.ref a237), .val (.int (1 : Int32)), .unset, .unset]) (hb hby at_157) rfl rfl ?_
      refine Wk.iload X264 hx (hb hby at_159) rfl rfl ?_
      refine Wk.iconst X264 hx (v := (2 : Int32)) (hb hby at_161) rfl rfl ?_
      refine Wk.icmpNo X264 hx (hb hby at_162) rfl (flt (by decide : ¬ ((2 : Int32) < (2 : Int32)))).1 ?_
      refine Wk.aload X264 hx (hb hby at_165) rfl rfl rfl ?_
      refine Wk.aconstNull X264 hx (hb hby at_167) rfl ?_
      refine Wk.aload X264 hx (hb hby at_168) rfl rfl rfl ?_
      refine Wk.iconst X264 hx (v := (1 : Int32)) (hb hby at_170) rfl rfl ?_
      refine Wk.aaload X264 hx hZ e264 (C := (.object "java/time/LocalDate")) f259 (by decide) (by decide) (v := (.ref x24)) rfl rfl (hb hby at_171) rfl ?_
      refine Wk.callV X264 hx hZ (y := (⟨"com/example/accumulus/accumulus/account/LoanAccount", "await", "(Lcom/example/accumulus/accumulus/journal/JournalEntry;Ljava/time/LocalDate;)V"⟩ : MethodName)) (z := (⟨"com/example/accumulus/accumulus/account/LoanAccount", "await", "(Lcom/example/accumulus/accumulus/journal/JournalEntry;Ljava/time/LocalDate;)V"⟩ : MethodName)) hown (w 140 _ rfl) (w 141 _ rfl) (notFace_of_selects (args := #[]) (mvT hZ (w 143 _ rfl))) (w 143 _ rfl) (w 142 _ rfl) (by decide) (as' := [.null, (.ref x24)]) (backOf (W := 0) (rm_awt l Z a0 hw [] a237 d241 el241 (0 : Int32) (1 : Int32) (2 : Int32) kE241 [(.ref w_248), .null, .null, .null, .null, .null, .null, .null, .null, .null, .null, .null, .null, .null, .null, .null, .null] x24 h248 O249 f252 q248_4 q248_5 q248_6 q248_7 Vl250 (by first | assumption | rfl | decide | exact Nat.le_of_ble_eq_true rfl) (by first | assumption | rfl | decide | exact Nat.le_of_ble_eq_true rfl) (by first | assumption | rfl | decide | exact Nat.le_of_ble_eq_true rfl) (by first | assumption | rfl | decide | exact Nat.le_of_ble_eq_true rfl) (by first | assumption | rfl | decide | exact Nat.le_of_ble_eq_true rfl) (by first | assumption | rfl | decide | exact Nat.le_of_ble_eq_true rfl) (Nat.le_trans (Nat.le_trans (Nat.le_trans (Nat.le_of_eq O0.1.symm) O0.2.1) KK242.1) q241_0) (Nat.le_trans (Nat.le_trans (Nat.le_trans (Nat.le_of_eq O0.1.symm) O0.2.1) KK242.1) q241_1) q241_4) hZ (w 144 _ rfl) (w 75 _ rfl) (by decide) (by decide)) e264 f255 (by rw [hml]; rfl) (rest := []) (lenOf pd21 rfl) rfl (Nat.le_of_eq rfl) (hb hby at_172) rfl (by decide) (by decide) ?_
      intro T265 h265 v265 L265 X265 e265 hQ265
      obtain ⟨w_265, rfl, Nq265, K265, q265_0, q265_1, q265_2, q265_3, q265_4, q265_5, q265_6, q265_7, q265_8⟩ := hQ265
      have N265 := Fk.app N264 Nq265 KK256.1 (allS (Or.inr (Nat.le_trans KK242.1 q241_0)) (allS (Or.inr (Nat.le_trans KK242.1 q241_1)) all0))
      have O266 : Old Z Z.heap.size h265 := O249.keep K265 (allS (Nat.le_trans (Nat.le_trans (Nat.le_trans (Nat.le_of_eq O0.1.symm) O0.2.1) KK242.1) q241_0) (allS (Nat.le_trans (Nat.le_trans (Nat.le_trans (Nat.le_of_eq O0.1.symm) O0.2.1) KK242.1) q241_1) all0))
      have Vl267 : Arv Z h265 el241 kE241 (.object "java/lang/Object") (17 : Int32) [(.ref w_248), (.ref w_265), .null, .null, .null, .null, .null, .null, .null, .null, .null, .null, .null, .null, .null, .null, .null] .null := q265_8
      show Wp p e below _ _ T265 (mkF m 175 #[.val (.int p0), .val (.int p1), .val (.int p2), .val (.int p3), .val (.long j1), .second, .val (.long j2), .second, .val (.long j3), .second, .val (.ref a4), .val (.int (2 : Int32)), .val (.int (2 : Int32)), .val .null, .val (.ref a237), .val (.int (1 : Int32)), .unset, .unset] [])
      refine Wk.iload X265 hx (hb hby at_175) rfl rfl ?_
      refine Wk.iconst X265 hx (v := (3 : Int32)) (hb hby at_177) rfl rfl ?_
      refine Wk.icmpYes X265 hx (hb hby at_178) (by decide) (q := 191) rfl (tlt (by decide : (2 : Int32) < (3 : Int32))).1 ?_
      refine Wk.iload X265 hx (hb hby at_191) rfl rfl ?_
      refine Wk.iconst X265 hx (v := (1 : Int32)) (hb hby at_193) rfl rfl ?_
      refine Wk.icmpNo X265 hx (hb hby at_194) rfl (flt (by decide : ¬ ((2 : Int32) < (1 : Int32)))).1 ?_
      refine Wk.aload X265 hx (hb hby at_197) rfl rfl rfl ?_
      have KK268 : Keep h248 h265 [d241, el241] := ((Keep.refl h248 [d241, el241]).trans K265 (allS (Or.inl (List.mem_of_getElem? (i := 0) rfl)) (allS (Or.inl (List.mem_of_getElem? (i := 1) rfl)) all0)))
      have f269 : Fld Z h265 a237 "com/example/accumulus/accumulus/account/LoanAccount" "waiting" "Ljava/util/ArrayDeque;" (.ref d241) := (f252.keep KK268 (ninS (Nat.ne_of_lt (Nat.lt_of_lt_of_le A237.lt q241_0)) (ninS (Nat.ne_of_lt (Nat.lt_of_lt_of_le A237.lt q241_1)) nin0)))
      have f270 : Exa Z h265 w_248 "com/example/accumulus/accumulus/account/LoanAccount$Waiting" := (q248_1.keep KK268)
      have f271 : Fld Z h265 w_248 "com/example/accumulus/accumulus/account/LoanAccount$Waiting" "loan" "Lcom/example/accumulus/accumulus/journal/JournalEntry;" .null := (q248_3.keep KK268 (ninS (Ne.symm (Nat.ne_of_lt (Nat.lt_of_lt_of_le q241_5.lt q248_0))) (ninS (Exa.neArv f270 Vl267 (w 146 _ rfl)) nin0)))
      have KK273 : Keep h237 h265 [a237] := (KK254.trans K265 (allS (Or.inr q241_0) (allS (Or.inr q241_1) all0)))
      have f274 : Exa Z h265 a237 "com/example/accumulus/accumulus/account/LoanAccount" := (A237.keep KK273)
      refine Wk.callV X265 hx hZ (y := (⟨"com/example/accumulus/accumulus/account/LoanAccount", "takeWaiting", "()Lcom/example/accumulus/accumulus/journal/JournalEntry;"⟩ : MethodName)) (z := (⟨"com/example/accumulus/accumulus/account/LoanAccount", "takeWaiting", "()Lcom/example/accumulus/accumulus/journal/JournalEntry;"⟩ : MethodName)) hown (w 183 _ rfl) (w 184 _ rfl) (notFace_of_selects (args := #[]) (mvT hZ (w 186 _ rfl))) (w 186 _ rfl) (w 185 _ rfl) (by decide) (as' := []) (backOf (W := 0) (rm_tk l Z a0 hw [] a237 d241 el241 (0 : Int32) (1 : Int32) (2 : Int32) kE241 [(.ref w_248), (.ref w_265), .null, .null, .null, .null, .null, .null, .null, .null, .null, .null, .null, .null, .null, .null, .null] w_248 h265 O266 f269 q265_4 q265_5 q265_6 q265_7 Vl267 (by first | assumption | rfl | decide | exact Nat.le_of_ble_eq_true rfl) (by first | assumption | rfl | decide | exact Nat.le_of_ble_eq_true rfl) (by first | assumption | rfl | decide | exact Nat.le_of_ble_eq_true rfl) (by first | assumption | rfl | decide | exact Nat.le_of_ble_eq_true rfl) (by first | assumption | rfl | decide | exact Nat.le_of_ble_eq_true rfl) (by first | assumption | rfl | decide | exact Nat.le_of_ble_eq_true rfl) (Nat.le_trans (Nat.le_trans (Nat.le_trans (Nat.le_of_eq O0.1.symm) O0.2.1) KK242.1) q241_0) (Nat.le_trans (Nat.le_trans (Nat.le_trans (Nat.le_of_eq O0.1.symm) O0.2.1) KK242.1) q241_1) q241_4 f270 f271) hZ (w 187 _ rfl) (w 75 _ rfl) (by decide) (by decide)) e265 f274 (by rw [hml]; rfl) (rest := []) (lenOf pd27 rfl) rfl (Nat.le_of_eq rfl) (hb hby at_199) rfl (by decide) (by decide) ?_
      intro T272 h272 v272 L272 X272 e272 hQ272
      obtain ⟨rfl, Nq272, K272, q272_0, q272_1, q272_2, q272_3, q272_4⟩ := hQ272
      have KK275 : Keep h0 h265 [] := (KK256.trans K265 (allS (Or.inr (Nat.le_trans KK242.1 q241_0)) (allS (Or.inr (Nat.le_trans KK242.1 q241_1)) all0)))
      have N272 := Fk.app N265 Nq272 KK275.1 (allS (Or.inr (Nat.le_trans KK242.1 q241_1)) (allS (Or.inr (Nat.le_trans KK242.1 q241_0)) all0))
      have O276 : Old Z Z.heap.size h272 := O266.keep K272 (allS (Nat.le_trans (Nat.le_trans (Nat.le_trans (Nat.le_of_eq O0.1.symm) O0.2.1) KK242.1) q241_1) (allS (Nat.le_trans (Nat.le_trans (Nat.le_trans (Nat.le_of_eq O0.1.symm) O0.2.1) KK242.1) q241_0) all0))
      have Vl277 : Arv Z h272 el241 kE241 (.object "java/lang/Object") (17 : Int32) [.null, (.ref w_265), .null, .null, .null, .null, .null, .null, .null, .null, .null, .null, .null, .null, .null, .null, .null] .null := q272_4
      show Wp p e below _ _ T272 (mkF m 202 #[.val (.int p0), .val (.int p1), .val (.int p2), .val (.int p3), .val (.long j1), .second, .val (.long j2), .second, .val (.long j3), .second, .val (.ref a4), .val (.int (2 : Int32)), .val (.int (2 : Int32)), .val .null, .val (.ref a237), .val (.int (1 : Int32)), .unset, .unset] [.null])
      refine Wk.pop X272 hx (hb hby at_202) rfl rfl ?_
      refine Wk.iload X272 hx (hb hby at_203) rfl rfl ?_
      refine Wk.iconst X272 hx (v := (2 : Int32)) (hb hby at_205) rfl rfl ?_
      refine Wk.icmpNo X272 hx (hb hby at_206) rfl (flt (by decide : ¬ ((2 : Int32) < (2 : Int32)))).1 ?_
      refine Wk.aload X272 hx (hb hby at_209) rfl rfl rfl ?_
      have KK278 : Keep h265 h272 [el241, d241] := ((Keep.refl h265 [el241, d241]).trans K272 (allS (Or.inl (List.mem_of_getElem? (i := 0) rfl)) (allS (Or.inl (List.mem_of_getElem? (i := 1) rfl)) all0)))
      have f279 : Fld Z h272 a237 "com/example/accumulus/accumulus/account/LoanAccount" "waiting" "Ljava/util/ArrayDeque;" (.ref d241) := (f269.keep KK278 (ninS (Nat.ne_of_lt (Nat.lt_of_lt_of_le A237.lt q241_1)) (ninS (Nat.ne_of_lt (Nat.lt_of_lt_of_le A237.lt q241_0)) nin0)))
      have f280 : Exa Z h272 w_265 "com/example/accumulus/accumulus/account/LoanAccount$Waiting" := (q265_1.keep KK278)
      have f281 : Fld Z h272 w_265 "com/example/accumulus/accumulus/account/LoanAccount$Waiting" "loan" "Lcom/example/accumulus/accumulus/journal/JournalEntry;" .null := (q265_3.keep KK278 (ninS (Exa.neArv f280 Vl277 (w 146 _ rfl)) (ninS (Ne.symm (Nat.ne_of_lt (Nat.lt_of_lt_of_le q248_4.lt q265_0))) nin0)))
      have KK283 : Keep h237 h272 [a237] := (KK273.trans K272 (allS (Or.inr q241_1) (allS (Or.inr q241_0) all0)))
      have f284 : Exa Z h272 a237 "com/example/accumulus/accumulus/account/LoanAccount" := (A237.keep KK283)
      refine Wk.callV X272 hx hZ (y := (⟨"com/example/accumulus/accumulus/account/LoanAccount", "takeWaiting", "()Lcom/example/accumulus/accumulus/journal/JournalEntry;"⟩ : MethodName)) (z := (⟨"com/example/accumulus/accumulus/account/LoanAccount", "takeWaiting", "()Lcom/example/accumulus/accumulus/journal/JournalEntry;"⟩ : MethodName)) hown (w 183 _ rfl) (w 184 _ rfl) (notFace_of_selects (args := #[]) (mvT hZ (w 186 _ rfl))) (w 186 _ rfl) (w 185 _ rfl) (by decide) (as' := []) (backOf (W := 0) (rm_tk l Z a0 hw [] a237 d241 el241 (1 : Int32) (2 : Int32) (2 : Int32) kE241 [.null, (.ref w_265), .null, .null, .null, .null, .null, .null, .null, .null, .null, .null, .null, .null, .null, .null, .null] w_265 h272 O276 f279 q272_0 q272_1 q272_2 q272_3 Vl277 (by first | assumption | rfl | decide | exact Nat.le_of_ble_eq_true rfl) (by first | assumption | rfl | decide | exact Nat.le_of_ble_eq_true rfl) (by first | assumption | rfl | decide | exact Nat.le_of_ble_eq_true rfl) (by first | assumption | rfl | decide | exact Nat.le_of_ble_eq_true rfl) (by first | assumption | rfl | decide | exact Nat.le_of_ble_eq_true rfl) (by first | assumption | rfl | decide | exact Nat.le_of_ble_eq_true rfl) (Nat.le_trans (Nat.le_trans (Nat.le_trans (Nat.le_of_eq O0.1.symm) O0.2.1) KK242.1) q241_0) (Nat.le_trans (Nat.le_trans (Nat.le_trans (Nat.le_of_eq O0.1.symm) O0.2.1) KK242.1) q241_1) q241_4 f280 f281) hZ (w 187 _ rfl) (w 75 _ rfl) (by decide) (by decide)) e272 f284 (by rw [hml]; rfl) (rest := []) (lenOf pd27 rfl) rfl (Nat.le_of_eq rfl) (hb hby at_211) rfl (by decide) (by decide) ?_
      intro T282 h282 v282 L282 X282 e282 hQ282
      obtain ⟨rfl, Nq282, K282, q282_0, q282_1, q282_2, q282_3, q282_4⟩ := hQ282
      have KK285 : Keep h0 h272 [] := (KK275.trans K272 (allS (Or.inr (Nat.le_trans KK242.1 q241_1)) (allS (Or.inr (Nat.le_trans KK242.1 q241_0)) all0)))
      have N282 := Fk.app N272 Nq282 KK285.1 (allS (Or.inr (Nat.le_trans KK242.1 q241_1)) (allS (Or.inr (Nat.le_trans KK242.1 q241_0)) all0))
      have O286 : Old Z Z.heap.size h282 := O276.keep K282 (allS (Nat.le_trans (Nat.le_trans (Nat.le_trans (Nat.le_of_eq O0.1.symm) O0.2.1) KK242.1) q241_1) (allS (Nat.le_trans (Nat.le_trans (Nat.le_trans (Nat.le_of_eq O0.1.symm) O0.2.1) KK242.1) q241_0) all0))
      have Vl287 : Arv Z h282 el241 kE241 (.object "java/lang/Object") (17 : Int32) [.null, .null, .null, .null, .null, .null, .null, .null, .null, .null, .null, .null, .null, .null, .null, .null, .null] .null := q282_4
      show Wp p e below _ _ T282 (mkF m 214 #[.val (.int p0), .val (.int p1), .val (.int p2), .val (.int p3), .val (.long j1), .second, .val (.long j2), .second, .val (.long j3), .second, .val (.ref a4), .val (.int (2 : Int32)), .val (.int (2 : Int32)), .val .null, .val (.ref a237), .val (.int (1 : Int32)), .unset, .unset] [.null])
      refine Wk.pop X282 hx (hb hby at_214) rfl rfl ?_
      refine Wk.iload X282 hx (hb hby at_215) rfl rfl ?_
      refine Wk.iconst X282 hx (v := (3 : Int32)) (hb hby at_217) rfl rfl ?_
      refine Wk.icmpYes X282 hx (hb hby at_218) (by decide) (q := 227) rfl (tlt (by decide : (2 : Int32) < (3 : Int32))).1 ?_
      refine Wk.aload X282 hx (hb hby at_227) rfl rfl rfl ?_
      have KK288 : Keep h272 h282 [el241, d241] := ((Keep.refl h272 [el241, d241]).trans K282 (allS (Or.inl (List.mem_of_getElem? (i := 0) rfl)) (allS (Or.inl (List.mem_of_getElem? (i := 1) rfl)) all0)))
      have f289 : Fld Z h282 a237 "com/example/accumulus/accumulus/account/LoanAccount" "waiting" "Ljava/util/ArrayDeque;" (.ref d241) := (f279.keep KK288 (ninS (Nat.ne_of_lt (Nat.lt_of_lt_of_le A237.lt q241_1)) (ninS (Nat.ne_of_lt (Nat.lt_of_lt_of_le A237.lt q241_0)) nin0)))
      have KK291 : Keep h237 h282 [a237] := (KK283.trans K282 (allS (Or.inr q241_1) (allS (Or.inr q241_0) all0)))
      have f292 : Exa Z h282 a237 "com/example/accumulus/accumulus/account/LoanAccount" := (A237.keep KK291)
      refine Wk.callV X282 hx hZ (y := (⟨"com/example/accumulus/accumulus/account/LoanAccount", "nextWaitingDay", "()Ljava/time/LocalDate;"⟩ : MethodName)) (z := (⟨"com/example/accumulus/accumulus/account/LoanAccount", "nextWaitingDay", "()Ljava/time/LocalDate;"⟩ : MethodName)) hown (w 120 _ rfl) (w 121 _ rfl) (notFace_of_selects (args := #[]) (mvT hZ (w 123 _ rfl))) (w 123 _ rfl) (w 122 _ rfl) (by decide) (as' := []) (backOf (W := 0) (rm_nwN l Z a0 hw [] a237 d241 el241 (2 : Int32) kE241 [.null, .null, .null, .null, .null, .null, .null, .null, .null, .null, .null, .null, .null, .null, .null, .null, .null] h282 O286 f289 q282_0 q282_1 q282_2 Vl287 (by first | assumption | rfl | decide | exact Nat.le_of_ble_eq_true rfl) (by first | assumption | rfl | decide | exact Nat.le_of_ble_eq_true rfl) (by first | assumption | rfl | decide | exact Nat.le_of_ble_eq_true rfl)) hZ (w 124 _ rfl) (w 75 _ rfl) (by decide) (by decide)) e282 f292 (by rw [hml]; rfl) (rest := []) (lenOf pd25 rfl) rfl (Nat.le_of_eq rfl) (hb hby at_229) rfl (by decide) (by decide) ?_
      intro T290 h290 v290 L290 X290 e290 hQ290
      obtain ⟨rfl, Nq290, K290⟩ := hQ290
      have KK293 : Keep h0 h282 [] := (KK285.trans K282 (allS (Or.inr (Nat.le_trans KK242.1 q241_1)) (allS (Or.inr (Nat.le_trans KK242.1 q241_0)) all0)))
      have N290 := Fk.app N282 Nq290 KK293.1 all0
      rw [K290] at e290
      show Wp p e below _ _ T290 (mkF m 232 #[.val (.int p0), .val (.int p1), .val (.int p2), .val (.int p3), .val (.long j1), .second, .val (.long j2), .second, .val (.long j3), .second, .val (.ref a4), .val (.int (2 : Int32)), .val (.int (2 : Int32)), .val .null, .val (.ref a237), .val (.int (1 : Int32)), .unset, .unset] [.null])
      refine Wk.astore X290 hx (Ls' := #[.val (.int p0), .val (.int p1), .val (.int p2), .val (.int p3), .val (.long j1), .second, .val (.long j2), .second, .val (.long j3), .second, .val (.ref a4), .val (.int (2 : Int32)), .val (.int (2 : Int32)), .val .null, .val (.ref a237), .val (.int (1 : Int32)), .val .null, .unset]) (hb hby at_232) rfl rfl rfl ?_
      refine Wk.iload X290 hx (hb hby at_234) rfl rfl ?_
      refine Wk.ifNo X290 hx (hb hby at_236) rfl ((if0 _ _).trans (feq (by decide : ¬ ((1 : Int32) = (0 : Int32)))).1) ?_
      refine Wk.aload X290 hx (hb hby at_239) rfl rfl rfl ?_
      refine Wk.aload X290 hx (hb hby at_241) rfl rfl rfl ?_
      refine Wk.callS X290 hx hZ hown (w 174 _ rfl) (w 175 _ rfl) (w 176 _ rfl) (w 177 _ rfl) (by decide) (as' := [.null, .null]) (backOf (W := 0) (rm_smN l Z a0 hw [] h282 O286) hZ (w 177 _ rfl) (w 176 _ rfl) (by decide) (by decide)) e290 (by rw [hml]; rfl) (rest := []) (lenOf pd26 rfl) rfl (Nat.le_of_eq rfl) (hb hby at_243) rfl (by decide) (by decide) ?_
      intro T294 h294 v294 L294 X294 e294 hQ294
      obtain ⟨rfl, Nq294, K294⟩ := hQ294
      have N294 := Fk.app N290 Nq294 KK293.1 all0
      rw [K294] at e294
      show Wp p e below _ _ T294 (mkF m 246 #[.val (.int p0), .val (.int p1), .val (.int p2), .val (.int p3), .val (.long j1), .second, .val (.long j2), .second, .val (.long j3), .second, .val (.ref a4), .val (.int (2 : Int32)), .val (.int (2 : Int32)), .val .null, .val (.ref a237), .val (.int (1 : Int32)), .val .null, .unset] [(.int (1 : Int32))])
      refine Wk.ifNo X294 hx (hb hby at_246) rfl ((if0 _ _).trans (feq (by decide : ¬ ((1 : Int32) = (0 : Int32)))).1) ?_
      refine Wk.iconst X294 hx (v := (1 : Int32)) (hb hby at_249) rfl rfl ?_
      refine Wk.goto X294 hx (hb hby at_250) (by decide) (q := 254) rfl ?_
      refine Wk.istore X294 hx (Ls' := #[.val (.int p0), .val (.int p1), .val (.int p2), .val (.int p3), .val (.long j1), .second, .val (.long j2), .second, .val (.long j3), .second, .val (.ref a4), .val (.int (2 : Int32)), .val (.int (2 : Int32)), .val .null, .val (.ref a237), .val (.int (1 : Int32)), .val .null, .unset]) (hb hby at_254) rfl rfl ?_
      refine Wk.aload X294 hx (hb hby at_256) rfl rfl rfl ?_
      refine Wk.callV X294 hx hZ (y := (⟨"com/example/accumulus/accumulus/account/LoanAccount", "nextWaitingDay", "()Ljava/time/LocalDate;"⟩ : MethodName)) (z := (⟨"com/example/accumulus/accumulus/account/LoanAccount", "nextWaitingDay", "()Ljava/time/LocalDate;"⟩ : MethodName)) hown (w 120 _ rfl) (w 121 _ rfl) (notFace_of_selects (args := #[]) (mvT hZ (w 123 _ rfl))) (w 123 _ rfl) (w 122 _ rfl) (by decide) (as' := []) (backOf (W := 0) (rm_nwN l Z a0 hw [] a237 d241 el241 (2 : Int32) kE241 [.null, .null, .null, .null, .null, .null, .null, .null, .null, .null, .null, .null, .null, .null, .null, .null, .null] h282 O286 f289 q282_0 q282_1 q282_2 Vl287 (by first | assumption | rfl | decide | exact Nat.le_of_ble_eq_true rfl) (by first | assumption | rfl | decide | exact Nat.le_of_ble_eq_true rfl) (by first | assumption | rfl | decide | exact Nat.le_of_ble_eq_true rfl)) hZ (w 124 _ rfl) (w 75 _ rfl) (by decide) (by decide)) e294 f292 (by rw [hml]; rfl) (rest := []) (lenOf pd25 rfl) rfl (Nat.le_of_eq rfl) (hb hby at_258) rfl (by decide) (by decide) ?_
      intro T295 h295 v295 L295 X295 e295 hQ295
      obtain ⟨rfl, Nq295, K295⟩ := hQ295
      have N295 := Fk.app N294 Nq295 KK293.1 all0
      rw [K295] at e295
      show Wp p e below _ _ T295 (mkF m 261 #[.val (.int p0), .val (.int p1), .val (.int p2), .val (.int p3), .val (.long j1), .second, .val (.long j2), .second, .val (.long j3), .second, .val (.ref a4), .val (.int (2 : Int32)), .val (.int (2 : Int32)), .val .null, .val (.ref a237), .val (.int (1 : Int32)), .val .null, .unset] [.null])
      refine Wk.astore X295 hx (Ls' := #[.val (.int p0), .val (.int p1), .val (.int p2), .val (.int p3), .val (.long j1), .second, .val (.long j2), .second, .val (.long j3), .second, .val (.ref a4), .val (.int (2 : Int32)), .val (.int (2 : Int32)), .val .null, .val (.ref a237), .val (.int (1 : Int32)), .val .null, .val .null]) (hb hby at_261) rfl rfl rfl ?_
      refine Wk.iload X295 hx (hb hby at_263) rfl rfl ?_
      refine Wk.ifNo X295 hx (hb hby at_265) rfl ((if0 _ _).trans (feq (by decide : ¬ ((1 : Int32) = (0 : Int32)))).1) ?_
      refine Wk.aload X295 hx (hb hby at_268) rfl rfl rfl ?_
      refine Wk.aload X295 hx (hb hby at_270) rfl rfl rfl ?_
      refine Wk.callS X295 hx hZ hown (w 174 _ rfl) (w 175 _ rfl) (w 176 _ rfl) (w 177 _ rfl) (by decide) (as' := [.null, .null]) (backOf (W := 0) (rm_smN l Z a0 hw [] h282 O286) hZ (w 177 _ rfl) (w 176 _ rfl) (by decide) (by decide)) e295 (by rw [hml]; rfl) (rest := []) (lenOf pd26 rfl) rfl (Nat.le_of_eq rfl) (hb hby at_272) rfl (by decide) (by decide) ?_
      intro T296 h296 v296 L296 X296 e296 hQ296
      obtain ⟨rfl, Nq296, K296⟩ := hQ296
      have N296 := Fk.app N295 Nq296 KK293.1 all0
      rw [K296] at e296
      show Wp p e below _ _ T296 (mkF m 275 #[.val (.int p0), .val (.int p1), .val (.int p2), .val (.int p3), .val (.long j1), .second, .val (.long j2), .second, .val (.long j3), .second, .val (.ref a4), .val (.int (2 : Int32)), .val (.int (2 : Int32)), .val .null, .val (.ref a237), .val (.int (1 : Int32)), .val .null, .val .null] [(.int (1 : Int32))])
      refine Wk.ifNo X296 hx (hb hby at_275) rfl ((if0 _ _).trans (feq (by decide : ¬ ((1 : Int32) = (0 : Int32)))).1) ?_
      refine Wk.iconst X296 hx (v := (1 : Int32)) (hb hby at_278) rfl rfl ?_
      refine Wk.goto X296 hx (hb hby at_279) (by decide) (q := 283) rfl ?_
      refine Wk.istore X296 hx (Ls' := #[.val (.int p0), .val (.int p1), .val (.int p2), .val (.int p3), .val (.long j1), .second, .val (.long j2), .second, .val (.long j3), .second, .val (.ref a4), .val (.int (2 : Int32)), .val (.int (2 : Int32)), .val .null, .val (.ref a237), .val (.int (1 : Int32)), .val .null, .val .null]) (hb hby at_283) rfl rfl ?_
      refine Wk.iload X296 hx (hb hby at_285) rfl rfl ?_
      exact Wk.retZ' X296 hx hlk hr (by simp) (hb hby at_287) (by decide) (by decide) (Qc := Q_rm_law Z p0 p1 p2 p3 u vr_ ed h0) e296 ⟨rfl, N296, KK293⟩
  · skip
    refine Wk.iloadN X40 hx (hb hby at_62) rfl rfl ?_
    refine Wk.iconst X40 hx (v := (2 : Int32)) (hb hby at_63) rfl rfl ?_
    refine Wk.iushr X40 hx (hb hby at_64) rfl ?_
    refine Wk.iconst X40 hx (v := (3 : Int32)) (hb hby at_65) rfl rfl ?_
    refine Wk.iand X40 hx (hb hby at_66) rfl ?_
    refine Wk.iload X40 hx (hb hby at_67) rfl rfl ?_
    obtain ⟨mm297, hmm297⟩ : ∃ z : Int32, z = (((p3.toUInt32 >>> ((2 : Int32) &&& 31).toUInt32).toInt32) &&& (3 : Int32)) := ⟨_, rfl⟩
    rw [← hmm297]
    refine Wk.callS X40 hx hZ hown (w 69 _ rfl) (w 70 _ rfl) (w 71 _ rfl) (w 72 _ rfl) (by decide) (as' := [(.int mm297), (.int (3 : Int32))]) (backOf (W := 0) (rm_mmin l Z a0 hw [] mm297 (3 : Int32) h40 O41) hZ (w 72 _ rfl) (w 71 _ rfl) (by decide) (by decide)) e40 (by rw [hml]; rfl) (rest := []) (lenOf pd19 rfl) rfl (Nat.le_of_eq rfl) (hb hby at_69) rfl (by decide) (by decide) ?_
    intro T298 h298 v298 L298 X298 e298 hQ298
    obtain ⟨r298, rfl, Nq298, K298, q298_0⟩ := hQ298
    have KK299 : Keep h0 h40 [] := ((KK30.trans K36 all0).wr W40 (Or.inr (Nat.le_of_eq g4)))
    have N298 := Fk.app N40 Nq298 KK299.1 all0
    rw [K298] at e298
    show Wp p e below _ _ T298 (mkF m 72 #[.val (.int p0), .val (.int p1), .val (.int p2), .val (.int p3), .val (.long j1), .second, .val (.long j2), .second, .val (.long j3), .second, .val (.ref a4), .val (.int (3 : Int32)), .unset, .unset, .unset, .unset, .unset, .unset] [(.int r298)])
    have hk297 : r298 = 0 ∨ r298 = 1 ∨ r298 = 2 ∨ r298 = 3 := by
      exact own_min3 hmm297 q298_0
    rcases hk297 with rfl | rfl | rfl | rfl
    · skip
      refine Wk.istore X298 hx (Ls' := #[.val (.int p0), .val (.int p1), .val (.int p2), .val (.int p3), .val (.long j1), .second, .val (.long j2), .second, .val (.long j3), .second, .val (.ref a4), .val (.int (3 : Int32)), .val (.int (0 : Int32)), .unset, .unset, .unset, .unset, .unset]) (hb hby at_72) rfl rfl ?_
      refine Wk.iload X298 hx (hb hby at_74) rfl rfl ?_
      refine Wk.iload X298 hx (hb hby at_76) rfl rfl ?_
      refine Wk.icmpNo X298 hx (hb hby at_78) rfl (tlt (by decide : (0 : Int32) < (3 : Int32))).2.1 ?_
      refine Wk.aload X298 hx (hb hby at_81) rfl rfl rfl ?_
      refine Wk.iload X298 hx (hb hby at_83) rfl rfl ?_
      refine Wk.aaload X298 hx hZ e298 (C := (.object "java/time/LocalDate")) V40 (by decide) (by decide) (v := (.ref x12)) rfl rfl (hb hby at_85) rfl ?_
      refine Wk.goto X298 hx (hb hby at_86) (by decide) (q := 90) rfl ?_
      refine Wk.astore X298 hx (Ls' := #[.val (.int p0), .val (.int p1), .val (.int p2), .val (.int p3), .val (.long j1), .second, .val (.long j2), .second, .val (.long j3), .second, .val (.ref a4), .val (.int (3 : Int32)), .val (.int (0 : Int32)), .val (.ref x12), .unset, .unset, .unset, .unset]) (hb hby at_90) rfl rfl rfl ?_
      refine Wk.new X298 hx hZ hown (w 73 _ rfl) (w 74 _ rfl) (w 75 _ rfl) e298 (hb hby at_92) rfl (by decide) (by decide) ?_
      intro T300 h300 a300 g300 X300 e300 E300 A300 D300
      have O301 : Old Z Z.heap.size h300 := O41.ext E300
      have f302 : Fld Z h300 a300 "com/example/accumulus/accumulus/account/LoanAccount" "loans" "Ljava/util/List;" .null := D300 (Or.inr (w 105 _ rfl)) (ty := (.object "java/util/List")) (by decide)
      have f303 : Fld Z h300 a300 "com/example/accumulus/accumulus/account/LoanAccount" "waiting" "Ljava/util/ArrayDeque;" .null := D300 (Or.inr (w 119 _ rfl)) (ty := (.object "java/util/ArrayDeque")) (by decide)
      refine Wk.dup X300 hx (hb hby at_95) rfl rfl ?_
      refine Wk.callI X300 hx hZ rfl hown (w 76 _ rfl) (w 77 _ rfl) (w 78 _ rfl) (by decide) (as' := []) (backOf (W := 1) (rm_lai l Z a0 hw [] a300 ed h300 O301 A300 f302 f303 (Nat.le_trans (Nat.le_trans (Nat.le_trans (Nat.le_of_eq O0.1.symm) O0.2.1) KK299.1) (Nat.le_of_eq g300)) sD) hZ (w 78 _ rfl) (w 75 _ rfl) (by decide) (by decide)) e300 (by rw [hml]; rfl) (rest := [(.ref a300)]) (lenOf pd12 rfl) rfl (Nat.le_of_eq rfl) (hb hby at_96) rfl (by decide) (by decide) ?_
      intro T304 h304 v304 L304 X304 e304 hQ304
      obtain ⟨d304, el304, kE304, rfl, Nq304, K304, q304_0, q304_1, q304_2, q304_3, q304_4, q304_5, q304_6, q304_7, q304_8, q304_9⟩ := hQ304
      have KK305 : Keep h0 h300 [] := (KK299.ext E300)
      have N304 := Fk.app N298 Nq304 KK305.1 (allS (Or.inr (Nat.le_trans KK299.1 (Nat.le_of_eq g300))) all0)
      have O306 : Old Z Z.heap.size h304 := O301.keep K304 (allS (Nat.le_trans (Nat.le_trans (Nat.le_trans (Nat.le_of_eq O0.1.symm) O0.2.1) KK299.1) (Nat.le_of_eq g300)) all0)
      show Wp p e below _ _ T304 (mkF m 99 #[.val (.int p0), .val (.int p1), .val (.int p2), .val (.int p3), .val (.long j1), .second, .val (.long j2), .second, .val (.long j3), .second, .val (.ref a4), .val (.int (3 : Int32)), .val (.int (0 : Int32)), .val (.ref x12), .unset, .unset, .unset, .unset] [(.ref a300)])
      refine Wk.astore X304 hx (Ls' := #[.val (.int p0), .val (.int p1), .val (.int p2), .val (.int p3), .val (.long j1), .second, .val (.long j2), .second, .val (.long j3), .second, .val (.ref a4), .val (.int (3 : Int32)), .val (.int (0 : Int32)), .val (.ref x12), .val (.ref a300), .unset, .unset, .unset]) (hb hby at_99) rfl rfl rfl ?_
      refine Wk.aload X304 hx (hb hby at_101) rfl rfl rfl ?_
      refine Wk.callV X304 hx hZ (y := (⟨"com/example/accumulus/accumulus/account/LoanAccount", "nextWaitingDay", "()Ljava/time/LocalDate;"⟩ : MethodName)) (z := (⟨"com/example/accumulus/accumulus/account/LoanAccount", "nextWaitingDay", "()Ljava/time/LocalDate;"⟩ : MethodName)) hown (w 120 _ rfl) (w 121 _ rfl) (notFace_of_selects (args := #[]) (mvT hZ (w 123 _ rfl))) (w 123 _ rfl) (w 122 _ rfl) (by decide) (as' := []) (backOf (W := 0) (rm_nwN l Z a0 hw [] a300 d304 el304 (0 : Int32) kE304 [.null, .null, .null, .null, .null, .null, .null, .null, .null, .null, .null, .null, .null, .null, .null, .null, .null] h304 O306 q304_3 q304_5 q304_6 q304_7 q304_9 (by first | assumption | rfl | decide | exact Nat.le_of_ble_eq_true rfl) (by first | assumption | rfl | decide | exact Nat.le_of_ble_eq_true rfl) (by first | assumption | rfl | decide | exact Nat.le_of_ble_eq_true rfl)) hZ (w 124 _ rfl) (w 75 _ rfl) (by decide) (by decide)) e304 q304_2 (by rw [hml]; rfl) (rest := []) (lenOf pd25 rfl) rfl (Nat.le_of_eq rfl) (hb hby at_103) rfl (by decide) (by decide) ?_
      intro T307 h307 v307 L307 X307 e307 hQ307
      obtain ⟨rfl, Nq307, K307⟩ := hQ307
      have KK308 : Keep h0 h304 [] := (KK305.trans K304 (allS (Or.inr (Nat.le_trans KK299.1 (Nat.le_of_eq g300))) all0))
      have N307 := Fk.app N304 Nq307 KK308.1 all0
      rw [K307] at e307
      show Wp p e below _ _ T307 (mkF m 106 #[.val (.int p0), .val (.int p1), .val (.int p2), .val (.int p3), .val (.long j1), .second, .val (.long j2), .second, .val (.long j3), .second, .val (.ref a4), .val (.int (3 : Int32)), .val (.int (0 : Int32)), .val (.ref x12), .val (.ref a300), .unset, .unset, .unset] [.null])
      refine Wk.ifnonnullNo X307 hx (hb hby at_106) rfl ?_
      refine Wk.iconst X307 hx (v := (1 : Int32)) (hb hby at_109) rfl rfl ?_
      refine Wk.goto X307 hx (hb hby at_110) (by decide) (q := 114) rfl ?_
      refine Wk.istore X307 hx (Ls' := #[.val (.int p0), .val (.int p1), .val (.int p2), .val (.int p3), .val (.long j1), .second, .val (.long j2), .second, .val (.long j3), .second, .val (.ref a4), .val (.int (3 : Int32)), .val (.int (0 : Int32)), .val (.ref x12), .val (.ref a300), .val (.int (1 : Int32)), .unset, .unset]) (hb hby at_114) rfl rfl ?_
      refine Wk.iload X307 hx (hb hby at_116) rfl rfl ?_
      refine Wk.iconst X307 hx (v := (1 : Int32)) (hb hby at_118) rfl rfl ?_
      refine Wk.icmpNo X307 hx (hb hby at_119) rfl (flt (by decide : ¬ ((3 : Int32) < (1 : Int32)))).1 ?_
      refine Wk.aload X307 hx (hb hby at_122) rfl rfl rfl ?_
      refine Wk.aconstNull X307 hx (hb hby at_124) rfl ?_
      refine Wk.aload X307 hx (hb hby at_125) rfl rfl rfl ?_
      refine Wk.iconst X307 hx (v := (0 : Int32)) (hb hby at_127) rfl rfl ?_
      have KK309 : Keep h40 h304 [] := (((Keep.refl h40 []).ext E300).trans K304 (allS (Or.inr (Nat.le_of_eq g300)) all0))
      have f310 : Arv Z h304 a4 kA4 (.object "java/time/LocalDate") (3 : Int32) [(.ref x12), (.ref x24), (.ref x36)] .null := (V40.keep KK309 nin0)
      refine Wk.aaload X307 hx hZ e307 (C := (.object "java/time/LocalDate")) f310 (by decide) (by decide) (v := (.ref x12)) rfl rfl (hb hby at_128) rfl ?_
      refine Wk.callV X307 hx hZ (y := (⟨"com/example/accumulus/accumulus/account/LoanAccount", "await", "(Lcom/example/accumulus/accumulus/journal/JournalEntry;Ljava/time/LocalDate;)V"⟩ : MethodName)) (z := (⟨"com/example/accumulus/accumulus/account/LoanAccount", "await", "(Lcom/example/accumulus/accumulus/journal/JournalEntry;Ljava/time/LocalDate;)V"⟩ : MethodName)) hown (w 140 _ rfl) (w 141 _ rfl) (notFace_of_selects (args := #[]) (mvT hZ (w 143 _ rfl))) (w 143 _ rfl) (w 142 _ rfl) (by decide) (as' := [.null, (.ref x12)]) (backOf (W := 0) (rm_awt l Z a0 hw [] a300 d304 el304 (0 : Int32) (0 : Int32) (1 : Int32) kE304 [.null, .null, .null, .null, .null, .null, .null, .null, .null, .null, .null, .null, .null, .null, .null, .null, .null] x12 h304 O306 q304_3 q304_5 q304_6 q304_7 q304_8 q304_9 (by first | assumption | rfl | decide | exact Nat.le_of_ble_eq_true rfl) (by first | assumption | rfl | decide | exact Nat.le_of_ble_eq_true rfl) (by first | assumption | rfl | decide | exact Nat.le_of_ble_eq_true rfl) (by first | assumption | rfl | decide | exact Nat.le_of_ble_eq_true rfl) (by first | assumption | rfl | decide | exact Nat.le_of_ble_eq_true rfl) (by first | assumption | rfl | decide | exact Nat.le_of_ble_eq_true rfl) (Nat.le_trans (Nat.le_trans (Nat.le_trans (Nat.le_of_eq O0.1.symm) O0.2.1) KK305.1) q304_0) (Nat.le_trans (Nat.le_trans (Nat.le_trans (Nat.le_of_eq O0.1.symm) O0.2.1) KK305.1) q304_1) q304_4) hZ (w 144 _ rfl) (w 75 _ rfl) (by decide) (by decide)) e307 q304_2 (by rw [hml]; rfl) (rest := []) (lenOf pd21 rfl) rfl (Nat.le_of_eq rfl) (hb hby at_129) rfl (by decide) (by decide) ?_
      intro T311 h311 v311 L311 X311 e311 hQ311
      obtain ⟨w_311, rfl, Nq311, K311, q311_0, q311_1, q311_2, q311_3, q311_4, q311_5, q311_6, q311_7, q311_8⟩ := hQ311
      have N311 := Fk.app N307 Nq311 KK308.1 (allS (Or.inr (Nat.le_trans KK305.1 q304_0)) (allS (Or.inr (Nat.le_trans KK305.1 q304_1)) all0))
      have O312 : Old Z Z.heap.size h311 := O306.keep K311 (allS (Nat.le_trans (Nat.le_trans (Nat.le_trans (Nat.le_of_eq O0.1.symm) O0.2.1) KK305.1) q304_0) (allS (Nat.le_trans (Nat.le_trans (Nat.le_trans (Nat.le_of_eq O0.1.symm) O0.2.1) KK305.1) q304_1) all0))
      have Vl313 : Arv Z h311 el304 kE304 (.object "java/lang/Object") (17 : Int32) [(.ref w_311), .null, .null, .null, .null, .null, .null, .null, .null, .null, .null, .null, .null, .null, .null, .null, .null] .null := q311_8
      show Wp p e below _ _ T311 (mkF m 132 #[.val (.int p0), .val (.int p1), .val (.int p2), .val (.int p3), .val (.long j1), .second, .val (.long j2), .second, .val (.long j3), .second, .val (.ref a4), .val (.int (3 : Int32)), .val (.int (0 : Int32)), .val (.ref x12), .val (.ref a300), .val (.int (1 : Int32)), .unset, .unset] [])
      refine Wk.iload X311 hx (hb hby at_132) rfl rfl ?_
      refine Wk.ifNo X311 hx (hb hby at_134) rfl ((if0 _ _).trans (feq (by decide : ¬ ((1 : Int32) = (0 : Int32)))).1) ?_
      refine Wk.aload X311 hx (hb hby at_137) rfl rfl rfl ?_
      have KK314 : Keep h304 h311 [d304, el304] := ((Keep.refl h304 [d304, el304]).trans K311 (allS (Or.inl (List.mem_of_getElem? (i := 0) rfl)) (allS (Or.inl (List.mem_of_getElem? (i := 1) rfl)) all0)))
      have f315 : Fld Z h311 a300 "com/example/accumulus/accumulus/account/LoanAccount" "waiting" "Ljava/util/ArrayDeque;" (.ref d304) := (q304_3.keep KK314 (ninS (Nat.ne_of_lt (Nat.lt_of_lt_of_le A300.lt q304_0)) (ninS (Nat.ne_of_lt (Nat.lt_of_lt_of_le A300.lt q304_1)) nin0)))
      have KK317 : Keep h300 h311 [a300] := (((Keep.refl h300 [a300]).trans K304 (allS (Or.inl (List.mem_of_getElem? (i := 0) rfl)) all0)).trans K311 (allS (Or.inr q304_0) (allS (Or.inr q304_1) all0)))
      have f318 : Exa Z h311 a300 "com/example/accumulus/accumulus/account/LoanAccount" := (A300.keep KK317)
      refine Wk.callV X311 hx hZ (y := (⟨"com/example/accumulus/accumulus/account/LoanAccount", "nextWaitingDay", "()Ljava/time/LocalDate;"⟩ : MethodName)) (z := (⟨"com/example/accumulus/accumulus/account/LoanAccount", "nextWaitingDay", "()Ljava/time/LocalDate;"⟩ : MethodName)) hown (w 120 _ rfl) (w 121 _ rfl) (notFace_of_selects (args := #[]) (mvT hZ (w 123 _ rfl))) (w 123 _ rfl) (w 122 _ rfl) (by decide) (as' := []) (backOf (W := 0) (rm_nwR l Z a0 hw [] a300 d304 el304 (0 : Int32) kE304 [(.ref w_311), .null, .null, .null, .null, .null, .null, .null, .null, .null, .null, .null, .null, .null, .null, .null, .null] w_311 x12 h311 O312 f315 q311_4 q311_5 q311_6 Vl313 (by first | assumption | rfl | decide | exact Nat.le_of_ble_eq_true rfl) (by first | assumption | rfl | decide | exact Nat.le_of_ble_eq_true rfl) (by first | assumption | rfl | decide | exact Nat.le_of_ble_eq_true rfl) q311_1 q311_2) hZ (w 124 _ rfl) (w 75 _ rfl) (by decide) (by decide)) e311 f318 (by rw [hml]; rfl) (rest := []) (lenOf pd25 rfl) rfl (Nat.le_of_eq rfl) (hb hby at_139) rfl (by decide) (by decide) ?_
      intro T316 h316 v316 L316 X316 e316 hQ316
      obtain ⟨rfl, Nq316, K316⟩ := hQ316
      have KK319 : Keep h0 h311 [] := (KK308.trans K311 (allS (Or.inr (Nat.le_trans KK305.1 q304_0)) (allS (Or.inr (Nat.le_trans KK305.1 q304_1)) all0)))
      have N316 := Fk.app N311 Nq316 KK319.1 all0
      rw [K316] at e316
      show Wp p e below _ _ T316 (mkF m 142 #[.val (.int p0), .val (.int p1), .val (.int p2), .val (.int p3), .val (.long j1), .second, .val (.long j2), .second, .val (.long j3), .second, .val (.ref a4), .val (.int (3 : Int32)), .val (.int (0 : Int32)), .val (.ref x12), .val (.ref a300), .val (.int (1 : Int32)), .unset, .unset] [(.ref x12)])
      refine Wk.aload X316 hx (hb hby at_142) rfl rfl rfl ?_
      refine Wk.iconst X316 hx (v := (0 : Int32)) (hb hby at_144) rfl rfl ?_
      have KK320 : Keep h40 h300 [] := ((Keep.refl h40 []).ext E300)
      have KK321 : Keep h40 h311 [] := (KK309.trans K311 (allS (Or.inr (Nat.le_trans KK320.1 q304_0)) (allS (Or.inr (Nat.le_trans KK320.1 q304_1)) all0)))
      have f322 : Arv Z h311 a4 kA4 (.object "java/time/LocalDate") (3 : Int32) [(.ref x12), (.ref x24), (.ref x36)] .null := (V40.keep KK321 nin0)
      refine Wk.aaload X316 hx hZ e316 (C := (.object "java/time/LocalDate")) f322 (by decide) (by decide) (v := (.ref x12)) rfl rfl (hb hby at_145) rfl ?_
      have KK323 : Keep h12 h40 [a4] := ((((((Keep.refl h12 [a4]).wr W16 (Or.inl (List.mem_of_getElem? (i := 0) rfl))).trans K24 all0).wr W28 (Or.inl (List.mem_of_getElem? (i := 0) rfl))).trans K36 all0).wr W40 (Or.inl (List.mem_of_getElem? (i := 0) rfl)))
      have KK324 : Keep h12 h300 [a4] := (KK323.ext E300)
      have KK325 : Keep h12 h311 [a4] := (((((((((Keep.refl h12 [a4]).wr W16 (Or.inl (List.mem_of_getElem? (i := 0) rfl))).trans K24 all0).wr W28 (Or.inl (List.mem_of_getElem? (i := 0) rfl))).trans K36 all0).wr W40 (Or.inl (List.mem_of_getElem? (i := 0) rfl))).ext E300).trans K304 (allS (Or.inr (Nat.le_trans KK323.1 (Nat.le_of_eq g300))) all0)).trans K311 (allS (Or.inr (Nat.le_trans KK324.1 q304_0)) (allS (Or.inr (Nat.le_trans KK324.1 q304_1)) all0)))
      have f326 : Exa Z h311 x12 "java/time/LocalDate" := (q12_1.keep KK325)
      refine Wk.callS X316 hx hZ hown (w 174 _ rfl) (w 175 _ rfl) (w 176 _ rfl) (w 177 _ rfl) (by decide) (as' := [(.ref x12), (.ref x12)]) (backOf (W := 0) (rm_smR l Z a0 hw [] x12 h311 O312 f326) hZ (w 177 _ rfl) (w 176 _ rfl) (by decide) (by decide)) e316 (by rw [hml]; rfl) (rest := []) (lenOf pd26 rfl) rfl (Nat.le_of_eq rfl) (hb hby at_146) rfl (by decide) (by decide) ?_
      intro T327 h327 v327 L327 X327 e327 hQ327
      obtain ⟨rfl, Nq327, K327⟩ := hQ327
      have N327 := Fk.app N316 Nq327 KK319.1 all0
      rw [K327] at e327
      show Wp p e below _ _ T327 (mkF m 149 #[.val (.int p0), .val (.int p1), .val (.int p2), .val (.int p3), .val (.long j1), .second, .val (.long j2), .second, .val (.long j3), .second, .val (.ref a4), .val (.int (3 : Int32)), .val (.int (0 : Int32)), .val (.ref x12), .val (.ref a300), .val (.int (1 : Int32)), .unset, .unset] [(.int (1 : Int32))])
      refine Wk.ifNo X327 hx (hb hby at_149) rfl ((if0 _ _).trans (feq (by decide : ¬ ((1 : Int32) = (0 : Int32)))).1) ?_
      refine Wk.iconst X327 hx (v := (1 : Int32)) (hb hby at_152) rfl rfl ?_
      refine Wk.goto X327 hx (hb hby at_153) (by decide) (q := 157) rfl ?_
      refine Wk.istore X327 hx (Ls' := #[.val (.int p0), .val (.int p1), .val (.int p2), .val (.int p3), .val (.long j1), .second, .val (.long j2), .second, .val (.long j3), .second, .val (.ref a4), .val (.int (3 : Int32)), .val (.int (0 : Int32)), .val (.ref x12), .val (.ref a300), .val (.int (1 : Int32)), .unset, .unset]) (hb hby at_157) rfl rfl ?_
      refine Wk.iload X327 hx (hb hby at_159) rfl rfl ?_
      refine Wk.iconst X327 hx (v := (2 : Int32)) (hb hby at_161) rfl rfl ?_
      refine Wk.icmpNo X327 hx (hb hby at_162) rfl (flt (by decide : ¬ ((3 : Int32) < (2 : Int32)))).1 ?_
      refine Wk.aload X327 hx (hb hby at_165) rfl rfl rfl ?_
      refine Wk.aconstNull X327 hx (hb hby at_167) rfl ?_
      refine Wk.aload X327 hx (hb hby at_168) rfl rfl rfl ?_
      refine Wk.iconst X327 hx (v := (1 : Int32)) (hb hby at_170) rfl rfl ?_
      refine Wk.aaload X327 hx hZ e327 (C := (.object "java/time/LocalDate")) f322 (by decide) (by decide) (v := (.ref x24)) rfl rfl (hb hby at_171) rfl ?_
      refine Wk.callV X327 hx hZ (y := (⟨"com/example/accumulus/accumulus/account/LoanAccount", "await", "(Lcom/example/accumulus/accumulus/journal/JournalEntry;Ljava/time/LocalDate;)V"⟩ : MethodName)) (z := (⟨"com/example/accumulus/accumulus/account/LoanAccount", "await", "(Lcom/example/accumulus/accumulus/journal/JournalEntry;Ljava/time/LocalDate;)V"⟩ : MethodName)) hown (w 140 _ rfl) (w 141 _ rfl) (notFace_of_selects (args := #[]) (mvT hZ (w 143 _ rfl))) (w 143 _ rfl) (w 142 _ rfl) (by decide) (as' := [.null, (.ref x24)]) (backOf (W := 0) (rm_awt l Z a0 hw [] a300 d304 el304 (0 : Int32) (1 : Int32) (2 : Int32) kE304 [(.ref w_311), .null, .null, .null, .null, .null, .null, .null, .null, .null, .null, .null, .null, .null, .null, .null, .null] x24 h311 O312 f315 q311_4 q311_5 q311_6 q311_7 Vl313 (by first | assumption | rfl | decide | exact Nat.le_of_ble_eq_true rfl) (by first | assumption | rfl | decide | exact Nat.le_of_ble_eq_true rfl) (by first | assumption | rfl | decide | exact Nat.le_of_ble_eq_true rfl) (by first | assumption | rfl | decide | exact Nat.le_of_ble_eq_true rfl) (by first | assumption | rfl | decide | exact Nat.le_of_ble_eq_true rfl) (by first | assumption | rfl | decide | exact Nat.le_of_ble_eq_true rfl) (Nat.le_trans (Nat.le_trans (Nat.le_trans (Nat.le_of_eq O0.1.symm) O0.2.1) KK305.1) q304_0) (Nat.le_trans (Nat.le_trans (Nat.le_trans (Nat.le_of_eq O0.1.symm) O0.2.1) KK305.1) q304_1) q304_4) hZ (w 144 _ rfl) (w 75 _ rfl) (by decide) (by decide)) e327 f318 (by rw [hml]; rfl) (rest := []) (lenOf pd21 rfl) rfl (Nat.le_of_eq rfl) (hb hby at_172) rfl (by decide) (by decide) ?_
      intro T328 h328 v328 L328 X328 e328 hQ328
      obtain ⟨w_328, rfl, Nq328, K328, q328_0, q328_1, q328_2, q328_3, q328_4, q328_5, q328_6, q328_7, q328_8⟩ := hQ328
      have N328 := Fk.app N327 Nq328 KK319.1 (allS (Or.inr (Nat.le_trans KK305.1 q304_0)) (allS (Or.inr (Nat.le_trans KK305.1 q304_1)) all0))
      have O329 : Old Z Z.heap.size h328 := O312.keep K328 (allS (Nat.le_trans (Nat.le_trans (Nat.le_trans (Nat.le_of_eq O0.1.symm) O0.2.1) KK305.1) q304_0) (allS (Nat.le_trans (Nat.le_trans (Nat.le_trans (Nat.le_of_eq O0.1.symm) O0.2.1) KK305.1) q304_1) all0))
      have Vl330 : Arv Z h328 el304 kE304 (.object "java/lang/Object") (17 : Int32) [(.ref w_311), (.ref w_328), .null, .null, .null, .null, .null, .null, .null, .null, .null, .null, .null, .null, .null, .null, .null] .null := q328_8
      show Wp p e below _ _ T328 (mkF m 175 #[.val (.int p0), .val (.int p1), .val (.int p2), .val (.int p3), .val (.long j1), .second, .val (.long j2), .second, .val (.long j3), .second, .val (.ref a4), .val (.int (3 : Int32)), .val (.int (0 : Int32)), .val (.ref x12), .val (.ref a300), .val (.int (1 : Int32)), .unset, .unset] [])
      refine Wk.iload X328 hx (hb hby at_175) rfl rfl ?_
      refine Wk.iconst X328 hx (v := (3 : Int32)) (hb hby at_177) rfl rfl ?_
      refine Wk.icmpNo X328 hx (hb hby at_178) rfl (flt (by decide : ¬ ((3 : Int32) < (3 : Int32)))).1 ?_
      refine Wk.aload X328 hx (hb hby at_181) rfl rfl rfl ?_
      refine Wk.aconstNull X328 hx (hb hby at_183) rfl ?_
      refine Wk.aload X328 hx (hb hby at_184) rfl rfl rfl ?_
      refine Wk.iconst X328 hx (v := (2 : Int32)) (hb hby at_186) rfl rfl ?_
      have KK331 : Keep h40 h328 [] := (KK321.trans K328 (allS (Or.inr (Nat.le_trans KK320.1 q304_0)) (allS (Or.inr (Nat.le_trans KK320.1 q304_1)) all0)))
      have f332 : Arv Z h328 a4 kA4 (.object "java/time/LocalDate") (3 : Int32) [(.ref x12), (.ref x24), (.ref x36)] .null := (V40.keep KK331 nin0)
      refine Wk.aaload X328 hx hZ e328 (C := (.object "java/time/LocalDate")) f332 (by decide) (by decide) (v := (.ref x36)) rfl rfl (hb hby at_187) rfl ?_
      have KK333 : Keep h311 h328 [d304, el304] := ((Keep.refl h311 [d304, el304]).trans K328 (allS (Or.inl (List.mem_of_getElem? (i := 0) rfl)) (allS (Or.inl (List.mem_of_getElem? (i := 1) rfl)) all0)))
      have f334 : Fld Z h328 a300 "com/example/accumulus/accumulus/account/LoanAccount" "waiting" "Ljava/util/ArrayDeque;" (.ref d304) := (f315.keep KK333 (ninS (Nat.ne_of_lt (Nat.lt_of_lt_of_le A300.lt q304_0)) (ninS (Nat.ne_of_lt (Nat.lt_of_lt_of_le A300.lt q304_1)) nin0)))
      have KK336 : Keep h300 h328 [a300] := (KK317.trans K328 (allS (Or.inr q304_0) (allS (Or.inr q304_1) all0)))
      have f337 : Exa Z h328 a300 "com/example/accumulus/accumulus/account/LoanAccount" := (A300.keep KK336)
      refine Wk.callV X328 hx hZ (y := (⟨"com/example/accumulus/accumulus/account/LoanAccount", "await", "(Lcom/example/accumulus/accumulus/journal/JournalEntry;Ljava/time/LocalDate;)V"⟩ : MethodName)) (z := (⟨"com/example/accumulus/accumulus/account/LoanAccount", "await", "(Lcom/example/accumulus/accumulus/journal/JournalEntry;Ljava/time/LocalDate;)V"⟩ : MethodName)) hown (w 140 _ rfl) (w 141 _ rfl) (notFace_of_selects (args := #[]) (mvT hZ (w 143 _ rfl))) (w 143 _ rfl) (w 142 _ rfl) (by decide) (as' := [.null, (.ref x36)]) (backOf (W := 0) (rm_awt l Z a0 hw [] a300 d304 el304 (0 : Int32) (2 : Int32) (3 : Int32) kE304 [(.ref w_311), (.ref w_328), .null, .null, .null, .null, .null, .null, .null, .null, .null, .null, .null, .null, .null, .null, .null] x36 h328 O329 f334 q328_4 q328_5 q328_6 q328_7 Vl330 (by first | assumption | rfl | decide | exact Nat.le_of_ble_eq_true rfl) (by first | assumption | rfl | decide | exact Nat.le_of_ble_eq_true rfl) (by first | assumption | rfl | decide | exact Nat.le_of_ble_eq_true rfl) (by first | assumption | rfl | decide | exact Nat.le_of_ble_eq_true rfl) (by first | assumption | rfl | decide | exact Nat.le_of_ble_eq_true rfl) (by first | assumption | rfl | decide | exact Nat.le_of_ble_eq_true rfl) (Nat.le_trans (Nat.le_trans (Nat.le_trans (Nat.le_of_eq O0.1.symm) O0.2.1) KK305.1) q304_0) (Nat.le_trans (Nat.le_trans (Nat.le_trans (Nat.le_of_eq O0.1.symm) O0.2.1) KK305.1) q304_1) q304_4) hZ (w 144 _ rfl) (w 75 _ rfl) (by decide) (by decide)) e328 f337 (by rw [hml]; rfl) (rest := []) (lenOf pd21 rfl) rfl (Nat.le_of_eq rfl) (hb hby at_188) rfl (by decide) (by decide) ?_
      intro T335 h335 v335 L335 X335 e335 hQ335
      obtain ⟨w_335, rfl, Nq335, K335, q335_0, q335_1, q335_2, q335_3, q335_4, q335_5, q335_6, q335_7, q335_8⟩ := hQ335
      have KK338 : Keep h0 h328 [] := (KK319.trans K328 (allS (Or.inr (Nat.le_trans KK305.1 q304_0)) (allS (Or.inr (Nat.le_trans KK305.1 q304_1)) all0)))
      have N335 := Fk.app N328 Nq335 KK338.1 (allS (Or.inr (Nat.le_trans KK305.1 q304_0)) (allS (Or.inr (Nat.le_trans KK305.1 q304_1)) all0))
      have O339 : Old Z Z.heap.size h335 := O329.keep K335 (allS (Nat.le_trans (Nat.le_trans (Nat.le_trans (Nat.le_of_eq O0.1.symm) O0.2.1) KK305.1) q304_0) (allS (Nat.le_trans (Nat.le_trans (Nat.le_trans (Nat.le_of_eq O0.1.symm) O0.2.1) KK305.1) q304_1) all0))
      have Vl340 : Arv Z h335 el304 kE304 (.object "java/lang/Object") (17 : Int32) [(.ref w_311), (.ref w_328), (.ref w_335), .null, .null, .null, .null, .null, .null, .null, .null, .null, .null, .null, .null, .null, .null] .null := q335_8
      show Wp p e below _ _ T335 (mkF m 191 #[.val (.int p0), .val (.int p1), .val (.int p2), .val (.int p3), .val (.long j1), .second, .val (.long j2), .second, .val (.long j3), .second, .val (.ref a4), .val (.int (3 : Int32)), .val (.int (0 : Int32)), .val (.ref x12), .val (.ref a300), .val (.int (1 : Int32)), .unset, .unset] [])
      refine Wk.iload X335 hx (hb hby at_191) rfl rfl ?_
      refine Wk.iconst X335 hx (v := (1 : Int32)) (hb hby at_193) rfl rfl ?_
      refine Wk.icmpYes X335 hx (hb hby at_194) (by decide) (q := 203) rfl (tlt (by decide : (0 : Int32) < (1 : Int32))).1 ?_
      refine Wk.iload X335 hx (hb hby at_203) rfl rfl ?_
      refine Wk.iconst X335 hx (v := (2 : Int32)) (hb hby at_205) rfl rfl ?_
      refine Wk.icmpYes X335 hx (hb hby at_206) (by decide) (q := 215) rfl (tlt (by decide : (0 : Int32) < (2 : Int32))).1 ?_
      refine Wk.iload X335 hx (hb hby at_215) rfl rfl ?_
      refine Wk.iconst X335 hx (v := (3 : Int32)) (hb hby at_217) rfl rfl ?_
      refine Wk.icmpYes X335 hx (hb hby at_218) (by decide) (q := 227) rfl (tlt (by decide : (0 : Int32) < (3 : Int32))).1 ?_
      refine Wk.aload X335 hx (hb hby at_227) rfl rfl rfl ?_
      have KK341 : Keep h328 h335 [d304, el304] := ((Keep.refl h328 [d304, el304]).trans K335 (allS (Or.inl (List.mem_of_getElem? (i := 0) rfl)) (allS (Or.inl (List.mem_of_getElem? (i := 1) rfl)) all0)))
      have f342 : Fld Z h335 a300 "com/example/accumulus/accumulus/account/LoanAccount" "waiting" "Ljava/util/ArrayDeque;" (.ref d304) := (f334.keep KK341 (ninS (Nat.ne_of_lt (Nat.lt_of_lt_of_le A300.lt q304_0)) (ninS (Nat.ne_of_lt (Nat.lt_of_lt_of_le A300.lt q304_1)) nin0)))
      have KK343 : Keep h311 h335 [d304, el304] := (KK333.trans K335 (allS (Or.inl (List.mem_of_getElem? (i := 0) rfl)) (allS (Or.inl (List.mem_of_getElem? (i := 1) rfl)) all0)))
      have f344 : Exa Z h335 w_311 "com/example/accumulus/accumulus/account/LoanAccount$Waiting" := (q311_1.keep KK343)
      have f345 : Fld Z h335 w_311 "com/example/accumulus/accumulus/account/LoanAccount$Waiting" "pricingDate" "Ljava/time/LocalDate;" (.ref x12) := (q311_2.keep KK343 (ninS (Ne.symm (Nat.ne_of_lt (Nat.lt_of_lt_of_le q304_5.lt q311_0))) (ninS (Exa.neArv f344 Vl340 (w 146 _ rfl)) nin0)))
      have KK347 : Keep h300 h335 [a300] := (KK336.trans K335 (allS (Or.inr q304_0) (allS (Or.inr q304_1) all0)))
      have f348 : Exa Z h335 a300 "com/example/accumulus/accumulus/account/LoanAccount" := (A300.keep KK347)
      refine Wk.callV X335 hx hZ (y := (⟨"com/example/accumulus/accumulus/account/LoanAccount", "nextWaitingDay", "()Ljava/time/LocalDate;"⟩ : MethodName)) (z := (⟨"com/example/accumulus/accumulus/account/LoanAccount", "nextWaitingDay", "()Ljava/time/LocalDate;"⟩ : MethodName)) hown (w 120 _ rfl) (w 121 _ rfl) (notFace_of_selects (args := #[]) (mvT hZ (w 123 _ rfl))) (w 123 _ rfl) (w 122 _ rfl) (by decide) (as' := []) (backOf (W := 0) (rm_nwR l Z a0 hw [] a300 d304 el304 (0 : Int32) kE304 [(.ref w_311), (.ref w_328), (.ref w_335), .null, .null, .null, .null, .null, .null, .null, .null, .null, .null, .null, .null, .null, .null] w_311 x12 h335 O339 f342 q335_4 q335_5 q335_6 Vl340 (by first | assumption | rfl | decide | exact Nat.le_of_ble_eq_true rfl) (by first | assumption | rfl | decide | exact Nat.le_of_ble_eq_true rfl) (by first | assumption | rfl | decide | exact Nat.le_of_ble_eq_true rfl) f344 f345) hZ (w 124 _ rfl) (w 75 _ rfl) (by decide) (by decide)) e335 f348 (by rw [hml]; rfl) (rest := []) (lenOf pd25 rfl) rfl (Nat.le_of_eq rfl) (hb hby at_229) rfl (by decide) (by decide) ?_
      intro T346 h346 v346 L346 X346 e346 hQ346
      obtain ⟨rfl, Nq346, K346⟩ := hQ346
      have KK349 : Keep h0 h335 [] := (KK338.trans K335 (allS (Or.inr (Nat.le_trans KK305.1 q304_0)) (allS (Or.inr (Nat.le_trans KK305.1 q304_1)) all0)))
      have N346 := Fk.app N335 Nq346 KK349.1 all0
      rw [K346] at e346
      show Wp p e below _ _ T346 (mkF m 232 #[.val (.int p0), .val (.int p1), .val (.int p2), .val (.int p3), .val (.long j1), .second, .val (.long j2), .second, .val (.long j3), .second, .val (.ref a4), .val (.int (3 : Int32)), .val (.int (0 : Int32)), .val (.ref x12), .val (.ref a300), .val (.int (1 : Int32)), .unset, .unset] [(.ref x12)])
      refine Wk.astore X346 hx (Ls' := #[.val (.int p0), .val (.int p1), .val (.int p2), .val (.int p3), .val (.long j1), .second, .val (.long j2), .second, .val (.long j3), .second, .val (.ref a4), .val (.int (3 : Int32)), .val (.int (0 : Int32)), .val (.ref x12), .val (.ref a300), .val (.int (1 : Int32)), .val (.ref x12), .unset]) (hb hby at_232) rfl rfl rfl ?_
      refine Wk.iload X346 hx (hb hby at_234) rfl rfl ?_
      refine Wk.ifNo X346 hx (hb hby at_236) rfl ((if0 _ _).trans (feq (by decide : ¬ ((1 : Int32) = (0 : Int32)))).1) ?_
      refine Wk.aload X346 hx (hb hby at_239) rfl rfl rfl ?_
      refine Wk.aload X346 hx (hb hby at_241) rfl rfl rfl ?_
      have KK350 : Keep h12 h335 [a4] := ((KK325.trans K328 (allS (Or.inr (Nat.le_trans KK324.1 q304_0)) (allS (Or.inr (Nat.le_trans KK324.1 q304_1)) all0))).trans K335 (allS (Or.inr (Nat.le_trans KK324.1 q304_0)) (allS (Or.inr (Nat.le_trans KK324.1 q304_1)) all0)))
      have f351 : Exa Z h335 x12 "java/time/LocalDate" := (q12_1.keep KK350)
      refine Wk.callS X346 hx hZ hown (w 174 _ rfl) (w 175 _ rfl) (w 176 _ rfl) (w 177 _ rfl) (by decide) (as' := [(.ref x12), (.ref x12)]) (backOf (W := 0) (rm_smR l Z a0 hw [] x12 h335 O339 f351) hZ (w 177 _ rfl) (w 176 _ rfl) (by decide) (by decide)) e346 (by rw [hml]; rfl) (rest := []) (lenOf pd26 rfl) rfl (Nat.le_of_eq rfl) (hb hby at_243) rfl (by decide) (by decide) ?_
      intro T352 h352 v352 L352 X352 e352 hQ352
      obtain ⟨rfl, Nq352, K352⟩ := hQ352
      have N352 := Fk.app N346 Nq352 KK349.1 all0
      rw [K352] at e352
      show Wp p e below _ _ T352 (mkF m 246 #[.val (.int p0), .val (.int p1), .val (.int p2), .val (.int p3), .val (.long j1), .second, .val (.long j2), .second, .val (.long j3), .second, .val (.ref a4), .val (.int (3 : Int32)), .val (.int (0 : Int32)), .val (.ref x12), .val (.ref a300), .val (.int (1 : Int32)), .val (.ref x12), .unset] [(.int (1 : Int32))])
      refine Wk.ifNo X352 hx (hb hby at_246) rfl ((if0 _ _).trans (feq (by decide : ¬ ((1 : Int32) = (0 : Int32)))).1) ?_
      refine Wk.iconst X352 hx (v := (1 : Int32)) (hb hby at_249) rfl rfl ?_
      refine Wk.goto X352 hx (hb hby at_250) (by decide) (q := 254) rfl ?_
      refine Wk.istore X352 hx (Ls' := #[.val (.int p0), .val (.int p1), .val (.int p2), .val (.int p3), .val (.long j1), .second, .val (.long j2), .second, .val (.long j3), .second, .val (.ref a4), .val (.int (3 : Int32)), .val (.int (0 : Int32)), .val (.ref x12), .val (.ref a300), .val (.int (1 : Int32)), .val (.ref x12), .unset]) (hb hby at_254) rfl rfl ?_
      refine Wk.aload X352 hx (hb hby at_256) rfl rfl rfl ?_
      refine Wk.callV X352 hx hZ (y := (⟨"com/example/accumulus/accumulus/account/LoanAccount", "nextWaitingDay", "()Ljava/time/LocalDate;"⟩ : MethodName)) (z := (⟨"com/example/accumulus/accumulus/account/LoanAccount", "nextWaitingDay", "()Ljava/time/LocalDate;"⟩ : MethodName)) hown (w 120 _ rfl) (w 121 _ rfl) (notFace_of_selects (args := #[]) (mvT hZ (w 123 _ rfl))) (w 123 _ rfl) (w 122 _ rfl) (by decide) (as' := []) (backOf (W := 0) (rm_nwR l Z a0 hw [] a300 d304 el304 (0 : Int32) kE304 [(.ref w_311), (.ref w_328), (.ref w_335), .null, .null, .null, .null, .null, .null, .null, .null, .null, .null, .null, .null, .null, .null] w_311 x12 h335 O339 f342 q335_4 q335_5 q335_6 Vl340 (by first | assumption | rfl | decide | exact Nat.le_of_ble_eq_true rfl) (by first | assumption | rfl | decide | exact Nat.le_of_ble_eq_true rfl) (by first | assumption | rfl | decide | exact Nat.le_of_ble_eq_true rfl) f344 f345) hZ (w 124 _ rfl) (w 75 _ rfl) (by decide) (by decide)) e352 f348 (by rw [hml]; rfl) (rest := []) (lenOf pd25 rfl) rfl (Nat.le_of_eq rfl) (hb hby at_258) rfl (by decide) (by decide) ?_
      intro T353 h353 v353 L353 X353 e353 hQ353
      obtain ⟨rfl, Nq353, K353⟩ := hQ353
      have N353 := Fk.app N352 Nq353 KK349.1 all0
      rw [K353] at e353
      show Wp p e below _ _ T353 (mkF m 261 #[.val (.int p0), .val (.int p1), .val (.int p2), .val (.int p3), .val (.long j1), .second, .val (.long j2), .second, .val (.long j3), .second, .val (.ref a4), .val (.int (3 : Int32)), .val (.int (0 : Int32)), .val (.ref x12), .val (.ref a300), .val (.int (1 : Int32)), .val (.ref x12), .unset] [(.ref x12)])
      refine Wk.astore X353 hx (Ls' := #[.val (.int p0), .val (.int p1), .val (.int p2), .val (.int p3), .val (.long j1), .second, .val (.long j2), .second, .val (.long j3), .second, .val (.ref a4), .val (.int (3 : Int32)), .val (.int (0 : Int32)), .val (.ref x12), .val (.ref a300), .val (.int (1 : Int32)), .val (.ref x12), .val (.ref x12)]) (hb hby at_261) rfl rfl rfl ?_
      refine Wk.iload X353 hx (hb hby at_263) rfl rfl ?_
      refine Wk.ifNo X353 hx (hb hby at_265) rfl ((if0 _ _).trans (feq (by decide : ¬ ((1 : Int32) = (0 : Int32)))).1) ?_
      refine Wk.aload X353 hx (hb hby at_268) rfl rfl rfl ?_
      refine Wk.aload X353 hx (hb hby at_270) rfl rfl rfl ?_
      refine Wk.callS X353 hx hZ hown (w 174 _ rfl) (w 175 _ rfl) (w 176 _ rfl) (w 177 _ rfl) (by decide) (as' := [(.ref x12), (.ref x12)]) (backOf (W := 0) (rm_smR l Z a0 hw [] x12 h335 O339 f351) hZ (w 177 _ rfl) (w 176 _ rfl) (by decide) (by decide)) e353 (by rw [hml]; rfl) (rest := []) (lenOf pd26 rfl) rfl (Nat.le_of_eq rfl) (hb hby at_272) rfl (by decide) (by decide) ?_
      intro T354 h354 v354 L354 X354 e354 hQ354
      obtain ⟨rfl, Nq354, K354⟩ := hQ354
      have N354 := Fk.app N353 Nq354 KK349.1 all0
      rw [K354] at e354
      show Wp p e below _ _ T354 (mkF m 275 #[.val (.int p0), .val (.int p1), .val (.int p2), .val (.int p3), .val (.long j1), .second, .val (.long j2), .second, .val (.long j3), .second, .val (.ref a4), .val (.int (3 : Int32)), .val (.int (0 : Int32)), .val (.ref x12), .val (.ref a300), .val (.int (1 : Int32)), .val (.ref x12), .val (.ref x12)] [(.int (1 : Int32))])
      refine Wk.ifNo X354 hx (hb hby at_275) rfl ((if0 _ _).trans (feq (by decide : ¬ ((1 : Int32) = (0 : Int32)))).1) ?_
      refine Wk.iconst X354 hx (v := (1 : Int32)) (hb hby at_278) rfl rfl ?_
      refine Wk.goto X354 hx (hb hby at_279) (by decide) (q := 283) rfl ?_
      refine Wk.istore X354 hx (Ls' := #[.val (.int p0), .val (.int p1), .val (.int p2), .val (.int p3), .val (.long j1), .second, .val (.long j2), .second, .val (.long j3), .second, .val (.ref a4), .val (.int (3 : Int32)), .val (.int (0 : Int32)), .val (.ref x12), .val (.ref a300), .val (.int (1 : Int32)), .val (.ref x12), .val (.ref x12)]) (hb hby at_283) rfl rfl ?_
      refine Wk.iload X354 hx (hb hby at_285) rfl rfl ?_
      exact Wk.retZ' X354 hx hlk hr (by simp) (hb hby at_287) (by decide) (by decide) (Qc := Q_rm_law Z p0 p1 p2 p3 u vr_ ed h0) e354 ⟨rfl, N354, KK349⟩
    · skip
      refine Wk.istore X298 hx (Ls' := #[.val (.int p0), .val (.int p1), .val (.int p2), .val (.int p3), .val (.long j1), .second, .val (.long j2), .second, .val (.long j3), .second, .val (.ref a4), .val (.int (3 : Int32)), .val (.int (1 : Int32)), .unset, .unset, .unset, .unset, .unset]) (hb hby at_72) rfl rfl ?_
      refine Wk.iload X298 hx (hb hby at_74) rfl rfl ?_
      refine Wk.iload X298 hx (hb hby at_76) rfl rfl ?_
      refine Wk.icmpNo X298 hx (hb hby at_78) rfl (tlt (by decide : (1 : Int32) < (3 : Int32))).2.1 ?_
      refine Wk.aload X298 hx (hb hby at_81) rfl rfl rfl ?_
      refine Wk.iload X298 hx (hb hby at_83) rfl rfl ?_
      refine Wk.aaload X298 hx hZ e298 (C := (.object "java/time/LocalDate")) V40 (by decide) (by decide) (v := (.ref x24)) rfl rfl (hb hby at_85) rfl ?_
      refine Wk.goto X298 hx (hb hby at_86) (by decide) (q := 90) rfl ?_
      refine Wk.astore X298 hx (Ls' := #[.val (.int p0), .val (.int p1), .val (.int p2), .val (.int p3), .val (.long j1), .second, .val (.long j2), .second, .val (.long j3), .second, .val (.ref a4), .val (.int (3 : Int32)), .val (.int (1 : Int32)), .val (.ref x24), .unset, .unset, .unset, .unset]) (hb hby at_90) rfl rfl rfl ?_
      refine Wk.new X298 hx hZ hown (w 73 _ rfl) (w 74 _ rfl) (w 75 _ rfl) e298 (hb hby at_92) rfl (by decide) (by decide) ?_
      intro T355 h355 a355 g355 X355 e355 E355 A355 D355
      have O356 : Old Z Z.heap.size h355 := O41.ext E355
      have f357 : Fld Z h355 a355 "com/example/accumulus/accumulus/account/LoanAccount" "loans" "Ljava/util/List;" .null := D355 (Or.inr (w 105 _ rfl)) (ty := (.object "java/util/List")) (by decide)
      have f358 : Fld Z h355 a355 "com/example/accumulus/accumulus/account/LoanAccount" "waiting" "Ljava/util/ArrayDeque;" .null := D355 (Or.inr (w 119 _ rfl)) (ty := (.object "java/util/ArrayDeque")) (by decide)
      refine Wk.dup X355 hx (hb hby at_95) rfl rfl ?_
      refine Wk.callI X355 hx hZ rfl hown (w 76 _ rfl) (w 77 _ rfl) (w 78 _ rfl) (by decide) (as' := []) (backOf (W := 1) (rm_lai l Z a0 hw [] a355 ed h355 O356 A355 f357 f358 (Nat.le_trans (Nat.le_trans (Nat.le_trans (Nat.le_of_eq O0.1.symm) O0.2.1) KK299.1) (Nat.le_of_eq g355)) sD) hZ (w 78 _ rfl) (w 75 _ rfl) (by decide) (by decide)) e355 (by rw [hml]; rfl) (rest := [(.ref a355)]) (lenOf pd12 rfl) rfl (Nat.le_of_eq rfl) (hb hby at_96) rfl (by decide) (by decide) ?_
      intro T359 h359 v359 L359 X359 e359 hQ359
      obtain ⟨d359, el359, kE359, rfl, Nq359, K359, q359_0, q359_1, q359_2, q359_3, q359_4, q359_5, q359_6, q359_7, q359_8, q359_9⟩ := hQ359
      have KK360 : Keep h0 h355 [] := (KK299.ext E355)
      have N359 := Fk.app N298 Nq359 KK360.1 (allS (Or.inr (Nat.le_trans KK299.1 (Nat.le_of_eq g355))) all0)
      have O361 : Old Z Z.heap.size h359 := O356.keep K359 (allS (Nat.le_trans (Nat.le_trans (Nat.le_trans (Nat.le_of_eq O0.1.symm) O0.2.1) KK299.1) (Nat.le_of_eq g355)) all0)
      show Wp p e below _ _ T359 (mkF m 99 #[.val (.int p0), .val (.int p1), .val (.int p2), .val (.int p3), .val (.long j1), .second, .val (.long j2), .second, .val (.long j3), .second, .val (.ref a4), .val (.int (3 : Int32)), .val (.int (1 : Int32)), .val (.ref x24), .unset, .unset, .unset, .unset] [(.ref a355)])
      refine Wk.astore X359 hx (Ls' := #[.val (.int p0), .val (.int p1), .val (.int p2), .val (.int p3), .val (.long j1), .second, .val (.long j2), .second, .val (.long j3), .second, .val (.ref a4), .val (.int (3 : Int32)), .val (.int (1 : Int32)), .val (.ref x24), .val (.ref a355), .unset, .unset, .unset]) (hb hby at_99) rfl rfl rfl ?_
      refine Wk.aload X359 hx (hb hby at_101) rfl rfl rfl ?_
      refine Wk.callV X359 hx hZ (y := (⟨"com/example/accumulus/accumulus/account/LoanAccount", "nextWaitingDay", "()Ljava/time/LocalDate;"⟩ : MethodName)) (z := (⟨"com/example/accumulus/accumulus/account/LoanAccount", "nextWaitingDay", "()Ljava/time/LocalDate;"⟩ : MethodName)) hown (w 120 _ rfl) (w 121 _ rfl) (notFace_of_selects (args := #[]) (mvT hZ (w 123 _ rfl))) (w 123 _ rfl) (w 122 _ rfl) (by decide) (as' := []) (backOf (W := 0) (rm_nwN l Z a0 hw [] a355 d359 el359 (0 : Int32) kE359 [.null, .null, .null, .null, .null, .null, .null, .null, .null, .null, .null, .null, .null, .null, .null, .null, .null] h359 O361 q359_3 q359_5 q359_6 q359_7 q359_9 (by first | assumption | rfl | decide | exact Nat.le_of_ble_eq_true rfl) (by first | assumption | rfl | decide | exact Nat.le_of_ble_eq_true rfl) (by first | assumption | rfl | decide | exact Nat.le_of_ble_eq_true rfl)) hZ (w 124 _ rfl) (w 75 _ rfl) (by decide) (by decide)) e359 q359_2 (by rw [hml]; rfl) (rest := []) (lenOf pd25 rfl) rfl (Nat.le_of_eq rfl) (hb hby at_103) rfl (by decide) (by decide) ?_
      intro T362 h362 v362 L362 X362 e362 hQ362
      obtain ⟨rfl, Nq362, K362⟩ := hQ362
      have KK363 : Keep h0 h359 [] := (KK360.trans K359 (allS (Or.inr (Nat.le_trans KK299.1 (Nat.le_of_eq g355))) all0))
      have N362 := Fk.app N359 Nq362 KK363.1 all0
      rw [K362] at e362
      show Wp p e below _ _ T362 (mkF m 106 #[.val (.int p0), .val (.int p1), .val (.int p2), .val (.int p3), .val (.long j1), .second, .val (.long j2), .second, .val (.long j3), .second, .val (.ref a4), .val (.int (3 : Int32)), .val (.int (1 : Int32)), .val (.ref x24), .val (.ref a355), .unset, .unset, .unset] [.null])
      refine Wk.ifnonnullNo X362 hx (hb hby at_106) rfl ?_
      refine Wk.iconst X362 hx (v := (1 : Int32)) (hb hby at_109) rfl rfl ?_
      refine Wk.goto X362 hx (hb hby at_110) (by decide) (q := 114) rfl ?_
      refine Wk.istore X362 hx (Ls' := #[.val (.int p0), .val (.int p1), .val (.int p2), .val (.int p3), .val (.long j1), .second, .val (.long j2), .second, .val (.long j3), .second, .val (.ref a4), .val (.int (3 : Int32)), .val (.int (1 : Int32)), .val (.ref x24), .val (.ref a355), .val (.int (1 : Int32)), .unset, .unset]) (hb hby at_114) rfl rfl ?_
      refine Wk.iload X362 hx (hb hby at_116) rfl rfl ?_
      refine Wk.iconst X362 hx (v := (1 : Int32)) (hb hby at_118) rfl rfl ?_
      refine Wk.icmpNo X362 hx (hb hby at_119) rfl (flt (by decide : ¬ ((3 : Int32) < (1 : Int32)))).1 ?_
      refine Wk.aload X362 hx (hb hby at_122) rfl rfl rfl ?_
      refine Wk.aconstNull X362 hx (hb hby at_124) rfl ?_
      refine Wk.aload X362 hx (hb hby at_125) rfl rfl rfl ?_
      refine Wk.iconst X362 hx (v := (0 : Int32)) (hb hby at_127) rfl rfl ?_
      have KK364 : Keep h40 h359 [] := (((Keep.refl h40 []).ext E355).trans K359 (allS (Or.inr (Nat.le_of_eq g355)) all0))
      have f365 : Arv Z h359 a4 kA4 (.object "java/time/LocalDate") (3 : Int32) [(.ref x12), (.ref x24), (.ref x36)] .null := (V40.keep KK364 nin0)
      refine Wk.aaload X362 hx hZ e362 (C := (.object "java/time/LocalDate")) f365 (by decide) (by decide) (v := (.ref x12)) rfl rfl (hb hby at_128) rfl ?_
      refine Wk.callV X362 hx hZ (y := (⟨"com/example/accumulus/accumulus/account/LoanAccount", "await", "(Lcom/example/accumulus/accumulus/journal/JournalEntry;Ljava/time/LocalDate;)V"⟩ : MethodName)) (z := (⟨"com/example/accumulus/accumulus/account/LoanAccount", "await", "(Lcom/example/accumulus/accumulus/journal/JournalEntry;Ljava/time/LocalDate;)V"⟩ : MethodName)) hown (w 140 _ rfl) (w 141 _ rfl) (notFace_of_selects (args := #[]) (mvT hZ (w 143 _ rfl))) (w 143 _ rfl) (w 142 _ rfl) (by decide) (as' := [.null, (.ref x12)]) (backOf (W := 0) (rm_awt l Z a0 hw [] a355 d359 el359 (0 : Int32) (0 : Int32) (1 : Int32) kE359 [.null, .null, .null, .null, .null, .null, .null, .null, .null, .null, .null, .null, .null, .null, .null, .null, .null] x12 h359 O361 q359_3 q359_5 q359_6 q359_7 q359_8 q359_9 (by first | assumption | rfl | decide | exact Nat.le_of_ble_eq_true rfl) (by first | assumption | rfl | decide | exact Nat.le_of_ble_eq_true rfl) (by first | assumption | rfl | decide | exact Nat.le_of_ble_eq_true rfl) (by first | assumption | rfl | decide | exact Nat.le_of_ble_eq_true rfl) (by first | assumption | rfl | decide | exact Nat.le_of_ble_eq_true rfl) (by first | assumption | rfl | decide | exact Nat.le_of_ble_eq_true rfl) (Nat.le_trans (Nat.le_trans (Nat.le_trans (Nat.le_of_eq O0.1.symm) O0.2.1) KK360.1) q359_0) (Nat.le_trans (Nat.le_trans (Nat.le_trans (Nat.le_of_eq O0.1.symm) O0.2.1) KK360.1) q359_1) q359_4) hZ (w 144 _ rfl) (w 75 _ rfl) (by decide) (by decide)) e362 q359_2 (by rw [hml]; rfl) (rest := []) (lenOf pd21 rfl) rfl (Nat.le_of_eq rfl) (hb hby at_129) rfl (by decide) (by decide) ?_
      intro T366 h366 v366 L366 X366 e366 hQ366
      obtain ⟨w_366, rfl, Nq366, K366, q366_0, q366_1, q366_2, q366_3, q366_4, q366_5, q366_6, q366_7, q366_8⟩ := hQ366
      have N366 := Fk.app N362 Nq366 KK363.1 (allS (Or.inr (Nat.le_trans KK360.1 q359_0)) (allS (Or.inr (Nat.le_trans KK360.1 q359_1)) all0))
      have O367 : Old Z Z.heap.size h366 := O361.keep K366 (allS (Nat.le_trans (Nat.le_trans (Nat.le_trans (Nat.le_of_eq O0.1.symm) O0.2.1) KK360.1) q359_0) (allS (Nat.le_trans (Nat.le_trans (Nat.le_trans (Nat.le_of_eq O0.1.symm) O0.2.1) KK360.1) q359_1) all0))
      have Vl368 : Arv Z h366 el359 kE359 (.object "java/lang/Object") (17 : Int32) [(.ref w_366), .null, .null, .null, .null, .null, .null, .null, .null, .null, .null, .null, .null, .null, .null, .null, .null] .null := q366_8
      show Wp p e below _ _ T366 (mkF m 132 #[.val (.int p0), .val (.int p1), .val (.int p2), .val (.int p3), .val (.long j1), .second, .val (.long j2), .second, .val (.long j3), .second, .val (.ref a4), .val (.int (3 : Int32)), .val (.int (1 : Int32)), .val (.ref x24), .val (.ref a355), .val (.int (1 : Int32)), .unset, .unset] [])
      refine Wk.iload X366 hx (hb hby at_132) rfl rfl ?_
      refine Wk.ifNo X366 hx (hb hby at_134) rfl ((if0 _ _).trans (feq (by decide : ¬ ((1 : Int32) = (0 : Int32)))).1) ?_
      refine Wk.aload X366 hx (hb hby at_137) rfl rfl rfl ?_
      have KK369 : Keep h359 h366 [d359, el359] := ((Keep.refl h359 [d359, el359]).trans K366 (allS (Or.inl (List.mem_of_getElem? (i := 0) rfl)) (allS (Or.inl (List.mem_of_getElem? (i := 1) rfl)) all0)))
      have f370 : Fld Z h366 a355 "com/example/accumulus/accumulus/account/LoanAccount" "waiting" "Ljava/util/ArrayDeque;" (.ref d359) := (q359_3.keep KK369 (ninS (Nat.ne_of_lt (Nat.lt_of_lt_of_le A355.lt q359_0)) (ninS (Nat.ne_of_lt (Nat.lt_of_lt_of_le A355.lt q359_1)) nin0)))
      have KK372 : Keep h355 h366 [a355] := (((Keep.refl h355 [a355]).trans K359 (allS (Or.inl (List.mem_of_getElem? (i := 0) rfl)) all0)).trans K366 (allS (Or.inr q359_0) (allS (Or.inr q359_1) all0)))
      have f373 : Exa Z h366 a355 "com/example/accumulus/accumulus/account/LoanAccount" := (A355.keep KK372)
      refine Wk.callV X366 hx hZ (y := (⟨"com/example/accumulus/accumulus/account/LoanAccount", "nextWaitingDay", "()Ljava/time/LocalDate;"⟩ : MethodName)) (z := (⟨"com/example/accumulus/accumulus/account/LoanAccount", "nextWaitingDay", "()Ljava/time/LocalDate;"⟩ : MethodName)) hown (w 120 _ rfl) (w 121 _ rfl) (notFace_of_selects (args := #[]) (mvT hZ (w 123 _ rfl))) (w 123 _ rfl) (w 122 _ rfl) (by decide) (as' := []) (backOf (W := 0) (rm_nwR l Z a0 hw [] a355 d359 el359 (0 : Int32) kE359 [(.ref w_366), .null, .null, .null, .null, .null, .null, .null, .null, .null, .null, .null, .null, .null, .null, .null, .null] w_366 x12 h366 O367 f370 q366_4 q366_5 q366_6 Vl368 (by first | assumption | rfl | decide | exact Nat.le_of_ble_eq_true rfl) (by first | assumption | rfl | decide | exact Nat.le_of_ble_eq_true rfl) (by first | assumption | rfl | decide | exact Nat.le_of_ble_eq_true rfl) q366_1 q366_2) hZ (w 124 _ rfl) (w 75 _ rfl) (by decide) (by decide)) e366 f373 (by rw [hml]; rfl) (rest := []) (lenOf pd25 rfl) rfl (Nat.le_of_eq rfl) (hb hby at_139) rfl (by decide) (by decide) ?_
      intro T371 h371 v371 L371 X371 e371 hQ371
      obtain ⟨rfl, Nq371, K371⟩ := hQ371
      have KK374 : Keep h0 h366 [] := (KK363.trans K366 (allS (Or.inr (Nat.le_trans KK360.1 q359_0)) (allS (Or.inr (Nat.le_trans KK360.1 q359_1)) all0)))
      have N371 := Fk.app N366 Nq371 KK374.1 all0
      rw [K371] at e371
      show Wp p e below _ _ T371 (mkF m 142 #[.val (.int p0), .val (.int p1), .val (.int p2), .val (.int p3), .val (.long j1), .second, .val (.long j2), .second, .val (.long j3), .second, .val (.ref a4), .val (.int (3 : Int32)), .val (.int (1 : Int32)), .val (.ref x24), .val (.ref a355), .val (.int (1 : Int32)), .unset, .unset] [(.ref x12)])
      refine Wk.aload X371 hx (hb hby at_142) rfl rfl rfl ?_
      refine Wk.iconst X371 hx (v := (0 : Int32)) (hb hby at_144) rfl rfl ?_
      have KK375 : Keep h40 h355 [] := ((Keep.refl h40 []).ext E355)
      have KK376 : Keep h40 h366 [] := (KK364.trans K366 (allS (Or.inr (Nat.le_trans KK375.1 q359_0)) (allS (Or.inr (Nat.le_trans KK375.1 q359_1)) all0)))
      have f377 : Arv Z h366 a4 kA4 (.object "java/time/LocalDate") (3 : Int32) [(.ref x12), (.ref x24), (.ref x36)] .null := (V40.keep KK376 nin0)
      refine Wk.aaload X371 hx hZ e371 (C := (.object "java/time/LocalDate")) f377 (by decide) (by decide) (v := (.ref x12)) rfl rfl (hb hby at_145) rfl ?_
      have KK378 : Keep h12 h40 [a4] := ((((((Keep.refl h12 [a4]).wr W16 (Or.inl (List.mem_of_getElem? (i := 0) rfl))).trans K24 all0).wr W28 (Or.inl (List.mem_of_getElem? (i := 0) rfl))).trans K36 all0).wr W40 (Or.inl (List.mem_of_getElem? (i := 0) rfl)))
      have KK379 : Keep h12 h355 [a4] := (KK378.ext E355)
      have KK380 : Keep h12 h366 [a4] := (((((((((Keep.refl h12 [a4]).wr W16 (Or.inl (List.mem_of_getElem? (i := 0) rfl))).trans K24 all0).wr W28 (Or.inl (List.mem_of_getElem? (i := 0) rfl))).trans K36 all0).wr W40 (Or.inl (List.mem_of_getElem? (i := 0) rfl))).ext E355).trans K359 (allS (Or.inr (Nat.le_trans KK378.1 (Nat.le_of_eq g355))) all0)).trans K366 (allS (Or.inr (Nat.le_trans KK379.1 q359_0)) (allS (Or.inr (Nat.le_trans KK379.1 q359_1)) all0)))
      have f381 : Exa Z h366 x12 "java/time/LocalDate" := (q12_1.keep KK380)
      refine Wk.callS X371 hx hZ hown (w 174 _ rfl) (w 175 _ rfl) (w 176 _ rfl) (w 177 _ rfl) (by decide) (as' := [(.ref x12), (.ref x12)]) (backOf (W := 0) (rm_smR l Z a0 hw [] x12 h366 O367 f381) hZ (w 177 _ rfl) (w 176 _ rfl) (by decide) (by decide)) e371 (by rw [hml]; rfl) (rest := []) (lenOf pd26 rfl) rfl (Nat.le_of_eq rfl) (hb hby at_146) rfl (by decide) (by decide) ?_
      intro T382 h382 v382 L382 X382 e382 hQ382
      obtain ⟨rfl, Nq382, K382⟩ := hQ382
      have N382 := Fk.app N371 Nq382 KK374.1 all0
      rw [K382] at e382
      show Wp p e below _ _ T382 (mkF m 149 #[.val (.int p0), .val (.int p1), .val (.int p2), .val (.int p3), .val (.long j1), .second, .val (.long j2), .second, .val (.long j3), .second, .val (.ref a4), .val (.int (3 : Int32)), .val (.int (1 : Int32)), .val (.ref x24), .val (.ref a355), .val (.int (1 : Int32)), .unset, .unset] [(.int (1 : Int32))])
      refine Wk.ifNo X382 hx (hb hby at_149) rfl ((if0 _ _).trans (feq (by decide : ¬ ((1 : Int32) = (0 : Int32)))).1) ?_
      refine Wk.iconst X382 hx (v := (1 : Int32)) (hb hby at_152) rfl rfl ?_
      refine Wk.goto X382 hx (hb hby at_153) (by decide) (q := 157) rfl ?_
      refine Wk.istore X382 hx (Ls' := #[.val (.int p0), .val (.int p1), .val (.int p2), .val (.int p3), .val (.long j1), .second, .val (.long j2), .second, .val (.long j3), .second, .val (.ref a4), .val (.int (3 : Int32)), .val (.int (1 : Int32)), .val (.ref x24), .val (.ref a355), .val (.int (1 : Int32)), .unset, .unset]) (hb hby at_157) rfl rfl ?_
      refine Wk.iload X382 hx (hb hby at_159) rfl rfl ?_
      refine Wk.iconst X382 hx (v := (2 : Int32)) (hb hby at_161) rfl rfl ?_
      refine Wk.icmpNo X382 hx (hb hby at_162) rfl (flt (by decide : ¬ ((3 : Int32) < (2 : Int32)))).1 ?_
      refine Wk.aload X382 hx (hb hby at_165) rfl rfl rfl ?_
      refine Wk.aconstNull X382 hx (hb hby at_167) rfl ?_
      refine Wk.aload X382 hx (hb hby at_168) rfl rfl rfl ?_
      refine Wk.iconst X382 hx (v := (1 : Int32)) (hb hby at_170) rfl rfl ?_
      refine Wk.aaload X382 hx hZ e382 (C := (.object "java/time/LocalDate")) f377 (by decide) (by decide) (v := (.ref x24)) rfl rfl (hb hby at_171) rfl ?_
      refine Wk.callV X382 hx hZ (y := (⟨"com/example/accumulus/accumulus/account/LoanAccount", "await", "(Lcom/example/accumulus/accumulus/journal/JournalEntry;Ljava/time/LocalDate;)V"⟩ : MethodName)) (z := (⟨"com/example/accumulus/accumulus/account/LoanAccount", "await", "(Lcom/example/accumulus/accumulus/journal/JournalEntry;Ljava/time/LocalDate;)V"⟩ : MethodName)) hown (w 140 _ rfl) (w 141 _ rfl) (notFace_of_selects (args := #[]) (mvT hZ (w 143 _ rfl))) (w 143 _ rfl) (w 142 _ rfl) (by decide) (as' := [.null, (.ref x24)]) (backOf (W := 0) (rm_awt l Z a0 hw [] a355 d359 el359 (0 : Int32) (1 : Int32) (2 : Int32) kE359 [(.ref w_366), .null, .null, .null, .null, .null, .null, .null, .null, .null, .null, .null, .null, .null, .null, .null, .null] x24 h366 O367 f370 q366_4 q366_5 q366_6 q366_7 Vl368 (by first | assumption | rfl | decide | exact Nat.le_of_ble_eq_true rfl) (by first | assumption | rfl | decide | exact Nat.le_of_ble_eq_true rfl) (by first | assumption | rfl | decide | exact Nat.le_of_ble_eq_true rfl) (by first | assumption | rfl | decide | exact Nat.le_of_ble_eq_true rfl) (by first | assumption | rfl | decide | exact Nat.le_of_ble_eq_true rfl) (by first | assumption | rfl | decide | exact Nat.le_of_ble_eq_true rfl) (Nat.le_trans (Nat.le_trans (Nat.le_trans (Nat.le_of_eq O0.1.symm) O0.2.1) KK360.1) q359_0) (Nat.le_trans (Nat.le_trans (Nat.le_trans (Nat.le_of_eq O0.1.symm) O0.2.1) KK360.1) q359_1) q359_4) hZ (w 144 _ rfl) (w 75 _ rfl) (by decide) (by decide)) e382 f373 (by rw [hml]; rfl) (rest := []) (lenOf pd21 rfl) rfl (Nat.le_of_eq rfl) (hb hby at_172) rfl (by decide) (by decide) ?_
      intro T383 h383 v383 L383 X383 e383 hQ383
      obtain ⟨w_383, rfl, Nq383, K383, q383_0, q383_1, q383_2, q383_3, q383_4, q383_5, q383_6, q383_7, q383_8⟩ := hQ383
      have N383 := Fk.app N382 Nq383 KK374.1 (allS (Or.inr (Nat.le_trans KK360.1 q359_0)) (allS (Or.inr (Nat.le_trans KK360.1 q359_1)) all0))
      have O384 : Old Z Z.heap.size h383 := O367.keep K383 (allS (Nat.le_trans (Nat.le_trans (Nat.le_trans (Nat.le_of_eq O0.1.symm) O0.2.1) KK360.1) q359_0) (allS (Nat.le_trans (Nat.le_trans (Nat.le_trans (Nat.le_of_eq O0.1.symm) O0.2.1) KK360.1) q359_1) all0))
      have Vl385 : Arv Z h383 el359 kE359 (.object "java/lang/Object") (17 : Int32) [(.ref w_366), (.ref w_383), .null, .null, .null, .null, .null, .null, .null, .null, .null, .null, .null, .null, .null, .null, .null] .null := q383_8
      show Wp p e below _ _ T383 (mkF m 175 #[.val (.int p0), .val (.int p1), .val (.int p2), .val (.int p3), .val (.long j1), .second, .val (.long j2), .second, .val (.long j3), .second, .val (.ref a4), .val (.int (3 : Int32)), .val (.int (1 : Int32)), .val (.ref x24), .val (.ref a355), .val (.int (1 : Int32)), .unset, .unset] [])
      refine Wk.iload X383 hx (hb hby at_175) rfl rfl ?_
      refine Wk.iconst X383 hx (v := (3 : Int32)) (hb hby at_177) rfl rfl ?_
      refine Wk.icmpNo X383 hx (hb hby at_178) rfl (flt (by decide : ¬ ((3 : Int32) < (3 : Int32)))).1 ?_
      refine Wk.aload X383 hx (hb hby at_181) rfl rfl rfl ?_
      refine Wk.aconstNull X383 hx (hb hby at_183) rfl ?_
      refine Wk.aload X383 hx (hb hby at_184) rfl rfl rfl ?_
      refine Wk.iconst X383 hx (v := (2 : Int32)) (hb hby at_186) rfl rfl ?_
      have KK386 : Keep h40 h383 [] := (KK376.trans K383 (allS (Or.inr (Nat.le_trans KK375.1 q359_0)) (allS (Or.inr (Nat.le_trans KK375.1 q359_1)) all0)))
      have f387 : Arv Z h383 a4 kA4 (.object "java/time/LocalDate") (3 : Int32) [(.ref x12), (.ref x24), (.ref x36)] .null := (V40.keep KK386 nin0)
      refine Wk.aaload X383 hx hZ e383 (C := (.object "java/time/LocalDate")) f387 (by decide) (by decide) (v := (.ref x36)) rfl rfl (hb hby at_187) rfl ?_
      have KK388 : Keep h366 h383 [d359, el359] := ((Keep.refl h366 [d359, el359]).trans K383 (allS (Or.inl (List.mem_of_getElem? (i := 0) rfl)) (allS (Or.inl (List.mem_of_getElem? (i := 1) rfl)) all0)))
      have f389 : Fld Z h383 a355 "com/example/accumulus/accumulus/account/LoanAccount" "waiting" "Ljava/util/ArrayDeque;" (.ref d359) := (f370.keep KK388 (ninS (Nat.ne_of_lt (Nat.lt_of_lt_of_le A355.lt q359_0)) (ninS (Nat.ne_of_lt (Nat.lt_of_lt_of_le A355.lt q359_1)) nin0)))
      have KK391 : Keep h355 h383 [a355] := (KK372.trans K383 (allS (Or.inr q359_0) (allS (Or.inr q359_1) all0)))
      have f392 : Exa Z h383 a355 "com/example/accumulus/accumulus/account/LoanAccount" := (A355.keep KK391)
      refine Wk.callV X383 hx hZ (y := (⟨"com/example/accumulus/accumulus/account/LoanAccount", "await", "(Lcom/example/accumulus/accumulus/journal/JournalEntry;Ljava/time/LocalDate;)V"⟩ : MethodName)) (z := (⟨"com/example/accumulus/accumulus/account/LoanAccount", "await", "(Lcom/example/accumulus/accumulus/journal/JournalEntry;Ljava/time/LocalDate;)V"⟩ : MethodName)) hown (w 140 _ rfl) (w 141 _ rfl) (notFace_of_selects (args := #[]) (mvT hZ (w 143 _ rfl))) (w 143 _ rfl) (w 142 _ rfl) (by decide) (as' := [.null, (.ref x36)]) (backOf (W := 0) (rm_awt l Z a0 hw [] a355 d359 el359 (0 : Int32) (2 : Int32) (3 : Int32) kE359 [(.ref w_366), (.ref w_383), .null, .null, .null, .null, .null, .null, .null, .null, .null, .null, .null, .null, .null, .null, .null] x36 h383 O384 f389 q383_4 q383_5 q383_6 q383_7 Vl385 (by first | assumption | rfl | decide | exact Nat.le_of_ble_eq_true rfl) (by first | assumption | rfl | decide | exact Nat.le_of_ble_eq_true rfl) (by first | assumption | rfl | decide | exact Nat.le_of_ble_eq_true rfl) (by first | assumption | rfl | decide | exact Nat.le_of_ble_eq_true rfl) (by first | assumption | rfl | decide | exact Nat.le_of_ble_eq_true rfl) (by first | assumption | rfl | decide | exact Nat.le_of_ble_eq_true rfl) (Nat.le_trans (Nat.le_trans (Nat.le_trans (Nat.le_of_eq O0.1.symm) O0.2.1) KK360.1) q359_0) (Nat.le_trans (Nat.le_trans (Nat.le_trans (Nat.le_of_eq O0.1.symm) O0.2.1) KK360.1) q359_1) q359_4) hZ (w 144 _ rfl) (w 75 _ rfl) (by decide) (by decide)) e383 f392 (by rw [hml]; rfl) (rest := []) (lenOf pd21 rfl) rfl (Nat.le_of_eq rfl) (hb hby at_188) rfl (by decide) (by decide) ?_
      intro T390 h390 v390 L390 X390 e390 hQ390
      obtain ⟨w_390, rfl, Nq390, K390, q390_0, q390_1, q390_2, q390_3, q390_4, q390_5, q390_6, q390_7, q390_8⟩ := hQ390
      have KK393 : Keep h0 h383 [] := (KK374.trans K383 (allS (Or.inr (Nat.le_trans KK360.1 q359_0)) (allS (Or.inr (Nat.le_trans KK360.1 q359_1)) all0)))
      have N390 := Fk.app N383 Nq390 KK393.1 (allS (Or.inr (Nat.le_trans KK360.1 q359_0)) (allS (Or.inr (Nat.le_trans KK360.1 q359_1)) all0))
      have O394 : Old Z Z.heap.size h390 := O384.keep K390 (allS (Nat.le_trans (Nat.le_trans (Nat.le_trans (Nat.le_of_eq O0.1.symm) O0.2.1) KK360.1) q359_0) (allS (Nat.le_trans (Nat.le_trans (Nat.le_trans (Nat.le_of_eq O0.1.symm) O0.2.1) KK360.1) q359_1) all0))
      have Vl395 : Arv Z h390 el359 kE359 (.object "java/lang/Object") (17 : Int32) [(.ref w_366), (.ref w_383), (.ref w_390), .null, .null, .null, .null, .null, .null, .null, .null, .null, .null, .null, .null, .null, .null] .null := q390_8
      show Wp p e below _ _ T390 (mkF m 191 #[.val (.int p0), .val (.int p1), .val (.int p2), .val (.int p3), .val (.long j1), .second, .val (.long j2), .second, .val (.long j3), .second, .val (.ref a4), .val (.int (3 : Int32)), .val (.int (1 : Int32)), .val (.ref x24), .val (.ref a355), .val (.int (1 : Int32)), .unset, .unset] [])
      refine Wk.iload X390 hx (hb hby at_191) rfl rfl ?_
      refine Wk.iconst X390 hx (v := (1 : Int32)) (hb hby at_193) rfl rfl ?_
      refine Wk.icmpNo X390 hx (hb hby at_194) rfl (flt (by decide : ¬ ((1 : Int32) < (1 : Int32)))).1 ?_
      refine Wk.aload X390 hx (hb hby at_197) rfl rfl rfl ?_
      have KK396 : Keep h383 h390 [d359, el359] := ((Keep.refl h383 [d359, el359]).trans K390 (allS (Or.inl (List.mem_of_getElem? (i := 0) rfl)) (allS (Or.inl (List.mem_of_getElem? (i := 1) rfl)) all0)))
      have f397 : Fld Z h390 a355 "com/example/accumulus/accumulus/account/LoanAccount" "waiting" "Ljava/util/ArrayDeque;" (.ref d359) := (f389.keep KK396 (ninS (Nat.ne_of_lt (Nat.lt_of_lt_of_le A355.lt q359_0)) (ninS (Nat.ne_of_lt (Nat.lt_of_lt_of_le A355.lt q359_1)) nin0)))
      have KK398 : Keep h366 h390 [d359, el359] := (KK388.trans K390 (allS (Or.inl (List.mem_of_getElem? (i := 0) rfl)) (allS (Or.inl (List.mem_of_getElem? (i := 1) rfl)) all0)))
      have f399 : Exa Z h390 w_366 "com/example/accumulus/accumulus/account/LoanAccount$Waiting" := (q366_1.keep KK398)
      have f400 : Fld Z h390 w_366 "com/example/accumulus/accumulus/account/LoanAccount$Waiting" "loan" "Lcom/example/accumulus/accumulus/journal/JournalEntry;" .null := (q366_3.keep KK398 (ninS (Ne.symm (Nat.ne_of_lt (Nat.lt_of_lt_of_le q359_5.lt q366_0))) (ninS (Exa.neArv f399 Vl395 (w 146 _ rfl)) nin0)))
      have KK402 : Keep h355 h390 [a355] := (KK391.trans K390 (allS (Or.inr q359_0) (allS (Or.inr q359_1) all0)))
      have f403 : Exa Z h390 a355 "com/example/accumulus/accumulus/account/LoanAccount" := (A355.keep KK402)
      refine Wk.callV X390 hx hZ (y := (⟨"com/example/accumulus/accumulus/account/LoanAccount", "takeWaiting", "()Lcom/example/accumulus/accumulus/journal/JournalEntry;"⟩ : MethodName)) (z := (⟨"com/example/accumulus/accumulus/account/LoanAccount", "takeWaiting", "()Lcom/example/accumulus/accumulus/journal/JournalEntry;"⟩ : MethodName)) hown (w 183 _ rfl) (w 184 _ rfl) (notFace_of_selects (args := #[]) (mvT hZ (w 186 _ rfl))) (w 186 _ rfl) (w 185 _ rfl) (by decide) (as' := []) (backOf (W := 0) (rm_tk l Z a0 hw [] a355 d359 el359 (0 : Int32) (1 : Int32) (3 : Int32) kE359 [(.ref w_366), (.ref w_383), (.ref w_390), .null, .null, .null, .null, .null, .null, .null, .null, .null, .null, .null, .null, .null, .null] w_366 h390 O394 f397 q390_4 q390_5 q390_6 q390_7 Vl395 (by first | assumption | rfl | decide | exact Nat.le_of_ble_eq_true rfl) (by first | assumption | rfl | decide | exact Nat.le_of_ble_eq_true rfl) (by first | assumption | rfl | decide | exact Nat.le_of_ble_eq_true rfl) (by first | assumption | rfl | decide | exact Nat.le_of_ble_eq_true rfl) (by first | assumption | rfl | decide | exact Nat.le_of_ble_eq_true rfl) (by first | assumption | rfl | decide | exact Nat.le_of_ble_eq_true rfl) (Nat.le_trans (Nat.le_trans (Nat.le_trans (Nat.le_of_eq O0.1.symm) O0.2.1) KK360.1) q359_0) (Nat.le_trans (Nat.le_trans (Nat.le_trans (Nat.le_of_eq O0.1.symm) O0.2.1) KK360.1) q359_1) q359_4 f399 f400) hZ (w 187 _ rfl) (w 75 _ rfl) (by decide) (by decide)) e390 f403 (by rw [hml]; rfl) (rest := []) (lenOf pd27 rfl) rfl (Nat.le_of_eq rfl) (hb hby at_199) rfl (by decide) (by decide) ?_
      intro T401 h401 v401 L401 X401 e401 hQ401
      obtain ⟨rfl, Nq401, K401, q401_0, q401_1, q401_2, q401_3, q401_4⟩ := hQ401
      have KK404 : Keep h0 h390 [] := (KK393.trans K390 (allS (Or.inr (Nat.le_trans KK360.1 q359_0)) (allS (Or.inr (Nat.le_trans KK360.1 q359_1)) all0)))
      have N401 := Fk.app N390 Nq401 KK404.1 (allS (Or.inr (Nat.le_trans KK360.1 q359_1)) (allS (Or.inr (Nat.le_trans KK360.1 q359_0)) all0))
      have O405 : Old Z Z.heap.size h401 := O394.keep K401 (allS (Nat.le_trans (Nat.le_trans (Nat.le_trans (Nat.le_of_eq O0.1.symm) O0.2.1) KK360.1) q359_1) (allS (Nat.le_trans (Nat.le_trans (Nat.le_trans (Nat.le_of_eq O0.1.symm) O0.2.1) KK360.1) q359_0) all0))
      have Vl406 : Arv Z h401 el359 kE359 (.object "java/lang/Object") (17 : Int32) [.null, (.ref w_383), (.ref w_390), .null, .null, .null, .null, .null, .null, .null, .null, .null, .null, .null, .null, .null, .null] .null := q401_4
      show Wp p e below _ _ T401 (mkF m 202 #[.val (.int p0), .val (.int p1), .val (.int p2), .val (.int p3), .val (.long j1), .second, .val (.long j2), .second, .val (.long j3), .second, .val (.ref a4), .val (.int (3 : Int32)), .val (.int (1 : Int32)), .val (.ref x24), .val (.ref a355), .val (.int (1 : Int32)), .unset, .unset] [.null])
      refine Wk.pop X401 hx (hb hby at_202) rfl rfl ?_
      refine Wk.iload X401 hx (hb hby at_203) rfl rfl ?_
      refine Wk.iconst X401 hx (v := (2 : Int32)) (hb hby at_205) rfl rfl ?_
      refine Wk.icmpYes X401 hx (hb hby at_206) (by decide) (q := 215) rfl (tlt (by decide : (1 : Int32) < (2 : Int32))).1 ?_
      refine Wk.iload X401 hx (hb hby at_215) rfl rfl ?_
      refine Wk.iconst X401 hx (v := (3 : Int32)) (hb hby at_217) rfl rfl ?_
      refine Wk.icmpYes X401 hx (hb hby at_218) (by decide) (q := 227) rfl (tlt (by decide : (1 : Int32) < (3 : Int32))).1 ?_
      refine Wk.aload X401 hx (hb hby at_227) rfl rfl rfl ?_
      have KK407 : Keep h390 h401 [el359, d359] := ((Keep.refl h390 [el359, d359]).trans K401 (allS (Or.inl (List.mem_of_getElem? (i := 0) rfl)) (allS (Or.inl (List.mem_of_getElem? (i := 1) rfl)) all0)))
      have f408 : Fld Z h401 a355 "com/example/accumulus/accumulus/account/LoanAccount" "waiting" "Ljava/util/ArrayDeque;" (.ref d359) := (f397.keep KK407 (ninS (Nat.ne_of_lt (Nat.lt_of_lt_of_le A355.lt q359_1)) (ninS (Nat.ne_of_lt (Nat.lt_of_lt_of_le A355.lt q359_0)) nin0)))
      have KK409 : Keep h383 h401 [d359, el359] := (KK396.trans K401 (allS (Or.inl (List.mem_of_getElem? (i := 1) rfl)) (allS (Or.inl (List.mem_of_getElem? (i := 0) rfl)) all0)))
      have f410 : Exa Z h401 w_383 "com/example/accumulus/accumulus/account/LoanAccount$Waiting" := (q383_1.keep KK409)
      have f411 : Fld Z h401 w_383 "com/example/accumulus/accumulus/account/LoanAccount$Waiting" "pricingDate" "Ljava/time/LocalDate;" (.ref x24) := (q383_2.keep KK409 (ninS (Ne.symm (Nat.ne_of_lt (Nat.lt_of_lt_of_le q366_4.lt q383_0))) (ninS (Exa.neArv f410 Vl406 (w 146 _ rfl)) nin0)))
      have KK413 : Keep h355 h401 [a355] := (KK402.trans K401 (allS (Or.inr q359_1) (allS (Or.inr q359_0) all0)))
      have f414 : Exa Z h401 a355 "com/example/accumulus/accumulus/account/LoanAccount" := (A355.keep KK413)
      refine Wk.callV X401 hx hZ (y := (⟨"com/example/accumulus/accumulus/account/LoanAccount", "nextWaitingDay", "()Ljava/time/LocalDate;"⟩ : MethodName)) (z := (⟨"com/example/accumulus/accumulus/account/LoanAccount", "nextWaitingDay", "()Ljava/time/LocalDate;"⟩ : MethodName)) hown (w 120 _ rfl) (w 121 _ rfl) (notFace_of_selects (args := #[]) (mvT hZ (w 123 _ rfl))) (w 123 _ rfl) (w 122 _ rfl) (by decide) (as' := []) (backOf (W := 0) (rm_nwR l Z a0 hw [] a355 d359 el359 (1 : Int32) kE359 [.null, (.ref w_383), (.ref w_390), .null, .null, .null, .null, .null, .null, .null, .null, .null, .null, .null, .null, .null, .null] w_383 x24 h401 O405 f408 q401_0 q401_1 q401_2 Vl406 (by first | assumption | rfl | decide | exact Nat.le_of_ble_eq_true rfl) (by first | assumption | rfl | decide | exact Nat.le_of_ble_eq_true rfl) (by first | assumption | rfl | decide | exact Nat.le_of_ble_eq_true rfl) f410 f411) hZ (w 124 _ rfl) (w 75 _ rfl) (by decide) (by decide)) e401 f414 (by rw [hml]; rfl) (rest := []) (lenOf pd25 rfl) rfl (Nat.le_of_eq rfl) (hb hby at_229) rfl (by decide) (by decide) ?_
      intro T412 h412 v412 L412 X412 e412 hQ412
      obtain ⟨rfl, Nq412, K412⟩ := hQ412
      have KK415 : Keep h0 h401 [] := (KK404.trans K401 (allS (Or.inr (Nat.le_trans KK360.1 q359_1)) (allS (Or.inr (Nat.le_trans KK360.1 q359_0)) all0)))
      have N412 := Fk.app N401 Nq412 KK415.1 all0
      rw [K412] at e412
      show Wp p e below _ _ T412 (mkF m 232 #[.val (.int p0), .val (.int p1), .val (.int p2), .val (.int p3), .val (.long j1), .second, .val (.long j2), .second, .val (.long j3), .second, .val (.ref a4), .val (.int (3 : Int32)), .val (.int (1 : Int32)), .val (.ref x24), .val (.ref a355), .val (.int (1 : Int32)), .unset, .unset] [(.ref x24)])
      refine Wk.astore X412 hx (Ls' := #[.val (.int p0), .val (.int p1), .val (.int p2), .val (.int p3), .val (.long j1), .second, .val (.long j2), .second, .val (.long j3), .second, .val (.ref a4), .val (.int (3 : Int32)), .val (.int (1 : Int32)), .val (.ref x24), .val (.ref a355), .val (.int (1 : Int32)), .val (.ref x24), .unset]) (hb hby at_232) rfl rfl rfl ?_
      refine Wk.iload X412 hx (hb hby at_234) rfl rfl ?_
      refine Wk.ifNo X412 hx (hb hby at_236) rfl ((if0 _ _).trans (feq (by decide : ¬ ((1 : Int32) = (0 : Int32)))).1) ?_
      refine Wk.aload X412 hx (hb hby at_239) rfl rfl rfl ?_
      refine Wk.aload X412 hx (hb hby at_241) rfl rfl rfl ?_
      have KK416 : Keep h24 h40 [a4] := ((((Keep.refl h24 [a4]).wr W28 (Or.inl (List.mem_of_getElem? (i := 0) rfl))).trans K36 all0).wr W40 (Or.inl (List.mem_of_getElem? (i := 0) rfl)))
      have KK417 : Keep h24 h355 [a4] := (KK416.ext E355)
      have KK418 : Keep h24 h401 [a4] := ((((((((((Keep.refl h24 [a4]).wr W28 (Or.inl (List.mem_of_getElem? (i := 0) rfl))).trans K36 all0).wr W40 (Or.inl (List.mem_of_getElem? (i := 0) rfl))).ext E355).trans K359 (allS (Or.inr (Nat.le_trans KK416.1 (Nat.le_of_eq g355))) all0)).trans K366 (allS (Or.inr (Nat.le_trans KK417.1 q359_0)) (allS (Or.inr (Nat.le_trans KK417.1 q359_1)) all0))).trans K383 (allS (Or.inr (Nat.le_trans KK417.1 q359_0)) (allS (Or.inr (Nat.le_trans KK417.1 q359_1)) all0))).trans K390 (allS (Or.inr (Nat.le_trans KK417.1 q359_0)) (allS (Or.inr (Nat.le_trans KK417.1 q359_1)) all0))).trans K401 (allS (Or.inr (Nat.le_trans KK417.1 q359_1)) (allS (Or.inr (Nat.le_trans KK417.1 q359_0)) all0)))
      have f419 : Exa Z h401 x24 "java/time/LocalDate" := (q24_1.keep KK418)
      refine Wk.callS X412 hx hZ hown (w 174 _ rfl) (w 175 _ rfl) (w 176 _ rfl) (w 177 _ rfl) (by decide) (as' := [(.ref x24), (.ref x24)]) (backOf (W := 0) (rm_smR l Z a0 hw [] x24 h401 O405 f419) hZ (w 177 _ rfl) (w 176 _ rfl) (by decide) (by decide)) e412 (by rw [hml]; rfl) (rest := []) (lenOf pd26 rfl) rfl (Nat.le_of_eq rfl) (hb hby at_243) rfl (by decide) (by decide) ?_
      intro T420 h420 v420 L420 X420 e420 hQ420
      obtain ⟨rfl, Nq420, K420⟩ := hQ420
      have N420 := Fk.app N412 Nq420 KK415.1 all0
      rw [K420] at e420
      show Wp p e below _ _ T420 (mkF m 246 #[.val (.int p0), .val (.int p1), .val (.int p2), .val (.int p3), .val (.long j1), .second, .val (.long j2), .second, .val (.long j3), .second, .val (.ref a4), .val (.int (3 : Int32)), .val (.int (1 : Int32)), .val (.ref x24), .val (.ref a355), .val (.int (1 : Int32)), .val (.ref x24), .unset] [(.int (1 : Int32))])
      refine Wk.ifNo X420 hx (hb hby at_246) rfl ((if0 _ _).trans (feq (by decide : ¬ ((1 : Int32) = (0 : Int32)))).1) ?_
      refine Wk.iconst X420 hx (v := (1 : Int32)) (hb hby at_249) rfl rfl ?_
      refine Wk.goto X420 hx (hb hby at_250) (by decide) (q := 254) rfl ?_
      refine Wk.istore X420 hx (Ls' := #[.val (.int p0), .val (.int p1), .val (.int p2), .val (.int p3), .val (.long j1), .second, .val (.long j2), .second, .val (.long j3), .second, .val (.ref a4), .val (.int (3 : Int32)), .val (.int (1 : Int32)), .val (.ref x24), .val (.ref a355), .val (.int (1 : Int32)), .val (.ref x24), .unset]) (hb hby at_254) rfl rfl ?_
      refine Wk.aload X420 hx (hb hby at_256) rfl rfl rfl ?_
      refine Wk.callV X420 hx hZ (y := (⟨"com/example/accumulus/accumulus/account/LoanAccount", "nextWaitingDay", "()Ljava/time/LocalDate;"⟩ : MethodName)) (z := (⟨"com/example/accumulus/accumulus/account/LoanAccount", "nextWaitingDay", "()Ljava/time/LocalDate;"⟩ : MethodName)) hown (w 120 _ rfl) (w 121 _ rfl) (notFace_of_selects (args := #[]) (mvT hZ (w 123 _ rfl))) (w 123 _ rfl) (w 122 _ rfl) (by decide) (as' := []) (backOf (W := 0) (rm_nwR l Z a0 hw [] a355 d359 el359 (1 : Int32) kE359 [.null, (.ref w_383), (.ref w_390), .null, .null, .null, .null, .null, .null, .null, .null, .null, .null, .null, .null, .null, .null] w_383 x24 h401 O405 f408 q401_0 q401_1 q401_2 Vl406 (by first | assumption | rfl | decide | exact Nat.le_of_ble_eq_true rfl) (by first | assumption | rfl | decide | exact Nat.le_of_ble_eq_true rfl) (by first | assumption | rfl | decide | exact Nat.le_of_ble_eq_true rfl) f410 f411) hZ (w 124 _ rfl) (w 75 _ rfl) (by decide) (by decide)) e420 f414 (by rw [hml]; rfl) (rest := []) (lenOf pd25 rfl) rfl (Nat.le_of_eq rfl) (hb hby at_258) rfl (by decide) (by decide) ?_
      intro T421 h421 v421 L421 X421 e421 hQ421
      obtain ⟨rfl, Nq421, K421⟩ := hQ421
      have N421 := Fk.app N420 Nq421 KK415.1 all0
      rw [K421] at e421
      show Wp p e below _ _ T421 (mkF m 261 #[.val (.int p0), .val (.int p1), .val (.int p2), .val (.int p3), .val (.long j1), .second, .val (.long j2), .second, .val (.long j3), .second, .val (.ref a4), .val (.int (3 : Int32)), .val (.int (1 : Int32)), .val (.ref x24), .val (.ref a355), .val (.int (1 : Int32)), .val (.ref x24), .unset] [(.ref x24)])
      refine Wk.astore X421 hx (Ls' := #[.val (.int p0), .val (.int p1), .val (.int p2), .val (.int p3), .val (.long j1), .second, .val (.long j2), .second, .val (.long j3), .second, .val (.ref a4), .val (.int (3 : Int32)), .val (.int (1 : Int32)), .val (.ref x24), .val (.ref a355), .val (.int (1 : Int32)), .val (.ref x24), .val (.ref x24)]) (hb hby at_261) rfl rfl rfl ?_
      refine Wk.iload X421 hx (hb hby at_263) rfl rfl ?_
      refine Wk.ifNo X421 hx (hb hby at_265) rfl ((if0 _ _).trans (feq (by decide : ¬ ((1 : Int32) = (0 : Int32)))).1) ?_
      refine Wk.aload X421 hx (hb hby at_268) rfl rfl rfl ?_
      refine Wk.aload X421 hx (hb hby at_270) rfl rfl rfl ?_
      refine Wk.callS X421 hx hZ hown (w 174 _ rfl) (w 175 _ rfl) (w 176 _ rfl) (w 177 _ rfl) (by decide) (as' := [(.ref x24), (.ref x24)]) (backOf (W := 0) (rm_smR l Z a0 hw [] x24 h401 O405 f419) hZ (w 177 _ rfl) (w 176 _ rfl) (by decide) (by decide)) e421 (by rw [hml]; rfl) (rest := []) (lenOf pd26 rfl) rfl (Nat.le_of_eq rfl) (hb hby at_272) rfl (by decide) (by decide) ?_
      intro T422 h422 v422 L422 X422 e422 hQ422
      obtain ⟨rfl, Nq422, K422⟩ := hQ422
      have N422 := Fk.app N421 Nq422 KK415.1 all0
      rw [K422] at e422
      show Wp p e below _ _ T422 (mkF m 275 #[.val (.int p0), .val (.int p1), .val (.int p2), .val (.int p3), .val (.long j1), .second, .val (.long j2), .second, .val (.long j3), .second, .val (.ref a4), .val (.int (3 : Int32)), .val (.int (1 : Int32)), .val (.ref x24), .val (.ref a355), .val (.int (1 : Int32)), .val (.ref x24), .val (.ref x24)] [(.int (1 : Int32))])
      refine Wk.ifNo X422 hx (hb hby at_275) rfl ((if0 _ _).trans (feq (by decide : ¬ ((1 : Int32) = (0 : Int32)))).1) ?_
      refine Wk.iconst X422 hx (v := (1 : Int32)) (hb hby at_278) rfl rfl ?_
      refine Wk.goto X422 hx (hb hby at_279) (by decide) (q := 283) rfl ?_
      refine Wk.istore X422 hx (Ls' := #[.val (.int p0), .val (.int p1), .val (.int p2), .val (.int p3), .val (.long j1), .second, .val (.long j2), .second, .val (.long j3), .second, .val (.ref a4), .val (.int (3 : Int32)), .val (.int (1 : Int32)), .val (.ref x24), .val (.ref a355), .val (.int (1 : Int32)), .val (.ref x24), .val (.ref x24)]) (hb hby at_283) rfl rfl ?_
      refine Wk.iload X422 hx (hb hby at_285) rfl rfl ?_
      exact Wk.retZ' X422 hx hlk hr (by simp) (hb hby at_287) (by decide) (by decide) (Qc := Q_rm_law Z p0 p1 p2 p3 u vr_ ed h0) e422 ⟨rfl, N422, KK415⟩
    · skip
      refine Wk.istore X298 hx (Ls' := #[.val (.int p0), .val (.int p1), .val (.int p2), .val (.int p3), .val (.long j1), .second, .val (.long j2), .second, .val (.long j3), .second, .val (.ref a4), .val (.int (3 : Int32)), .val (.int (2 : Int32)), .unset, .unset, .unset, .unset, .unset]) (hb hby at_72) rfl rfl ?_
      refine Wk.iload X298 hx (hb hby at_74) rfl rfl ?_
      refine Wk.iload X298 hx (hb hby at_76) rfl rfl ?_
      refine Wk.icmpNo X298 hx (hb hby at_78) rfl (tlt (by decide : (2 : Int32) < (3 : Int32))).2.1 ?_
      refine Wk.aload X298 hx (hb hby at_81) rfl rfl rfl ?_
      refine Wk.iload X298 hx (hb hby at_83) rfl rfl ?_
      refine Wk.aaload X298 hx hZ e298 (C := (.object "java/time/LocalDate")) V40 (by decide) (by decide) (v := (.ref x36)) rfl rfl (hb hby at_85) rfl ?_
      refine Wk.goto X298 hx (hb hby at_86) (by decide) (q := 90) rfl ?_
      refine Wk.astore X298 hx (Ls' := #[.val (.int p0), .val (.int p1), .val (.int p2), .val (.int p3), .val (.long j1), .second, .val (.long j2), .second, .val (.long j3), .second, .val (.ref a4), .val (.int (3 : Int32)), .val (.int (2 : Int32)), .val (.ref x36), .unset, .unset, .unset, .unset]) (hb hby at_90) rfl rfl rfl ?_
      refine Wk.new X298 hx hZ hown (w 73 _ rfl) (w 74 _ rfl) (w 75 _ rfl) e298 (hb hby at_92) rfl (by decide) (by decide) ?_
      intro T423 h423 a423 g423 X423 e423 E423 A423 D423
      have O424 : Old Z Z.heap.size h423 := O41.ext E423
      have f425 : Fld Z h423 a423 "com/example/accumulus/accumulus/account/LoanAccount" "loans" "Ljava/util/List;" .null := D423 (Or.inr (w 105 _ rfl)) (ty := (.object "java/util/List")) (by decide)
      have f426 : Fld Z h423 a423 "com/example/accumulus/accumulus/account/LoanAccount" "waiting" "Ljava/util/ArrayDeque;" .null := D423 (Or.inr (w 119 _ rfl)) (ty := (.object "java/util/ArrayDeque")) (by decide)
      refine Wk.dup X423 hx (hb hby at_95) rfl rfl ?_
      refine Wk.callI X423 hx hZ rfl hown (w 76 _ rfl) (w 77 _ rfl) (w 78 _ rfl) (by decide) (as' := []) (backOf (W := 1) (rm_lai l Z a0 hw [] a423 ed h423 O424 A423 f425 f426 (Nat.le_trans (Nat.le_trans (Nat.le_trans (Nat.le_of_eq O0.1.symm) O0.2.1) KK299.1) (Nat.le_of_eq g423)) sD) hZ (w 78 _ rfl) (w 75 _ rfl) (by decide) (by decide)) e423 (by rw [hml]; rfl) (rest := [(.ref a423)]) (lenOf pd12 rfl) rfl (Nat.le_of_eq rfl) (hb hby at_96) rfl (by decide) (by decide) ?_
      intro T427 h427 v427 L427 X427 e427 hQ427
      obtain ⟨d427, el427, kE427, rfl, Nq427, K427, q427_0, q427_1, q427_2, q427_3, q427_4, q427_5, q427_6, q427_7, q427_8, q427_9⟩ := hQ427
      have KK428 : Keep h0 h423 [] := (KK299.ext E423)
      have N427 := Fk.app N298 Nq427 KK428.1 (allS (Or.inr (Nat.le_trans KK299.1 (Nat.le_of_eq g423))) all0)
      have O429 : Old Z Z.heap.size h427 := O424.keep K427 (allS (Nat.le_trans (Nat.le_trans (Nat.le_trans (Nat.le_of_eq O0.1.symm) O0.2.1) KK299.1) (Nat.le_of_eq g423)) all0)
      show Wp p e below _ _ T427 (mkF m 99 #[.val (.int p0), .val (.int p1), .val (.int p2), .val (.int p3), .val (.long j1), .second, .val (.long j2), .second, .val (.long j3), .second, .val (.ref a4), .val (.int (3 : Int32)), .val (.int (2 : Int32)), .val (.ref x36), .unset, .unset, .unset, .unset] [(.ref a423)])
      refine Wk.astore X427 hx (Ls' := #[.val (.int p0), .val (.int p1), .val (.int p2), .val (.int p3), .val (.long j1), .second, .val (.long j2), .second, .val (.long j3), .second, .val (.ref a4), .val (.int (3 : Int32)), .val (.int (2 : Int32)), .val (.ref x36), .val (.ref a423), .unset, .unset, .unset]) (hb hby at_99) rfl rfl rfl ?_
      refine Wk.aload X427 hx (hb hby at_101) rfl rfl rfl ?_
      refine Wk.callV X427 hx hZ (y := (⟨"com/example/accumulus/accumulus/account/LoanAccount", "nextWaitingDay", "()Ljava/time/LocalDate;"⟩ : MethodName)) (z := (⟨"com/example/accumulus/accumulus/account/LoanAccount", "nextWaitingDay", "()Ljava/time/LocalDate;"⟩ : MethodName)) hown (w 120 _ rfl) (w 121 _ rfl) (notFace_of_selects (args := #[]) (mvT hZ (w 123 _ rfl))) (w 123 _ rfl) (w 122 _ rfl) (by decide) (as' := []) (backOf (W := 0) (rm_nwN l Z a0 hw [] a423 d427 el427 (0 : Int32) kE427 [.null, .null, .null, .null, .null, .null, .null, .null, .null, .null, .null, .null, .null, .null, .null, .null, .null] h427 O429 q427_3 q427_5 q427_6 q427_7 q427_9 (by first | assumption | rfl | decide | exact Nat.le_of_ble_eq_true rfl) (by first | assumption | rfl | decide | exact Nat.le_of_ble_eq_true rfl) (by first | assumption | rfl | decide | exact Nat.le_of_ble_eq_true rfl)) hZ (w 124 _ rfl) (w 75 _ rfl) (by decide) (by decide)) e427 q427_2 (by rw [hml]; rfl) (rest := []) (lenOf pd25 rfl) rfl (Nat.le_of_eq rfl) (hb hby at_103) rfl (by decide) (by decide) ?_
      intro T430 h430 v430 L430 X430 e430 hQ430
      obtain ⟨rfl, Nq430, K430⟩ := hQ430
      have KK431 : Keep h0 h427 [] := (KK428.trans K427 (allS (Or.inr (Nat.le_trans KK299.1 (Nat.le_of_eq g423))) all0))
      have N430 := Fk.app N427 Nq430 KK431.1 all0
      rw [K430] at e430
      show Wp p e below _ _ T430 (mkF m 106 #[.val (.int p0), .val (.int p1), .val (.int p2), .val (.int p3), .val (.long j1), .second, .val (.long j2), .second, .val (.long j3), .second, .val (.ref a4), .val (.int (3 : Int32)), .val (.int (2 : Int32)), .val (.ref x36), .val (.ref a423), .unset, .unset, .unset] [.null])
      refine Wk.ifnonnullNo X430 hx (hb hby at_106) rfl ?_
      refine Wk.iconst X430 hx (v := (1 : Int32)) (hb hby at_109) rfl rfl ?_
      refine Wk.goto X430 hx (hb hby at_110) (by decide) (q := 114) rfl ?_
      refine Wk.istore X430 hx (Ls' := #[.val (.int p0), .val (.int p1), .val (.int p2), .val (.int p3), .val (.long j1), .second, .val (.long j2), .second, .val (.long j3), .second, .val (.ref a4), .val (.int (3 : Int32)), .val (.int (2 : Int32)), .val (.ref x36), .val (.ref a423), .val (.int (1 : Int32)), .unset, .unset]) (hb hby at_114) rfl rfl ?_
      refine Wk.iload X430 hx (hb hby at_116) rfl rfl ?_
      refine Wk.iconst X430 hx (v := (1 : Int32)) (hb hby at_118) rfl rfl ?_
      refine Wk.icmpNo X430 hx (hb hby at_119) rfl (flt (by decide : ¬ ((3 : Int32) < (1 : Int32)))).1 ?_
      refine Wk.aload X430 hx (hb hby at_122) rfl rfl rfl ?_
      refine Wk.aconstNull X430 hx (hb hby at_124) rfl ?_
      refine Wk.aload X430 hx (hb hby at_125) rfl rfl rfl ?_
      refine Wk.iconst X430 hx (v := (0 : Int32)) (hb hby at_127) rfl rfl ?_
      have KK432 : Keep h40 h427 [] := (((Keep.refl h40 []).ext E423).trans K427 (allS (Or.inr (Nat.le_of_eq g423)) all0))
      have f433 : Arv Z h427 a4 kA4 (.object "java/time/LocalDate") (3 : Int32) [(.ref x12), (.ref x24), (.ref x36)] .null := (V40.keep KK432 nin0)
      refine Wk.aaload X430 hx hZ e430 (C := (.object "java/time/LocalDate")) f433 (by decide) (by decide) (v := (.ref x12)) rfl rfl (hb hby at_128) rfl ?_
      refine Wk.callV X430 hx hZ (y := (⟨"com/example/accumulus/accumulus/account/LoanAccount", "await", "(Lcom/example/accumulus/accumulus/journal/JournalEntry;Ljava/time/LocalDate;)V"⟩ : MethodName)) (z := (⟨"com/example/accumulus/accumulus/account/LoanAccount", "await", "(Lcom/example/accumulus/accumulus/journal/JournalEntry;Ljava/time/LocalDate;)V"⟩ : MethodName)) hown (w 140 _ rfl) (w 141 _ rfl) (notFace_of_selects (args := #[]) (mvT hZ (w 143 _ rfl))) (w 143 _ rfl) (w 142 _ rfl) (by decide) (as' := [.null, (.ref x12)]) (backOf (W := 0) (rm_awt l Z a0 hw [] a423 d427 el427 (0 : Int32) (0 : Int32) (1 : Int32) kE427 [.null, .null, .null, .null, .null, .null, .null, .null, .null, .null, .null, .null, .null, .null, .null, .null, .null] x12 h427 O429 q427_3 q427_5 q427_6 q427_7 q427_8 q427_9 (by first | assumption | rfl | decide | exact Nat.le_of_ble_eq_true rfl) (by first | assumption | rfl | decide | exact Nat.le_of_ble_eq_true rfl) (by first | assumption | rfl | decide | exact Nat.le_of_ble_eq_true rfl) (by first | assumption | rfl | decide | exact Nat.le_of_ble_eq_true rfl) (by first | assumption | rfl | decide | exact Nat.le_of_ble_eq_true rfl) (by first | assumption | rfl | decide | exact Nat.le_of_ble_eq_true rfl) (Nat.le_trans (Nat.le_trans (Nat.le_trans (Nat.le_of_eq O0.1.symm) O0.2.1) KK428.1) q427_0) (Nat.le_trans (Nat.le_trans (Nat.le_trans (Nat.le_of_eq O0.1.symm) O0.2.1) KK428.1) q427_1) q427_4) hZ (w 144 _ rfl) (w 75 _ rfl) (by decide) (by decide)) e430 q427_2 (by rw [hml]; rfl) (rest := []) (lenOf pd21 rfl) rfl (Nat.le_of_eq rfl) (hb hby at_129) rfl (by decide) (by decide) ?_
      intro T434 h434 v434 L434 X434 e434 hQ434
      obtain ⟨w_434, rfl, Nq434, K434, q434_0, q434_1, q434_2, q434_3, q434_4, q434_5, q434_6, q434_7, q434_8⟩ := hQ434
      have N434 := Fk.app N430 Nq434 KK431.1 (allS (Or.inr (Nat.le_trans KK428.1 q427_0)) (allS (Or.inr (Nat.le_trans KK428.1 q427_1)) all0))
      have O435 : Old Z Z.heap.size h434 := O429.keep K434 (allS (Nat.le_trans (Nat.le_trans (Nat.le_trans (Nat.le_of_eq O0.1.symm) O0.2.1) KK428.1) q427_0) (allS (Nat.le_trans (Nat.le_trans (Nat.le_trans (Nat.le_of_eq O0.1.symm) O0.2.1) KK428.1) q427_1) all0))
      have Vl436 : Arv Z h434 el427 kE427 (.object "java/lang/Object") (17 : Int32) [(.ref w_434), .null, .null, .null, .null, .null, .null, .null, .null, .null, .null, .null, .null, .null, .null, .null, .null] .null := q434_8
      show Wp p e below _ _ T434 (mkF m 132 #[.val (.int p0), .val (.int p1), .val (.int p2), .val (.int p3), .val (.long j1), .second, .val (.long j2), .second, .val (.long j3), .second, .val (.ref a4), .val (.int (3 : Int32)), .val (.int (2 : Int32)), .val (.ref x36), .val (.ref a423), .val (.int (1 : Int32)), .unset, .unset] [])
      refine Wk.iload X434 hx (hb hby at_132) rfl rfl ?_
      refine Wk.ifNo X434 hx (hb hby at_134) rfl ((if0 _ _).trans (feq (by decide : ¬ ((1 : Int32) = (0 : Int32)))).1) ?_
      refine Wk.aload X434 hx (hb hby at_137) rfl rfl rfl ?_
      have KK437 : Keep h427 h434 [d427, el427] := ((Keep.refl h427 [d427, el427]).trans K434 (allS (Or.inl (List.mem_of_getElem? (i := 0) rfl)) (allS (Or.inl (List.mem_of_getElem? (i := 1) rfl)) all0)))
      have f438 : Fld Z h434 a423 "com/example/accumulus/accumulus/account/LoanAccount" "waiting" "Ljava/util/ArrayDeque;" (.ref d427) := (q427_3.keep KK437 (ninS (Nat.ne_of_lt (Nat.lt_of_lt_of_le A423.lt q427_0)) (ninS (Nat.ne_of_lt (Nat.lt_of_lt_of_le A423.lt q427_1)) nin0)))
      have KK440 : Keep h423 h434 [a423] := (((Keep.refl h423 [a423]).trans K427 (allS (Or.inl (List.mem_of_getElem? (i := 0) rfl)) all0)).trans K434 (allS (Or.inr q427_0) (allS (Or.inr q427_1) all0)))
      have f441 : Exa Z h434 a423 "com/example/accumulus/accumulus/account/LoanAccount" := (A423.keep KK440)
      refine Wk.callV X434 hx hZ (y := (⟨"com/example/accumulus/accumulus/account/LoanAccount", "nextWaitingDay", "()Ljava/time/LocalDate;"⟩ : MethodName)) (z := (⟨"com/example/accumulus/accumulus/account/LoanAccount", "nextWaitingDay", "()Ljava/time/LocalDate;"⟩ : MethodName)) hown (w 120 _ rfl) (w 121 _ rfl) (notFace_of_selects (args := #[]) (mvT hZ (w 123 _ rfl))) (w 123 _ rfl) (w 122 _ rfl) (by decide) (as' := []) (backOf (W := 0) (rm_nwR l Z a0 hw [] a423 d427 el427 (0 : Int32) kE427 [(.ref w_434), .null, .null, .null, .null, .null, .null, .null, .null, .null, .null, .null, .null, .null, .null, .null, .null] w_434 x12 h434 O435 f438 q434_4 q434_5 q434_6 Vl436 (by first | assumption | rfl | decide | exact Nat.le_of_ble_eq_true rfl) (by first | assumption | rfl | decide | exact Nat.le_of_ble_eq_true rfl) (by first | assumption | rfl | decide | exact Nat.le_of_ble_eq_true rfl) q434_1 q434_2) hZ (w 124 _ rfl) (w 75 _ rfl) (by decide) (by decide)) e434 f441 (by rw [hml]; rfl) (rest := []) (lenOf pd25 rfl) rfl (Nat.le_of_eq rfl) (hb hby at_139) rfl (by decide) (by decide) ?_
      intro T439 h439 v439 L439 X439 e439 hQ439
      obtain ⟨rfl, Nq439, K439⟩ := hQ439
      have KK442 : Keep h0 h434 [] := (KK431.trans K434 (allS (Or.inr (Nat.le_trans KK428.1 q427_0)) (allS (Or.inr (Nat.le_trans KK428.1 q427_1)) all0)))
      have N439 := Fk.app N434 Nq439 KK442.1 all0
      rw [K439] at e439
      show Wp p e below _ _ T439 (mkF m 142 #[.val (.int p0), .val (.int p1), .val (.int p2), .val (.int p3), .val (.long j1), .second, .val (.long j2), .second, .val (.long j3), .second, .val (.ref a4), .val (.int (3 : Int32)), .val (.int (2 : Int32)), .val (.ref x36), .val (.ref a423), .val (.int (1 : Int32)), .unset, .unset] [(.ref x12)])
      refine Wk.aload X439 hx (hb hby at_142) rfl rfl rfl ?_
      refine Wk.iconst X439 hx (v := (0 : Int32)) (hb hby at_144) rfl rfl ?_
      have KK443 : Keep h40 h423 [] := ((Keep.refl h40 []).ext E423)
      have KK444 : Keep h40 h434 [] := (KK432.trans K434 (allS (Or.inr (Nat.le_trans KK443.1 q427_0)) (allS (Or.inr (Nat.le_trans KK443.1 q427_1)) all0)))
      have f445 : Arv Z h434 a4 kA4 (.object "java/time/LocalDate") (3 : Int32) [(.ref x12), (.ref x24), (.ref x36)] .null := (V40.keep KK444 nin0)
      refine Wk.aaload X439 hx hZ e439 (C := (.object "java/time/LocalDate")) f445 (by decide) (by decide) (v := (.ref x12)) rfl rfl (hb hby at_145) rfl ?_
      have KK446 : Keep h12 h40 [a4] := ((((((Keep.refl h12 [a4]).wr W16 (Or.inl (List.mem_of_getElem? (i := 0) rfl))).trans K24 all0).wr W28 (Or.inl (List.mem_of_getElem? (i := 0) rfl))).trans K36 all0).wr W40 (Or.inl (List.mem_of_getElem? (i := 0) rfl)))
      have KK447 : Keep h12 h423 [a4] := (KK446.ext E423)
      have KK448 : Keep h12 h434 [a4] := (((((((((Keep.refl h12 [a4]).wr W16 (Or.inl (List.mem_of_getElem? (i := 0) rfl))).trans K24 all0).wr W28 (Or.inl (List.mem_of_getElem? (i := 0) rfl))).trans K36 all0).wr W40 (Or.inl (List.mem_of_getElem? (i := 0) rfl))).ext E423).trans K427 (allS (Or.inr (Nat.le_trans KK446.1 (Nat.le_of_eq g423))) all0)).trans K434 (allS (Or.inr (Nat.le_trans KK447.1 q427_0)) (allS (Or.inr (Nat.le_trans KK447.1 q427_1)) all0)))
      have f449 : Exa Z h434 x12 "java/time/LocalDate" := (q12_1.keep KK448)
      refine Wk.callS X439 hx hZ hown (w 174 _ rfl) (w 175 _ rfl) (w 176 _ rfl) (w 177 _ rfl) (by decide) (as' := [(.ref x12), (.ref x12)]) (backOf (W := 0) (rm_smR l Z a0 hw [] x12 h434 O435 f449) hZ (w 177 _ rfl) (w 176 _ rfl) (by decide) (by decide)) e439 (by rw [hml]; rfl) (rest := []) (lenOf pd26 rfl) rfl (Nat.le_of_eq rfl) (hb hby at_146) rfl (by decide) (by decide) ?_
      intro T450 h450 v450 L450 X450 e450 hQ450
      obtain ⟨rfl, Nq450, K450⟩ := hQ450
      have N450 := Fk.app N439 Nq450 KK442.1 all0
      rw [K450] at e450
      show Wp p e below _ _ T450 (mkF m 149 #[.val (.int p0), .val (.int p1), .val (.int p2), .val (.int p3), .val (.long j1), .second, .val (.long j2), .second, .val (.long j3), .second, .val (.ref a4), .val (.int (3 : Int32)), .val (.int (2 : Int32)), .val (.ref x36), .val (.ref a423), .val (.int (1 : Int32)), .unset, .unset] [(.int (1 : Int32))])
      refine Wk.ifNo X450 hx (hb hby at_149) rfl ((if0 _ _).trans (feq (by decide : ¬ ((1 : Int32) = (0 : Int32)))).1) ?_
      refine Wk.iconst X450 hx (v := (1 : Int32)) (hb hby at_152) rfl rfl ?_
      refine Wk.goto X450 hx (hb hby at_153) (by decide) (q := 157) rfl ?_
      refine Wk.istore X450 hx (Ls' := #[.val (.int p0), .val (.int p1), .val (.int p2), .val (.int p3), .val (.long j1), .second, .val (.long j2), .second, .val (.long j3), .second, .val (.ref a4), .val (.int (3 : Int32)), .val (.int (2 : Int32)), .val (.ref x36), .val (.ref a423), .val (.int (1 : Int32)), .unset, .unset]) (hb hby at_157) rfl rfl ?_
      refine Wk.iload X450 hx (hb hby at_159) rfl rfl ?_
      refine Wk.iconst X450 hx (v := (2 : Int32)) (hb hby at_161) rfl rfl ?_
      refine Wk.icmpNo X450 hx (hb hby at_162) rfl (flt (by decide : ¬ ((3 : Int32) < (2 : Int32)))).1 ?_
      refine Wk.aload X450 hx (hb hby at_165) rfl rfl rfl ?_
      refine Wk.aconstNull X450 hx (hb hby at_167) rfl ?_
      refine Wk.aload X450 hx (hb hby at_168) rfl rfl rfl ?_
      refine Wk.iconst X450 hx (v := (1 : Int32)) (hb hby at_170) rfl rfl ?_
      refine Wk.aaload X450 hx hZ e450 (C := (.object "java/time/LocalDate")) f445 (by decide) (by decide) (v := (.ref x24)) rfl rfl (hb hby at_171) rfl ?_
      refine Wk.callV X450 hx hZ (y := (⟨"com/example/accumulus/accumulus/account/LoanAccount", "await", "(Lcom/example/accumulus/accumulus/journal/JournalEntry;Ljava/time/LocalDate;)V"⟩ : MethodName)) (z := (⟨"com/example/accumulus/accumulus/account/LoanAccount", "await", "(Lcom/example/accumulus/accumulus/journal/JournalEntry;Ljava/time/LocalDate;)V"⟩ : MethodName)) hown (w 140 _ rfl) (w 141 _ rfl) (notFace_of_selects (args := #[]) (mvT hZ (w 143 _ rfl))) (w 143 _ rfl) (w 142 _ rfl) (by decide) (as' := [.null, (.ref x24)]) (backOf (W := 0) (rm_awt l Z a0 hw [] a423 d427 el427 (0 : Int32) (1 : Int32) (2 : Int32) kE427 [(.ref w_434), .null, .null, .null, .null, .null, .null, .null, .null, .null, .null, .null, .null, .null, .null, .null, .null] x24 h434 O435 f438 q434_4 q434_5 q434_6 q434_7 Vl436 (by first | assumption | rfl | decide | exact Nat.le_of_ble_eq_true rfl) (by first | assumption | rfl | decide | exact Nat.le_of_ble_eq_true rfl) (by first | assumption | rfl | decide | exact Nat.le_of_ble_eq_true rfl) (by first | assumption | rfl | decide | exact Nat.le_of_ble_eq_true rfl) (by first | assumption | rfl | decide | exact Nat.le_of_ble_eq_true rfl) (by first | assumption | rfl | decide | exact Nat.le_of_ble_eq_true rfl) (Nat.le_trans (Nat.le_trans (Nat.le_trans (Nat.le_of_eq O0.1.symm) O0.2.1) KK428.1) q427_0) (Nat.le_trans (Nat.le_trans (Nat.le_trans (Nat.le_of_eq O0.1.symm) O0.2.1) KK428.1) q427_1) q427_4) hZ (w 144 _ rfl) (w 75 _ rfl) (by decide) (by decide)) e450 f441 (by rw [hml]; rfl) (rest := []) (lenOf pd21 rfl) rfl (Nat.le_of_eq rfl) (hb hby at_172) rfl (by decide) (by decide) ?_
      intro T451 h451 v451 L451 X451 e451 hQ451
      obtain ⟨w_451, rfl, Nq451, K451, q451_0, q451_1, q451_2, q451_3, q451_4, q451_5, q451_6, q451_7, q451_8⟩ := hQ451
      have N451 := Fk.app N450 Nq451 KK442.1 (allS (Or.inr (Nat.le_trans KK428.1 q427_0)) (allS (Or.inr (Nat.le_trans KK428.1 q427_1)) all0))
      have O452 : Old Z Z.heap.size h451 := O435.keep K451 (allS (Nat.le_trans (Nat.le_trans (Nat.le_trans (Nat.le_of_eq O0.1.symm) O0.2.1) KK428.1) q427_0) (allS (Nat.le_trans (Nat.le_trans (Nat.le_trans (Nat.le_of_eq O0.1.symm) O0.2.1) KK428.1) q427_1) all0))
      have Vl453 : Arv Z h451 el427 kE427 (.object "java/lang/Object") (17 : Int32) [(.ref w_434), (.ref w_451), .null, .null, .null, .null, .null, .null, .null, .null, .null, .null, .null, .null, .null, .null, .null] .null := q451_8
      show Wp p e below _ _ T451 (mkF m 175 #[.val (.int p0), .val (.int p1), .val (.int p2), .val (.int p3), .val (.long j1), .second, .val (.long j2), .second, .val (.long j3), .second, .val (.ref a4), .val (.int (3 : Int32)), .val (.int (2 : Int32)), .val (.ref x36), .val (.ref a423), .val (.int (1 : Int32)), .unset, .unset] [])
      refine Wk.iload X451 hx (hb hby at_175) rfl rfl ?_
      refine Wk.iconst X451 hx (v := (3 : Int32)) (hb hby at_177) rfl rfl ?_
      refine Wk.icmpNo X451 hx (hb hby at_178) rfl (flt (by decide : ¬ ((3 : Int32) < (3 : Int32)))).1 ?_
      refine Wk.aload X451 hx (hb hby at_181) rfl rfl rfl ?_
      refine Wk.aconstNull X451 hx (hb hby at_183) rfl ?_
      refine Wk.aload X451 hx (hb hby at_184) rfl rfl rfl ?_
      refine Wk.iconst X451 hx (v := (2 : Int32)) (hb hby at_186) rfl rfl ?_
      have KK454 : Keep h40 h451 [] := (KK444.trans K451 (allS (Or.inr (Nat.le_trans KK443.1 q427_0)) (allS (Or.inr (Nat.le_trans KK443.1 q427_1)) all0)))
      have f455 : Arv Z h451 a4 kA4 (.object "java/time/LocalDate") (3 : Int32) [(.ref x12), (.ref x24), (.ref x36)] .null := (V40.keep KK454 nin0)
      refine Wk.aaload X451 hx hZ e451 (C := (.object "java/time/LocalDate")) f455 (by decide) (by decide) (v := (.ref x36)) rfl rfl (hb hby at_187) rfl ?_
      have KK456 : Keep h434 h451 [d427, el427] := ((Keep.refl h434 [d427, el427]).trans K451 (allS (Or.inl (List.mem_of_getElem? (i := 0) rfl)) (allS (Or.inl (List.mem_of_getElem? (i := 1) rfl)) all0)))
      have f457 : Fld Z h451 a423 "com/example/accumulus/accumulus/account/LoanAccount" "waiting" "Ljava/util/ArrayDeque;" (.ref d427) := (f438.keep KK456 (ninS (Nat.ne_of_lt (Nat.lt_of_lt_of_le A423.lt q427_0)) (ninS (Nat.ne_of_lt (Nat.lt_of_lt_of_le A423.lt q427_1)) nin0)))
      have KK459 : Keep h423 h451 [a423] := (KK440.trans K451 (allS (Or.inr q427_0) (allS (Or.inr q427_1) all0)))
      have f460 : Exa Z h451 a423 "com/example/accumulus/accumulus/account/LoanAccount" := (A423.keep KK459)
      refine Wk.callV X451 hx hZ (y := (⟨"com/example/accumulus/accumulus/account/LoanAccount", "await", "(Lcom/example/accumulus/accumulus/journal/JournalEntry;Ljava/time/LocalDate;)V"⟩ : MethodName)) (z := (⟨"com/example/accumulus/accumulus/account/LoanAccount", "await", "(Lcom/example/accumulus/accumulus/journal/JournalEntry;Ljava/time/LocalDate;)V"⟩ : MethodName)) hown (w 140 _ rfl) (w 141 _ rfl) (notFace_of_selects (args := #[]) (mvT hZ (w 143 _ rfl))) (w 143 _ rfl) (w 142 _ rfl) (by decide) (as' := [.null, (.ref x36)]) (backOf (W := 0) (rm_awt l Z a0 hw [] a423 d427 el427 (0 : Int32) (2 : Int32) (3 : Int32) kE427 [(.ref w_434), (.ref w_451), .null, .null, .null, .null, .null, .null, .null, .null, .null, .null, .null, .null, .null, .null, .null] x36 h451 O452 f457 q451_4 q451_5 q451_6 q451_7 Vl453 (by first | assumption | rfl | decide | exact Nat.le_of_ble_eq_true rfl) (by first | assumption | rfl | decide | exact Nat.le_of_ble_eq_true rfl) (by first | assumption | rfl | decide | exact Nat.le_of_ble_eq_true rfl) (by first | assumption | rfl | decide | exact Nat.le_of_ble_eq_true rfl) (by first | assumption | rfl | decide | exact Nat.le_of_ble_eq_true rfl) (by first | assumption | rfl | decide | exact Nat.le_of_ble_eq_true rfl) (Nat.le_trans (Nat.le_trans (Nat.le_trans (Nat.le_of_eq O0.1.symm) O0.2.1) KK428.1) q427_0) (Nat.le_trans (Nat.le_trans (Nat.le_trans (Nat.le_of_eq O0.1.symm) O0.2.1) KK428.1) q427_1) q427_4) hZ (w 144 _ rfl) (w 75 _ rfl) (by decide) (by decide)) e451 f460 (by rw [hml]; rfl) (rest := []) (lenOf pd21 rfl) rfl (Nat.le_of_eq rfl) (hb hby at_188) rfl (by decide) (by decide) ?_
      intro T458 h458 v458 L458 X458 e458 hQ458
      obtain ⟨w_458, rfl, Nq458, K458, q458_0, q458_1, q458_2, q458_3, q458_4, q458_5, q458_6, q458_7, q458_8⟩ := hQ458
      have KK461 : Keep h0 h451 [] := (KK442.trans K451 (allS (Or.inr (Nat.le_trans KK428.1 q427_0)) (allS (Or.inr (Nat.le_trans KK428.1 q427_1)) all0)))
      have N458 := Fk.app N451 Nq458 KK461.1 (allS (Or.inr (Nat.le_trans KK428.1 q427_0)) (allS (Or.inr (Nat.le_trans KK428.1 q427_1)) all0))
      have O462 : Old Z Z.heap.size h458 := O452.keep K458 (allS (Nat.le_trans (Nat.le_trans (Nat.le_trans (Nat.le_of_eq O0.1.symm) O0.2.1) KK428.1) q427_0) (allS (Nat.le_trans (Nat.le_trans (Nat.le_trans (Nat.le_of_eq O0.1.symm) O0.2.1) KK428.1) q427_1) all0))
      have Vl463 : Arv Z h458 el427 kE427 (.object "java/lang/Object") (17 : Int32) [(.ref w_434), (.ref w_451), (.ref w_458), .null, .null, .null, .null, .null, .null, .null, .null, .null, .null, .null, .null, .null, .null] .null := q458_8
      show Wp p e below _ _ T458 (mkF m 191 #[.val (.int p0), .val (.int p1), .val (.int p2), .val (.int p3), .val (.long j1), .second, .val (.long j2), .second, .val (.long j3), .second, .val (.ref a4), .val (.int (3 : Int32)), .val (.int (2 : Int32)), .val (.ref x36), .val (.ref a423), .val (.int (1 : Int32)), .unset, .unset] [])
      refine Wk.iload X458 hx (hb hby at_191) rfl rfl ?_
      refine Wk.iconst X458 hx (v := (1 : Int32)) (hb hby at_193) rfl rfl ?_
      refine Wk.icmpNo X458 hx (hb hby at_194) rfl (flt (by decide : ¬ ((2 : Int32) < (1 : Int32)))).1 ?_
      refine Wk.aload X458 hx (hb hby at_197) rfl rfl rfl ?_
      have KK464 : Keep h451 h458 [d427, el427] := ((Keep.refl h451 [d427, el427]).trans K458 (allS (Or.inl (List.mem_of_getElem? (i := 0) rfl)) (allS (Or.inl (List.mem_of_getElem? (i := 1) rfl)) all0)))
      have f465 : Fld Z h458 a423 "com/example/accumulus/accumulus/account/LoanAccount" "waiting" "Ljava/util/ArrayDeque;" (.ref d427) := (f457.keep KK464 (ninS (Nat.ne_of_lt (Nat.lt_of_lt_of_le A423.lt q427_0)) (ninS (Nat.ne_of_lt (Nat.lt_of_lt_of_le A423.lt q427_1)) nin0)))
      have KK466 : Keep h434 h458 [d427, el427] := (KK456.trans K458 (allS (Or.inl (List.mem_of_getElem? (i := 0) rfl)) (allS (Or.inl (List.mem_of_getElem? (i := 1) rfl)) all0)))
      have f467 : Exa Z h458 w_434 "com/example/accumulus/accumulus/account/LoanAccount$Waiting" := (q434_1.keep KK466)
      have f468 : Fld Z h458 w_434 "com/example/accumulus/accumulus/account/LoanAccount$Waiting" "loan" "Lcom/example/accumulus/accumulus/journal/JournalEntry;" .null := (q434_3.keep KK466 (ninS (Ne.symm (Nat.ne_of_lt (Nat.lt_of_lt_of_le q427_5.lt q434_0))) (ninS (Exa.neArv f467 Vl463 (w 146 _ rfl)) nin0)))
      have KK470 : Keep h423 h458 [a423] := (KK459.trans K458 (allS (Or.inr q427_0) (allS (Or.inr q427_1) all0)))
      have f471 : Exa Z h458 a423 "com/example/accumulus/accumulus/account/LoanAccount" := (A423.keep KK470)
      refine Wk.callV X458 hx hZ (y := (⟨"com/example/accumulus/accumulus/account/LoanAccount", "takeWaiting", "()Lcom/example/accumulus/accumulus/journal/JournalEntry;"⟩ : MethodName)) (z := (⟨"com/example/accumulus/accumulus/account/LoanAccount", "takeWaiting", "()Lcom/example/accumulus/accumulus/journal/JournalEntry;"⟩ : MethodName)) hown (w 183 _ rfl) (w 184 _ rfl) (notFace_of_selects (args := #[]) (mvT hZ (w 186 _ rfl))) (w 186 _ rfl) (w 185 _ rfl) (by decide) (as' := []) (backOf (W := 0) (rm_tk l Z a0 hw [] a423 d427 el427 (0 : Int32) (1 : Int32) (3 : Int32) kE427 [(.ref w_434), (.ref w_451), (.ref w_458), .null, .null, .null, .null, .null, .null, .null, .null, .null, .null, .null, .null, .null, .null] w_434 h458 O462 f465 q458_4 q458_5 q458_6 q458_7 Vl463 (by first | assumption | rfl | decide | exact Nat.le_of_ble_eq_true rfl) (by first | assumption | rfl | decide | exact Nat.le_of_ble_eq_true rfl) (by first | assumption | rfl | decide | exact Nat.le_of_ble_eq_true rfl) (by first | assumption | rfl | decide | exact Nat.le_of_ble_eq_true rfl) (by first | assumption | rfl | decide | exact Nat.le_of_ble_eq_true rfl) (by first | assumption | rfl | decide | exact Nat.le_of_ble_eq_true rfl) (Nat.le_trans (Nat.le_trans (Nat.le_trans (Nat.le_of_eq O0.1.symm) O0.2.1) KK428.1) q427_0) (Nat.le_trans (Nat.le_trans (Nat.le_trans (Nat.le_of_eq O0.1.symm) O0.2.1) KK428.1) q427_1) q427_4 f467 f468) hZ (w 187 _ rfl) (w 75 _ rfl) (by decide) (by decide)) e458 f471 (by rw [hml]; rfl) (rest := []) (lenOf pd27 rfl) rfl (Nat.le_of_eq rfl) (hb hby at_199) rfl (by decide) (by decide) ?_
      intro T469 h469 v469 L469 X469 e469 hQ469
      obtain ⟨rfl, Nq469, K469, q469_0, q469_1, q469_2, q469_3, q469_4⟩ := hQ469
      have KK472 : Keep h0 h458 [] := (KK461.trans K458 (allS (Or.inr (Nat.le_trans KK428.1 q427_0)) (allS (Or.inr (Nat.le_trans KK428.1 q427_1)) all0)))
      have N469 := Fk.app N458 Nq469 KK472.1 (allS (Or.inr (Nat.le_trans KK428.1 q427_1)) (allS (Or.inr (Nat.le_trans KK428.1 q427_0)) all0))
      have O473 : Old Z Z.heap.size h469 := O462.keep K469 (allS (Nat.le_trans (Nat.le_trans (Nat.le_trans (Nat.le_of_eq O0.1.symm) O0.2.1) KK428.1) q427_1) (allS (Nat.le_trans (Nat.le_trans (Nat.le_trans (Nat.le_of_eq O0.1.symm) O0.2.1) KK428.1) q427_0) all0))
      have Vl474 : Arv Z h469 el427 kE427 (.object "java/lang/Object") (17 : Int32) [.null, (.ref w_451), (.ref w_458), .null, .null, .null, .null, .null, .null, .null, .null, .null, .null, .null, .null, .null, .null] .null := q469_4
      show Wp p e below _ _ T469 (mkF m 202 #[.val (.int p0), .val (.int p1), .val (.int p2), .val (.int p3), .val (.long j1), .second, .val (.long j2), .second, .val (.long j3), .second, .val (.ref a4), .val (.int (3 : Int32)), .val (.int (2 : Int32)), .val (.ref x36), .val (.ref a423), .val (.int (1 : Int32)), .unset, .unset] [.null])
      refine Wk.pop X469 hx (hb hby at_202) rfl rfl ?_
      refine Wk.iload X469 hx (hb hby at_203) rfl rfl ?_
      refine Wk.iconst X469 hx (v := (2 : Int32)) (hb hby at_205) rfl rfl ?_
      refine Wk.icmpNo X469 hx (hb hby at_206) rfl (flt (by decide : ¬ ((2 : Int32) < (2 : Int32)))).1 ?_
      refine Wk.aload X469 hx (hb hby at_209) rfl rfl rfl ?_
      have KK475 : Keep h458 h469 [el427, d427] := ((Keep.refl h458 [el427, d427]).trans K469 (allS (Or.inl (List.mem_of_getElem? (i := 0) rfl)) (allS (Or.inl (List.mem_of_getElem? (i := 1) rfl)) all0)))
      have f476 : Fld Z h469 a423 "com/example/accumulus/accumulus/account/LoanAccount" "waiting" "Ljava/util/ArrayDeque;" (.ref d427) := (f465.keep KK475 (ninS (Nat.ne_of_lt (Nat.lt_of_lt_of_le A423.lt q427_1)) (ninS (Nat.ne_of_lt (Nat.lt_of_lt_of_le A423.lt q427_0)) nin0)))
      have KK477 : Keep h451 h469 [d427, el427] := (KK464.trans K469 (allS (Or.inl (List.mem_of_getElem? (i := 1) rfl)) (allS (Or.inl (List.mem_of_getElem? (i := 0) rfl)) all0)))
      have f478 : Exa Z h469 w_451 "com/example/accumulus/accumulus/account/LoanAccount$Waiting" := (q451_1.keep KK477)
      have f479 : Fld Z h469 w_451 "com/example/accumulus/accumulus/account/LoanAccount$Waiting" "loan" "Lcom/example/accumulus/accumulus/journal/JournalEntry;" .null := (q451_3.keep KK477 (ninS (Ne.symm (Nat.ne_of_lt (Nat.lt_of_lt_of_le q434_4.lt q451_0))) (ninS (Exa.neArv f478 Vl474 (w 146 _ rfl)) nin0)))
      have KK481 : Keep h423 h469 [a423] := (KK470.trans K469 (allS (Or.inr q427_1) (allS (Or.inr q427_0) all0)))
      have f482 : Exa Z h469 a423 "com/example/accumulus/accumulus/account/LoanAccount" := (A423.keep KK481)
      refine Wk.callV X469 hx hZ (y := (⟨"com/example/accumulus/accumulus/account/LoanAccount", "takeWaiting", "()Lcom/example/accumulus/accumulus/journal/JournalEntry;"⟩ : MethodName)) (z := (⟨"com/example/accumulus/accumulus/account/LoanAccount", "takeWaiting", "()Lcom/example/accumulus/accumulus/journal/JournalEntry;"⟩ : MethodName)) hown (w 183 _ rfl) (w 184 _ rfl) (notFace_of_selects (args := #[]) (mvT hZ (w 186 _ rfl))) (w 186 _ rfl) (w 185 _ rfl) (by decide) (as' := []) (backOf (W := 0) (rm_tk l Z a0 hw [] a423 d427 el427 (1 : Int32) (2 : Int32) (3 : Int32) kE427 [.null, (.ref w_451), (.ref w_458), .null, .null, .null, .null, .null, .null, .null, .null, .null, .null, .null, .null, .null, .null] w_451 h469 O473 f476 q469_0 q469_1 q469_2 q469_3 Vl474 (by first | assumption | rfl | decide | exact Nat.le_of_ble_eq_true rfl) (by first | assumption | rfl | decide | exact Nat.le_of_ble_eq_true rfl) (by first | assumption | rfl | decide | exact Nat.le_of_ble_eq_true rfl) (by first | assumption | rfl | decide | exact Nat.le_of_ble_eq_true rfl) (by first | assumption | rfl | decide | exact Nat.le_of_ble_eq_true rfl) (by first | assumption | rfl | decide | exact Nat.le_of_ble_eq_true rfl) (Nat.le_trans (Nat.le_trans (Nat.le_trans (Nat.le_of_eq O0.1.symm) O0.2.1) KK428.1) q427_0) (Nat.le_trans (Nat.le_trans (Nat.le_trans (Nat.le_of_eq O0.1.symm) O0.2.1) KK428.1) q427_1) q427_4 f478 f479) hZ (w 187 _ rfl) (w 75 _ rfl) (by decide) (by decide)) e469 f482 (by rw [hml]; rfl) (rest := []) (lenOf pd27 rfl) rfl (Nat.le_of_eq rfl) (hb hby at_211) rfl (by decide) (by decide) ?_
      intro T480 h480 v480 L480 X480 e480 hQ480
      obtain ⟨rfl, Nq480, K480, q480_0, q480_1, q480_2, q480_3, q480_4⟩ := hQ480
      have KK483 : Keep h0 h469 [] := (KK472.trans K469 (allS (Or.inr (Nat.le_trans KK428.1 q427_1)) (allS (Or.inr (Nat.le_trans KK428.1 q427_0)) all0)))
      have N480 := Fk.app N469 Nq480 KK483.1 (allS (Or.inr (Nat.le_trans KK428.1 q427_1)) (allS (Or.inr (Nat.le_trans KK428.1 q427_0)) all0))
      have O484 : Old Z Z.heap.size h480 := O473.keep K480 (allS (Nat.le_trans (Nat.le_trans (Nat.le_trans (Nat.le_of_eq O0.1.symm) O0.2.1) KK428.1) q427_1) (allS (Nat.le_trans (Nat.le_trans (Nat.le_trans (Nat.le_of_eq O0.1.symm) O0.2.1) KK428.1) q427_0) all0))
      have Vl485 : Arv Z h480 el427 kE427 (.object "java/lang/Object") (17 : Int32) [.null, .null, (.ref w_458), .null, .null, .null, .null, .null, .null, .null, .null, .null, .null, .null, .null, .null, .null] .null := q480_4
      show Wp p e below _ _ T480 (mkF m 214 #[.val (.int p0), .val (.int p1), .val (.int p2), .val (.int p3), .val (.long j1), .second, .val (.long j2), .second, .val (.long j3), .second, .val (.ref a4), .val (.int (3 : Int32)), .val (.int (2 : Int32)), .val (.ref x36), .val (.ref a423), .val (.int (1 : Int32)), .unset, .unset] [.null])
      refine Wk.pop X480 hx (hb hby at_214) rfl rfl ?_
      refine Wk.iload X480 hx (hb hby at_215) rfl rfl ?_
      refine Wk.iconst X480 hx (v := (3 : Int32)) (hb hby at_217) rfl rfl ?_
      refine Wk.icmpYes X480 hx (hb hby at_218) (by decide) (q := 227) rfl (tlt (by decide : (2 : Int32) < (3 : Int32))).1 ?_
      refine Wk.aload X480 hx (hb hby at_227) rfl rfl rfl ?_
      have KK486 : Keep h469 h480 [el427, d427] := ((Keep.refl h469 [el427, d427]).trans K480 (allS (Or.inl (List.mem_of_getElem? (i := 0) rfl)) (allS (Or.inl (List.mem_of_getElem? (i := 1) rfl)) all0)))
      have f487 : Fld Z h480 a423 "com/example/accumulus/accumulus/account/LoanAccount" "waiting" "Ljava/util/ArrayDeque;" (.ref d427) := (f476.keep KK486 (ninS (Nat.ne_of_lt (Nat.lt_of_lt_of_le A423.lt q427_1)) (ninS (Nat.ne_of_lt (Nat.lt_of_lt_of_le A423.lt q427_0)) nin0)))
      have KK488 : Keep h458 h480 [el427, d427] := (KK475.trans K480 (allS (Or.inl (List.mem_of_getElem? (i := 0) rfl)) (allS (Or.inl (List.mem_of_getElem? (i := 1) rfl)) all0)))
      have f489 : Exa Z h480 w_458 "com/example/accumulus/accumulus/account/LoanAccount$Waiting" := (q458_1.keep KK488)
      have f490 : Fld Z h480 w_458 "com/example/accumulus/accumulus/account/LoanAccount$Waiting" "pricingDate" "Ljava/time/LocalDate;" (.ref x36) := (q458_2.keep KK488 (ninS (Exa.neArv f489 Vl485 (w 146 _ rfl)) (ninS (Ne.symm (Nat.ne_of_lt (Nat.lt_of_lt_of_le q451_4.lt q458_0))) nin0)))
      have KK492 : Keep h423 h480 [a423] := (KK481.trans K480 (allS (Or.inr q427_1) (allS (Or.inr q427_0) all0)))
      have f493 : Exa Z h480 a423 "com/example/accumulus/accumulus/account/LoanAccount" := (A423.keep KK492)
      refine Wk.callV X480 hx hZ (y := (⟨"com/example/accumulus/accumulus/account/LoanAccount", "nextWaitingDay", "()Ljava/time/LocalDate;"⟩ : MethodName)) (z := (⟨"com/example/accumulus/accumulus/account/LoanAccount", "nextWaitingDay", "()Ljava/time/LocalDate;"⟩ : MethodName)) hown (w 120 _ rfl) (w 121 _ rfl) (notFace_of_selects (args := #[]) (mvT hZ (w 123 _ rfl))) (w 123 _ rfl) (w 122 _ rfl) (by decide) (as' := []) (backOf (W := 0) (rm_nwR l Z a0 hw [] a423 d427 el427 (2 : Int32) kE427 [.null, .null, (.ref w_458), .null, .null, .null, .null, .null, .null, .null, .null, .null, .null, .null, .null, .null, .null] w_458 x36 h480 O484 f487 q480_0 q480_1 q480_2 Vl485 (by first | assumption | rfl | decide | exact Nat.le_of_ble_eq_true rfl) (by first | assumption | rfl | decide | exact Nat.le_of_ble_eq_true rfl) (by first | assumption | rfl | decide | exact Nat.le_of_ble_eq_true rfl) f489 f490) hZ (w 124 _ rfl) (w 75 _ rfl) (by decide) (by decide)) e480 f493 (by rw [hml]; rfl) (rest := []) (lenOf pd25 rfl) rfl (Nat.le_of_eq rfl) (hb hby at_229) rfl (by decide) (by decide) ?_
      intro T491 h491 v491 L491 X491 e491 hQ491
      obtain ⟨rfl, Nq491, K491⟩ := hQ491
      have KK494 : Keep h0 h480 [] := (KK483.trans K480 (allS (Or.inr (Nat.le_trans KK428.1 q427_1)) (allS (Or.inr (Nat.le_trans KK428.1 q427_0)) all0)))
      have N491 := Fk.app N480 Nq491 KK494.1 all0
      rw [K491] at e491
      show Wp p e below _ _ T491 (mkF m 232 #[.val (.int p0), .val (.int p1), .val (.int p2), .val (.int p3), .val (.long j1), .second, .val (.long j2), .second, .val (.long j3), .second, .val (.ref a4), .val (.int (3 : Int32)), .val (.int (2 : Int32)), .val (.ref x36), .val (.ref a423), .val (.int (1 : Int32)), .unset, .unset] [(.ref x36)])
      refine Wk.astore X491 hx (Ls' := #[.val (.int p0), .val (.int p1), .val (.int p2), .val (.int p3), .val (.long j1), .second, .val (.long j2), .second, .val (.long j3), .second, .val (.ref a4), .val (.int (3 : Int32)), .val (.int (2 : Int32)), .val (.ref x36), .val (.ref a423), .val (.int (1 : Int32)), .val (.ref x36), .unset]) (hb hby at_232) rfl rfl rfl ?_
      refine Wk.iload X491 hx (hb hby at_234) rfl rfl ?_
      refine Wk.ifNo X491 hx (hb hby at_236) rfl ((if0 _ _).trans (feq (by decide : ¬ ((1 : Int32) = (0 : Int32)))).1) ?_
      refine Wk.aload X491 hx (hb hby at_239) rfl rfl rfl ?_
      refine Wk.aload X491 hx (hb hby at_241) rfl rfl rfl ?_
      have KK495 : Keep h36 h40 [a4] := ((Keep.refl h36 [a4]).wr W40 (Or.inl (List.mem_of_getElem? (i := 0) rfl)))
      have KK496 : Keep h36 h423 [a4] := (KK495.ext E423)
      have KK497 : Keep h36 h480 [a4] := (((((((((Keep.refl h36 [a4]).wr W40 (Or.inl (List.mem_of_getElem? (i := 0) rfl))).ext E423).trans K427 (allS (Or.inr (Nat.le_trans KK495.1 (Nat.le_of_eq g423))) all0)).trans K434 (allS (Or.inr (Nat.le_trans KK496.1 q427_0)) (allS (Or.inr (Nat.le_trans KK496.1 q427_1)) all0))).trans K451 (allS (Or.inr (Nat.le_trans KK496.1 q427_0)) (allS (Or.inr (Nat.le_trans KK496.1 q427_1)) all0))).trans K458 (allS (Or.inr (Nat.le_trans KK496.1 q427_0)) (allS (Or.inr (Nat.le_trans KK496.1 q427_1)) all0))).trans K469 (allS (Or.inr (Nat.le_trans KK496.1 q427_1)) (allS (Or.inr (Nat.le_trans KK496.1 q427_0)) all0))).trans K480 (allS (Or.inr (Nat.le_trans KK496.1 q427_1)) (allS (Or.inr (Nat.le_trans KK496.1 q427_0)) all0)))
      have f498 : Exa Z h480 x36 "java/time/LocalDate" := (q36_1.keep KK497)
      refine Wk.callS X491 hx hZ hown (w 174 _ rfl) (w 175 _ rfl) (w 176 _ rfl) (w 177 _ rfl) (by decide) (as' := [(.ref x36), (.ref x36)]) (backOf (W := 0) (rm_smR l Z a0 hw [] x36 h480 O484 f498) hZ (w 177 _ rfl) (w 176 _ rfl) (by decide) (by decide)) e491 (by rw [hml]; rfl) (rest := []) (lenOf pd26 rfl) rfl (Nat.le_of_eq rfl) (hb hby at_243) rfl (by decide) (by decide) ?_
      intro T499 h499 v499 L499 X499 e499 hQ499
      obtain ⟨rfl, Nq499, K499⟩ := hQ499
      have N499 := Fk.app N491 Nq499 KK494.1 all0
      rw [K499] at e499
      show Wp p e below _ _ T499 (mkF m 246 #[.val (.int p0), .val (.int p1), .val (.int p2), .val (.int p3), .val (.long j1), .second, .val (.long j2), .second, .val (.long j3), .second, .val (.ref a4), .val (.int (3 : Int32)), .val (.int (2 : Int32)), .val (.ref x36), .val (.ref a423), .val (.int (1 : Int32)), .val (.ref x36), .unset] [(.int (1 : Int32))])
      refine Wk.ifNo X499 hx (hb hby at_246) rfl ((if0 _ _).trans (feq (by decide : ¬ ((1 : Int32) = (0 : Int32)))).1) ?_
      refine Wk.iconst X499 hx (v := (1 : Int32)) (hb hby at_249) rfl rfl ?_
      refine Wk.goto X499 hx (hb hby at_250) (by decide) (q := 254) rfl ?_
      refine Wk.istore X499 hx (Ls' := #[.val (.int p0), .val (.int p1), .val (.int p2), .val (.int p3), .val (.long j1), .second, .val (.long j2), .second, .val (.long j3), .second, .val (.ref a4), .val (.int (3 : Int32)), .val (.int (2 : Int32)), .val (.ref x36), .val (.ref a423), .val (.int (1 : Int32)), .val (.ref x36), .unset]) (hb hby at_254) rfl rfl ?_
      refine Wk.aload X499 hx (hb hby at_256) rfl rfl rfl ?_
      refine Wk.callV X499 hx hZ (y := (⟨"com/example/accumulus/accumulus/account/LoanAccount", "nextWaitingDay", "()Ljava/time/LocalDate;"⟩ : MethodName)) (z := (⟨"com/example/accumulus/accumulus/account/LoanAccount", "nextWaitingDay", "()Ljava/time/LocalDate;"⟩ : MethodName)) hown (w 120 _ rfl) (w 121 _ rfl) (notFace_of_selects (args := #[]) (mvT hZ (w 123 _ rfl))) (w 123 _ rfl) (w 122 _ rfl) (by decide) (as' := []) (backOf (W := 0) (rm_nwR l Z a0 hw [] a423 d427 el427 (2 : Int32) kE427 [.null, .null, (.ref w_458), .null, .null, .null, .null, .null, .null, .null, .null, .null, .null, .null, .null, .null, .null] w_458 x36 h480 O484 f487 q480_0 q480_1 q480_2 Vl485 (by first | assumption | rfl | decide | exact Nat.le_of_ble_eq_true rfl) (by first | assumption | rfl | decide | exact Nat.le_of_ble_eq_true rfl) (by first | assumption | rfl | decide | exact Nat.le_of_ble_eq_true rfl) f489 f490) hZ (w 124 _ rfl) (w 75 _ rfl) (by decide) (by decide)) e499 f493 (by rw [hml]; rfl) (rest := []) (lenOf pd25 rfl) rfl (Nat.le_of_eq rfl) (hb hby at_258) rfl (by decide) (by decide) ?_
      intro T500 h500 v500 L500 X500 e500 hQ500
      obtain ⟨rfl, Nq500, K500⟩ := hQ500
      have N500 := Fk.app N499 Nq500 KK494.1 all0
      rw [K500] at e500
      show Wp p e below _ _ T500 (mkF m 261 #[.val (.int p0), .val (.int p1), .val (.int p2), .val (.int p3), .val (.long j1), .second, .val (.long j2), .second, .val (.long j3), .second, .val (.ref a4), .val (.int (3 : Int32)), .val (.int (2 : Int32)), .val (.ref x36), .val (.ref a423), .val (.int (1 : Int32)), .val (.ref x36), .unset] [(.ref x36)])
      refine Wk.astore X500 hx (Ls' := #[.val (.int p0), .val (.int p1), .val (.int p2), .val (.int p3), .val (.long j1), .second, .val (.long j2), .second, .val (.long j3), .second, .val (.ref a4), .val (.int (3 : Int32)), .val (.int (2 : Int32)), .val (.ref x36), .val (.ref a423), .val (.int (1 : Int32)), .val (.ref x36), .val (.ref x36)]) (hb hby at_261) rfl rfl rfl ?_
      refine Wk.iload X500 hx (hb hby at_263) rfl rfl ?_
      refine Wk.ifNo X500 hx (hb hby at_265) rfl ((if0 _ _).trans (feq (by decide : ¬ ((1 : Int32) = (0 : Int32)))).1) ?_
      refine Wk.aload X500 hx (hb hby at_268) rfl rfl rfl ?_
      refine Wk.aload X500 hx (hb hby at_270) rfl rfl rfl ?_
      refine Wk.callS X500 hx hZ hown (w 174 _ rfl) (w 175 _ rfl) (w 176 _ rfl) (w 177 _ rfl) (by decide) (as' := [(.ref x36), (.ref x36)]) (backOf (W := 0) (rm_smR l Z a0 hw [] x36 h480 O484 f498) hZ (w 177 _ rfl) (w 176 _ rfl) (by decide) (by decide)) e500 (by rw [hml]; rfl) (rest := []) (lenOf pd26 rfl) rfl (Nat.le_of_eq rfl) (hb hby at_272) rfl (by decide) (by decide) ?_
      intro T501 h501 v501 L501 X501 e501 hQ501
      obtain ⟨rfl, Nq501, K501⟩ := hQ501
      have N501 := Fk.app N500 Nq501 KK494.1 all0
      rw [K501] at e501
      show Wp p e below _ _ T501 (mkF m 275 #[.val (.int p0), .val (.int p1), .val (.int p2), .val (.int p3), .val (.long j1), .second, .val (.long j2), .second, .val (.long j3), .second, .val (.ref a4), .val (.int (3 : Int32)), .val (.int (2 : Int32)), .val (.ref x36), .val (.ref a423), .val (.int (1 : Int32)), .val (.ref x36), .val (.ref x36)] [(.int (1 : Int32))])
      refine Wk.ifNo X501 hx (hb hby at_275) rfl ((if0 _ _).trans (feq (by decide : ¬ ((1 : Int32) = (0 : Int32)))).1) ?_
      refine Wk.iconst X501 hx (v := (1 : Int32)) (hb hby at_278) rfl rfl ?_
      refine Wk.goto X501 hx (hb hby at_279) (by decide) (q := 283) rfl ?_
      refine Wk.istore X501 hx (Ls' := #[.val (.int p0), .val (.int p1), .val (.int p2), .val (.int p3), .val (.long j1), .second, .val (.long j2), .second, .val (.long j3), .second, .val (.ref a4), .val (.int (3 : Int32)), .val (.int (2 : Int32)), .val (.ref x36), .val (.ref a423), .val (.int (1 : Int32)), .val (.ref x36), .val (.ref x36)]) (hb hby at_283) rfl rfl ?_
      refine Wk.iload X501 hx (hb hby at_285) rfl rfl ?_
      exact Wk.retZ' X501 hx hlk hr (by simp) (hb hby at_287) (by decide) (by decide) (Qc := Q_rm_law Z p0 p1 p2 p3 u vr_ ed h0) e501 ⟨rfl, N501, KK494⟩
    · skip
      refine Wk.istore X298 hx (Ls' := #[.val (.int p0), .val (.int p1), .val (.int p2), .val (.int p3), .val (.long j1), .second, .val (.long j2), .second, .val (.long j3), .second, .val (.ref a4), .val (.int (3 : Int32)), .val (.int (3 : Int32)), .unset, .unset, .unset, .unset, .unset]) (hb hby at_72) rfl rfl ?_
      refine Wk.iload X298 hx (hb hby at_74) rfl rfl ?_
      refine Wk.iload X298 hx (hb hby at_76) rfl rfl ?_
      refine Wk.icmpYes X298 hx (hb hby at_78) (by decide) (q := 89) rfl (flt (by decide : ¬ ((3 : Int32) < (3 : Int32)))).2.1 ?_
      refine Wk.aconstNull X298 hx (hb hby at_89) rfl ?_
      refine Wk.astore X298 hx (Ls' := #[.val (.int p0), .val (.int p1), .val (.int p2), .val (.int p3), .val (.long j1), .second, .val (.long j2), .second, .val (.long j3), .second, .val (.ref a4), .val (.int (3 : Int32)), .val (.int (3 : Int32)), .val .null, .unset, .unset, .unset, .unset]) (hb hby at_90) rfl rfl rfl ?_
      refine Wk.new X298 hx hZ hown (w 73 _ rfl) (w 74 _ rfl) (w 75 _ rfl) e298 (hb hby at_92) rfl (by decide) (by decide) ?_
      intro T502 h502 a502 g502 X502 e502 E502 A502 D502
      have O503 : Old Z Z.heap.size h502 := O41.ext E502
      have f504 : Fld Z h502 a502 "com/example/accumulus/accumulus/account/LoanAccount" "loans" "Ljava/util/List;" .null := D502 (Or.inr (w 105 _ rfl)) (ty := (.object "java/util/List")) (by decide)
      have f505 : Fld Z h502 a502 "com/example/accumulus/accumulus/account/LoanAccount" "waiting" "Ljava/util/ArrayDeque;" .null := D502 (Or.inr (w 119 _ rfl)) (ty := (.object "java/util/ArrayDeque")) (by decide)
      refine Wk.dup X502 hx (hb hby at_95) rfl rfl ?_
      refine Wk.callI X502 hx hZ rfl hown (w 76 _ rfl) (w 77 _ rfl) (w 78 _ rfl) (by decide) (as' := []) (backOf (W := 1) (rm_lai l Z a0 hw [] a502 ed h502 O503 A502 f504 f505 (Nat.le_trans (Nat.le_trans (Nat.le_trans (Nat.le_of_eq O0.1.symm) O0.2.1) KK299.1) (Nat.le_of_eq g502)) sD) hZ (w 78 _ rfl) (w 75 _ rfl) (by decide) (by decide)) e502 (by rw [hml]; rfl) (rest := [(.ref a502)]) (lenOf pd12 rfl) rfl (Nat.le_of_eq rfl) (hb hby at_96) rfl (by decide) (by decide) ?_
      intro T506 h506 v506 L506 X506 e506 hQ506
      obtain ⟨d506, el506, kE506, rfl, Nq506, K506, q506_0, q506_1, q506_2, q506_3, q506_4, q506_5, q506_6, q506_7, q506_8, q506_9⟩ := hQ506
      have KK507 : Keep h0 h502 [] := (KK299.ext E502)
      have N506 := Fk.app N298 Nq506 KK507.1 (allS (Or.inr (Nat.le_trans KK299.1 (Nat.le_of_eq g502))) all0)
      have O508 : Old Z Z.heap.size h506 := O503.keep K506 (allS (Nat.le_trans (Nat.le_trans (Nat.le_trans (Nat.le_of_eq O0.1.symm) O0.2.1) KK299.1) (Nat.le_of_eq g502)) all0)
      show Wp p e below _ _ T506 (mkF m 99 #[.val (.int p0), .val (.int p1), .val (.int p2), .val (.int p3), .val (.long j1), .second, .val (.long j2), .second, .val (.long j3), .second, .val (.ref a4), .val (.int (3 : Int32)), .val (.int (3 : Int32)), .val .null, .unset, .unset, .unset, .unset] [(.ref a502)])
      refine Wk.astore X506 hx (Ls' := #[.val (.int p0), .val (.int p1), .val (.int p2), .val (.int p3), .val (.long j1), .second, .val (.long j2), .second, .val (.long j3), .second, .val (.ref a4), .val (.int (3 : Int32)), .val (.int (3 : Int32)), .val .null, .val (.ref a502), .unset, .unset, .unset]) (hb hby at_99) rfl rfl rfl ?_
      refine Wk.aload X506 hx (hb hby at_101) rfl rfl rfl ?_
      refine Wk.callV X506 hx hZ (y := (⟨"com/example/accumulus/accumulus/account/LoanAccount", "nextWaitingDay", "()Ljava/time/LocalDate;"⟩ : MethodName)) (z := (⟨"com/example/accumulus/accumulus/account/LoanAccount", "nextWaitingDay", "()Ljava/time/LocalDate;"⟩ : MethodName)) hown (w 120 _ rfl) (w 121 _ rfl) (notFace_of_selects (args := #[]) (mvT hZ (w 123 _ rfl))) (w 123 _ rfl) (w 122 _ rfl) (by decide) (as' := []) (backOf (W := 0) (rm_nwN l Z a0 hw [] a502 d506 el506 (0 : Int32) kE506 [.null, .null, .null, .null, .null, .null, .null, .null, .null, .null, .null, .null, .null, .null, .null, .null, .null] h506 O508 q506_3 q506_5 q506_6 q506_7 q506_9 (by first | assumption | rfl | decide | exact Nat.le_of_ble_eq_true rfl) (by first | assumption | rfl | decide | exact Nat.le_of_ble_eq_true rfl) (by first | assumption | rfl | decide | exact Nat.le_of_ble_eq_true rfl)) hZ (w 124 _ rfl) (w 75 _ rfl) (by decide) (by decide)) e506 q506_2 (by rw [hml]; rfl) (rest := []) (lenOf pd25 rfl) rfl (Nat.le_of_eq rfl) (hb hby at_103) rfl (by decide) (by decide) ?_
      intro T509 h509 v509 L509 X509 e509 hQ509
      obtain ⟨rfl, Nq509, K509⟩ := hQ509
      have KK510 : Keep h0 h506 [] := (KK507.trans K506 (allS (Or.inr (Nat.le_trans KK299.1 (Nat.le_of_eq g502))) all0))
      have N509 := Fk.app N506 Nq509 KK510.1 all0
      rw [K509] at e509
      show Wp p e below _ _ T509 (mkF m 106 #[.val (.int p0), .val (.int p1), .val (.int p2), .val (.int p3), .val (.long j1), .second, .val (.long j2), .second, .val (.long j3), .second, .val (.ref a4), .val (.int (3 : Int32)), .val (.int (3 : Int32)), .val .null, .val (.ref a502), .unset, .unset, .unset] [.null])
      refine Wk.ifnonnullNo X509 hx (hb hby at_106) rfl ?_
      refine Wk.iconst X509 hx (v := (1 : Int32)) (hb hby at_109) rfl rfl ?_
      refine Wk.goto X509 hx (hb hby at_110) (by decide) (q := 114) rfl ?_
      refine Wk.istore X509 hx (Ls' := #[.val (.int p0), .val (.int p1), .val (.int p2), .val (.int p3), .val (.long j1), .second, .val (.long j2), .second, .val (.long j3), .second, .val (.ref a4), .val (.int (3 : Int32)), .val (.int (3 : Int32)), .val .null, .val (.ref a502), .val (.int (1 : Int32)), .unset, .unset]) (hb hby at_114) rfl rfl ?_
      refine Wk.iload X509 hx (hb hby at_116) rfl rfl ?_
      refine Wk.iconst X509 hx (v := (1 : Int32)) (hb hby at_118) rfl rfl ?_
      refine Wk.icmpNo X509 hx (hb hby at_119) rfl (flt (by decide : ¬ ((3 : Int32) < (1 : Int32)))).1 ?_
      refine Wk.aload X509 hx (hb hby at_122) rfl rfl rfl ?_
      refine Wk.aconstNull X509 hx (hb hby at_124) rfl ?_
      refine Wk.aload X509 hx (hb hby at_125) rfl rfl rfl ?_
      refine Wk.iconst X509 hx (v := (0 : Int32)) (hb hby at_127) rfl rfl ?_
      have KK511 : Keep h40 h506 [] := (((Keep.refl h40 []).ext E502).trans K506 (allS (Or.inr (Nat.le_of_eq g502)) all0))
      have f512 : Arv Z h506 a4 kA4 (.object "java/time/LocalDate") (3 : Int32) [(.ref x12), (.ref x24), (.ref x36)] .null := (V40.keep KK511 nin0)
      refine Wk.aaload X509 hx hZ e509 (C := (.object "java/time/LocalDate")) f512 (by decide) (by decide) (v := (.ref x12)) rfl rfl (hb hby at_128) rfl ?_
      refine Wk.callV X509 hx hZ (y := (⟨"com/example/accumulus/accumulus/account/LoanAccount", "await", "(Lcom/example/accumulus/accumulus/journal/JournalEntry;Ljava/time/LocalDate;)V"⟩ : MethodName)) (z := (⟨"com/example/accumulus/accumulus/account/LoanAccount", "await", "(Lcom/example/accumulus/accumulus/journal/JournalEntry;Ljava/time/LocalDate;)V"⟩ : MethodName)) hown (w 140 _ rfl) (w 141 _ rfl) (notFace_of_selects (args := #[]) (mvT hZ (w 143 _ rfl))) (w 143 _ rfl) (w 142 _ rfl) (by decide) (as' := [.null, (.ref x12)]) (backOf (W := 0) (rm_awt l Z a0 hw [] a502 d506 el506 (0 : Int32) (0 : Int32) (1 : Int32) kE506 [.null, .null, .null, .null, .null, .null, .null, .null, .null, .null, .null, .null, .null, .null, .null, .null, .null] x12 h506 O508 q506_3 q506_5 q506_6 q506_7 q506_8 q506_9 (by first | assumption | rfl | decide | exact Nat.le_of_ble_eq_true rfl) (by first | assumption | rfl | decide | exact Nat.le_of_ble_eq_true rfl) (by first | assumption | rfl | decide | exact Nat.le_of_ble_eq_true rfl) (by first | assumption | rfl | decide | exact Nat.le_of_ble_eq_true rfl) (by first | assumption | rfl | decide | exact Nat.le_of_ble_eq_true rfl) (by first | assumption | rfl | decide | exact Nat.le_of_ble_eq_true rfl) (Nat.le_trans (Nat.le_trans (Nat.le_trans (Nat.le_of_eq O0.1.symm) O0.2.1) KK507.1) q506_0) (Nat.le_trans (Nat.le_trans (Nat.le_trans (Nat.le_of_eq O0.1.symm) O0.2.1) KK507.1) q506_1) q506_4) hZ (w 144 _ rfl) (w 75 _ rfl) (by decide) (by decide)) e509 q506_2 (by rw [hml]; rfl) (rest := []) (lenOf pd21 rfl) rfl (Nat.le_of_eq rfl) (hb hby at_129) rfl (by decide) (by decide) ?_
      intro T513 h513 v513 L513 X513 e513 hQ513
      obtain ⟨w_513, rfl, Nq513, K513, q513_0, q513_1, q513_2, q513_3, q513_4, q513_5, q513_6, q513_7, q513_8⟩ := hQ513
      have N513 := Fk.app N509 Nq513 KK510.1 (allS (Or.inr (Nat.le_trans KK507.1 q506_0)) (allS (Or.inr (Nat.le_trans KK507.1 q506_1)) all0))
      have O514 : Old Z Z.heap.size h513 := O508.keep K513 (allS (Nat.le_trans (Nat.le_trans (Nat.le_trans (Nat.le_of_eq O0.1.symm) O0.2.1) KK507.1) q506_0) (allS (Nat.le_trans (Nat.le_trans (Nat.le_trans (Nat.le_of_eq O0.1.symm) O0.2.1) KK507.1) q506_1) all0))
      have Vl515 : Arv Z h513 el506 kE506 (.object "java/lang/Object") (17 : Int32) [(.ref w_513), .null, .null, .null, .null, .null, .null, .null, .null, .null, .null, .null, .null, .null, .null, .null, .null] .null := q513_8
      show Wp p e below _ _ T513 (mkF m 132 #[.val (.int p0), .val (.int p1), .val (.int p2), .val (.int p3), .val (.long j1), .second, .val (.long j2), .second, .val (.long j3), .second, .val (.ref a4), .val (.int (3 : Int32)), .val (.int (3 : Int32)), .val .null, .val (.ref a502), .val (.int (1 : Int32)), .unset, .unset] [])
      refine Wk.iload X513 hx (hb hby at_132) rfl rfl ?_
      refine Wk.ifNo X513 hx (hb hby at_134) rfl ((if0 _ _).trans (feq (by decide : ¬ ((1 : Int32) = (0 : Int32)))).1) ?_
      refine Wk.aload X513 hx (hb hby at_137) rfl rfl rfl ?_
      have KK516 : Keep h506 h513 [d506, el506] := ((Keep.refl h506 [d506, el506]).trans K513 (allS (Or.inl (List.mem_of_getElem? (i := 0) rfl)) (allS (Or.inl (List.mem_of_getElem? (i := 1) rfl)) all0)))
      have f517 : Fld Z h513 a502 "com/example/accumulus/accumulus/account/LoanAccount" "waiting" "Ljava/util/ArrayDeque;" (.ref d506) := (q506_3.keep KK516 (ninS (Nat.ne_of_lt (Nat.lt_of_lt_of_le A502.lt q506_0)) (ninS (Nat.ne_of_lt (Nat.lt_of_lt_of_le A502.lt q506_1)) nin0)))
      have KK519 : Keep h502 h513 [a502] := (((Keep.refl h502 [a502]).trans K506 (allS (Or.inl (List.mem_of_getElem? (i := 0) rfl)) all0)).trans K513 (allS (Or.inr q506_0) (allS (Or.inr q506_1) all0)))
      have f520 : Exa Z h513 a502 "com/example/accumulus/accumulus/account/LoanAccount" := (A502.keep KK519)
      refine Wk.callV X513 hx hZ (y := (⟨"com/example/accumulus/accumulus/account/LoanAccount", "nextWaitingDay", "()Ljava/time/LocalDate;"⟩ : MethodName)) (z := (⟨"com/example/accumulus/accumulus/account/LoanAccount", "nextWaitingDay", "()Ljava/time/LocalDate;"⟩ : MethodName)) hown (w 120 _ rfl) (w 121 _ rfl) (notFace_of_selects (args := #[]) (mvT hZ (w 123 _ rfl))) (w 123 _ rfl) (w 122 _ rfl) (by decide) (as' := []) (backOf (W := 0) (rm_nwR l Z a0 hw [] a502 d506 el506 (0 : Int32) kE506 [(.ref w_513), .null, .null, .null, .null, .null, .null, .null, .null, .null, .null, .null, .null, .null, .null, .null, .null] w_513 x12 h513 O514 f517 q513_4 q513_5 q513_6 Vl515 (by first | assumption | rfl | decide | exact Nat.le_of_ble_eq_true rfl) (by first | assumption | rfl | decide | exact Nat.le_of_ble_eq_true rfl) (by first | assumption | rfl | decide | exact Nat.le_of_ble_eq_true rfl) q513_1 q513_2) hZ (w 124 _ rfl) (w 75 _ rfl) (by decide) (by decide)) e513 f520 (by rw [hml]; rfl) (rest := []) (lenOf pd25 rfl) rfl (Nat.le_of_eq rfl) (hb hby at_139) rfl (by decide) (by decide) ?_
      intro T518 h518 v518 L518 X518 e518 hQ518
      obtain ⟨rfl, Nq518, K518⟩ := hQ518
      have KK521 : Keep h0 h513 [] := (KK510.trans K513 (allS (Or.inr (Nat.le_trans KK507.1 q506_0)) (allS (Or.inr (Nat.le_trans KK507.1 q506_1)) all0)))
      have N518 := Fk.app N513 Nq518 KK521.1 all0
      rw [K518] at e518
      show Wp p e below _ _ T518 (mkF m 142 #[.val (.int p0), .val (.int p1), .val (.int p2), .val (.int p3), .val (.long j1), .second, .val (.long j2), .second, .val (.long j3), .second, .val (.ref a4), .val (.int (3 : Int32)), .val (.int (3 : Int32)), .val .null, .val (.ref a502), .val (.int (1 : Int32)), .unset, .unset] [(.ref x12)])
      refine Wk.aload X518 hx (hb hby at_142) rfl rfl rfl ?_
      refine Wk.iconst X518 hx (v := (0 : Int32)) (hb hby at_144) rfl rfl ?_
      have KK522 : Keep h40 h502 [] := ((Keep.refl h40 []).ext E502)
      have KK523 : Keep h40 h513 [] := (KK511.trans K513 (allS (Or.inr (Nat.le_trans KK522.1 q506_0)) (allS (Or.inr (Nat.le_trans KK522.1 q506_1)) all0)))
      have f524 : Arv Z h513 a4 kA4 (.object "java/time/LocalDate") (3 : Int32) [(.ref x12), (.ref x24), (.ref x36)] .null := (V40.keep KK523 nin0)
      refine Wk.aaload X518 hx hZ e518 (C := (.object "java/time/LocalDate")) f524 (by decide) (by decide) (v := (.ref x12)) rfl rfl (hb hby at_145) rfl ?_
      have KK525 : Keep h12 h40 [a4] := ((((((Keep.refl h12 [a4]).wr W16 (Or.inl (List.mem_of_getElem? (i := 0) rfl))).trans K24 all0).wr W28 (Or.inl (List.mem_of_getElem? (i := 0) rfl))).trans K36 all0).wr W40 (Or.inl (List.mem_of_getElem? (i := 0) rfl)))
      have KK526 : Keep h12 h502 [a4] := (KK525.ext E502)
      have KK527 : Keep h12 h513 [a4] := (((((((((Keep.refl h12 [a4]).wr W16 (Or.inl (List.mem_of_getElem? (i := 0) rfl))).trans K24 all0).wr W28 (Or.inl (List.mem_of_getElem? (i := 0) rfl))).trans K36 all0).wr W40 (Or.inl (List.mem_of_getElem? (i := 0) rfl))).ext E502).trans K506 (allS (Or.inr (Nat.le_trans KK525.1 (Nat.le_of_eq g502))) all0)).trans K513 (allS (Or.inr (Nat.le_trans KK526.1 q506_0)) (allS (Or.inr (Nat.le_trans KK526.1 q506_1)) all0)))
      have f528 : Exa Z h513 x12 "java/time/LocalDate" := (q12_1.keep KK527)
      refine Wk.callS X518 hx hZ hown (w 174 _ rfl) (w 175 _ rfl) (w 176 _ rfl) (w 177 _ rfl) (by decide) (as' := [(.ref x12), (.ref x12)]) (backOf (W := 0) (rm_smR l Z a0 hw [] x12 h513 O514 f528) hZ (w 177 _ rfl) (w 176 _ rfl) (by decide) (by decide)) e518 (by rw [hml]; rfl) (rest := []) (lenOf pd26 rfl) rfl (Nat.le_of_eq rfl) (hb hby at_146) rfl (by decide) (by decide) ?_
      intro T529 h529 v529 L529 X529 e529 hQ529
      obtain ⟨rfl, Nq529, K529⟩ := hQ529
      have N529 := Fk.app N518 Nq529 KK521.1 all0
      rw [K529] at e529
      show Wp p e below _ _ T529 (mkF m 149 #[.val (.int p0), .val (.int p1), .val (.int p2), .val (.int p3), .val (.long j1), .second, .val (.long j2), .second, .val (.long j3), .second, .val (.ref a4), .val (.int (3 : Int32)), .val (.int (3 : Int32)), .val .null, .val (.ref a502), .val (.int (1 : Int32)), .unset, .unset] [(.int (1 : Int32))])
      refine Wk.ifNo X529 hx (hb hby at_149) rfl ((if0 _ _).trans (feq (by decide : ¬ ((1 : Int32) = (0 : Int32)))).1) ?_
      refine Wk.iconst X529 hx (v := (1 : Int32)) (hb hby at_152) rfl rfl ?_
      refine Wk.goto X529 hx (hb hby at_153) (by decide) (q := 157) rfl ?_
      refine Wk.istore X529 hx (Ls' := #[.val (.int p0), .val (.int p1), .val (.int p2), .val (.int p3), .val (.long j1), .second, .val (.long j2), .second, .val (.long j3), .second, .val (.ref a4), .val (.int (3 : Int32)), .val (.int (3 : Int32)), .val .null, .val (.ref a502), .val (.int (1 : Int32)), .unset, .unset]) (hb hby at_157) rfl rfl ?_
      refine Wk.iload X529 hx (hb hby at_159) rfl rfl ?_
      refine Wk.iconst X529 hx (v := (2 : Int32)) (hb hby at_161) rfl rfl ?_
      refine Wk.icmpNo X529 hx (hb hby at_162) rfl (flt (by decide : ¬ ((3 : Int32) < (2 : Int32)))).1 ?_
      refine Wk.aload X529 hx (hb hby at_165) rfl rfl rfl ?_
      refine Wk.aconstNull X529 hx (hb hby at_167) rfl ?_
      refine Wk.aload X529 hx (hb hby at_168) rfl rfl rfl ?_
      refine Wk.iconst X529 hx (v := (1 : Int32)) (hb hby at_170) rfl rfl ?_
      refine Wk.aaload X529 hx hZ e529 (C := (.object "java/time/LocalDate")) f524 (by decide) (by decide) (v := (.ref x24)) rfl rfl (hb hby at_171) rfl ?_
      refine Wk.callV X529 hx hZ (y := (⟨"com/example/accumulus/accumulus/account/LoanAccount", "await", "(Lcom/example/accumulus/accumulus/journal/JournalEntry;Ljava/time/LocalDate;)V"⟩ : MethodName)) (z := (⟨"com/example/accumulus/accumulus/account/LoanAccount", "await", "(Lcom/example/accumulus/accumulus/journal/JournalEntry;Ljava/time/LocalDate;)V"⟩ : MethodName)) hown (w 140 _ rfl) (w 141 _ rfl) (notFace_of_selects (args := #[]) (mvT hZ (w 143 _ rfl))) (w 143 _ rfl) (w 142 _ rfl) (by decide) (as' := [.null, (.ref x24)]) (backOf (W := 0) (rm_awt l Z a0 hw [] a502 d506 el506 (0 : Int32) (1 : Int32) (2 : Int32) kE506 [(.ref w_513), .null, .null, .null, .null, .null, .null, .null, .null, .null, .null, .null, .null, .null, .null, .null, .null] x24 h513 O514 f517 q513_4 q513_5 q513_6 q513_7 Vl515 (by first | assumption | rfl | decide | exact Nat.le_of_ble_eq_true rfl) (by first | assumption | rfl | decide | exact Nat.le_of_ble_eq_true rfl) (by first | assumption | rfl | decide | exact Nat.le_of_ble_eq_true rfl) (by first | assumption | rfl | decide | exact Nat.le_of_ble_eq_true rfl) (by first | assumption | rfl | decide | exact Nat.le_of_ble_eq_true rfl) (by first | assumption | rfl | decide | exact Nat.le_of_ble_eq_true rfl) (Nat.le_trans (Nat.le_trans (Nat.le_trans (Nat.le_of_eq O0.1.symm) O0.2.1) KK507.1) q506_0) (Nat.le_trans (Nat.le_trans (Nat.le_trans (Nat.le_of_eq O0.1.symm) O0.2.1) KK507.1) q506_1) q506_4) hZ (w 144 _ rfl) (w 75 _ rfl) (by decide) (by decide)) e529 f520 (by rw [hml]; rfl) (rest := []) (lenOf pd21 rfl) rfl (Nat.le_of_eq rfl) (hb hby at_172) rfl (by decide) (by decide) ?_
      intro T530 h530 v530 L530 X530 e530 hQ530
      obtain ⟨w_530, rfl, Nq530, K530, q530_0, q530_1, q530_2, q530_3, q530_4, q530_5, q530_6, q530_7, q530_8⟩ := hQ530
      have N530 := Fk.app N529 Nq530 KK521.1 (allS (Or.inr (Nat.le_trans KK507.1 q506_0)) (allS (Or.inr (Nat.le_trans KK507.1 q506_1)) all0))
      have O531 : Old Z Z.heap.size h530 := O514.keep K530 (allS (Nat.le_trans (Nat.le_trans (Nat.le_trans (Nat.le_of_eq O0.1.symm) O0.2.1) KK507.1) q506_0) (allS (Nat.le_trans (Nat.le_trans (Nat.le_trans (Nat.le_of_eq O0.1.symm) O0.2.1) KK507.1) q506_1) all0))
      have Vl532 : Arv Z h530 el506 kE506 (.object "java/lang/Object") (17 : Int32) [(.ref w_513), (.ref w_530), .null, .null, .null, .null, .null, .null, .null, .null, .null, .null, .null, .null, .null, .null, .null] .null := q530_8
      show Wp p e below _ _ T530 (mkF m 175 #[.val (.int p0), .val (.int p1), .val (.int p2), .val (.int p3), .val (.long j1), .second, .val (.long j2), .second, .val (.long j3), .second, .val (.ref a4), .val (.int (3 : Int32)), .val (.int (3 : Int32)), .val .null, .val (.ref a502), .val (.int (1 : Int32)), .unset, .unset] [])
      refine Wk.iload X530 hx (hb hby at_175) rfl rfl ?_
      refine Wk.iconst X530 hx (v := (3 : Int32)) (hb hby at_177) rfl rfl ?_
      refine Wk.icmpNo X530 hx (hb hby at_178) rfl (flt (by decide : ¬ ((3 : Int32) < (3 : Int32)))).1 ?_
      refine Wk.aload X530 hx (hb hby at_181) rfl rfl rfl ?_
      refine Wk.aconstNull X530 hx (hb hby at_183) rfl ?_
      refine Wk.aload X530 hx (hb hby at_184) rfl rfl rfl ?_
      refine Wk.iconst X530 hx (v := (2 : Int32)) (hb hby at_186) rfl rfl ?_
      have KK533 : Keep h40 h530 [] := (KK523.trans K530 (allS (Or.inr (Nat.le_trans KK522.1 q506_0)) (allS (Or.inr (Nat.le_trans KK522.1 q506_1)) all0)))
      have f534 : Arv Z h530 a4 kA4 (.object "java/time/LocalDate") (3 : Int32) [(.ref x12), (.ref x24), (.ref x36)] .null := (V40.keep KK533 nin0)
      refine Wk.aaload X530 hx hZ e530 (C := (.object "java/time/LocalDate")) f534 (by decide) (by decide) (v := (.ref x36)) rfl rfl (hb hby at_187) rfl ?_
      have KK535 : Keep h513 h530 [d506, el506] := ((Keep.refl h513 [d506, el506]).trans K530 (allS (Or.inl (List.mem_of_getElem? (i := 0) rfl)) (allS (Or.inl (List.mem_of_getElem? (i := 1) rfl)) all0)))
      have f536 : Fld Z h530 a502 "com/example/accumulus/accumulus/account/LoanAccount" "waiting" "Ljava/util/ArrayDeque;" (.ref d506) := (f517.keep KK535 (ninS (Nat.ne_of_lt (Nat.lt_of_lt_of_le A502.lt q506_0)) (ninS (Nat.ne_of_lt (Nat.lt_of_lt_of_le A502.lt q506_1)) nin0)))
      have KK538 : Keep h502 h530 [a502] := (KK519.trans K530 (allS (Or.inr q506_0) (allS (Or.inr q506_1) all0)))
      have f539 : Exa Z h530 a502 "com/example/accumulus/accumulus/account/LoanAccount" := (A502.keep KK538)
      refine Wk.callV X530 hx hZ (y := (⟨"com/example/accumulus/accumulus/account/LoanAccount", "await", "(Lcom/example/accumulus/accumulus/journal/JournalEntry;Ljava/time/LocalDate;)V"⟩ : MethodName)) (z := (⟨"com/example/accumulus/accumulus/account/LoanAccount", "await", "(Lcom/example/accumulus/accumulus/journal/JournalEntry;Ljava/time/LocalDate;)V"⟩ : MethodName)) hown (w 140 _ rfl) (w 141 _ rfl) (notFace_of_selects (args := #[]) (mvT hZ (w 143 _ rfl))) (w 143 _ rfl) (w 142 _ rfl) (by decide) (as' := [.null, (.ref x36)]) (backOf (W := 0) (rm_awt l Z a0 hw [] a502 d506 el506 (0 : Int32) (2 : Int32) (3 : Int32) kE506 [(.ref w_513), (.ref w_530), .null, .null, .null, .null, .null, .null, .null, .null, .null, .null, .null, .null, .null, .null, .null] x36 h530 O531 f536 q530_4 q530_5 q530_6 q530_7 Vl532 (by first | assumption | rfl | decide | exact Nat.le_of_ble_eq_true rfl) (by first | assumption | rfl | decide | exact Nat.le_of_ble_eq_true rfl) (by first | assumption | rfl | decide | exact Nat.le_of_ble_eq_true rfl) (by first | assumption | rfl | decide | exact Nat.le_of_ble_eq_true rfl) (by first | assumption | rfl | decide | exact Nat.le_of_ble_eq_true rfl) (by first | assumption | rfl | decide | exact Nat.le_of_ble_eq_true rfl) (Nat.le_trans (Nat.le_trans (Nat.le_trans (Nat.le_of_eq O0.1.symm) O0.2.1) KK507.1) q506_0) (Nat.le_trans (Nat.le_trans (Nat.le_trans (Nat.le_of_eq O0.1.symm) O0.2.1) KK507.1) q506_1) q506_4) hZ (w 144 _ rfl) (w 75 _ rfl) (by decide) (by decide)) e530 f539 (by rw [hml]; rfl) (rest := []) (lenOf pd21 rfl) rfl (Nat.le_of_eq rfl) (hb hby at_188) rfl (by decide) (by decide) ?_
      intro T537 h537 v537 L537 X537 e537 hQ537
      obtain ⟨w_537, rfl, Nq537, K537, q537_0, q537_1, q537_2, q537_3, q537_4, q537_5, q537_6, q537_7, q537_8⟩ := hQ537
      have KK540 : Keep h0 h530 [] := (KK521.trans K530 (allS (Or.inr (Nat.le_trans KK507.1 q506_0)) (allS (Or.inr (Nat.le_trans KK507.1 q506_1)) all0)))
      have N537 := Fk.app N530 Nq537 KK540.1 (allS (Or.inr (Nat.le_trans KK507.1 q506_0)) (allS (Or.inr (Nat.le_trans KK507.1 q506_1)) all0))
      have O541 : Old Z Z.heap.size h537 := O531.keep K537 (allS (Nat.le_trans (Nat.le_trans (Nat.le_trans (Nat.le_of_eq O0.1.symm) O0.2.1) KK507.1) q506_0) (allS (Nat.le_trans (Nat.le_trans (Nat.le_trans (Nat.le_of_eq O0.1.symm) O0.2.1) KK507.1) q506_1) all0))
      have Vl542 : Arv Z h537 el506 kE506 (.object "java/lang/Object") (17 : Int32) [(.ref w_513), (.ref w_530), (.ref w_537), .null, .null, .null, .null, .null, .null, .null, .null, .null, .null, .null, .null, .null, .null] .null := q537_8
      show Wp p e below _ _ T537 (mkF m 191 #[.val (.int p0), .val (.int p1), .val (.int p2), .val (.int p3), .val (.long j1), .second, .val (.long j2), .second, .val (.long j3), .second, .val (.ref a4), .val (.int (3 : Int32)), .val (.int (3 : Int32)), .val .null, .val (.ref a502), .val (.int (1 : Int32)), .unset, .unset] [])
      refine Wk.iload X537 hx (hb hby at_191) rfl rfl ?_
      refine Wk.iconst X537 hx (v := (1 : Int32)) (hb hby at_193) rfl rfl ?_
      refine Wk.icmpNo X537 hx (hb hby at_194) rfl (flt (by decide : ¬ ((3 : Int32) < (1 : Int32)))).1 ?_
      refine Wk.aload X537 hx (hb hby at_197) rfl rfl rfl ?_
      have KK543 : Keep h530 h537 [d506, el506] := ((Keep.refl h530 [d506, el506]).trans K537 (allS (Or.inl (List.mem_of_getElem? (i := 0) rfl)) (allS (Or.inl (List.mem_of_getElem? (i := 1) rfl)) all0)))
      have f544 : Fld Z h537 a502 "com/example/accumulus/accumulus/account/LoanAccount" "waiting" "Ljava/util/ArrayDeque;" (.ref d506) := (f536.keep KK543 (ninS (Nat.ne_of_lt (Nat.lt_of_lt_of_le A502.lt q506_0)) (ninS (Nat.ne_of_lt (Nat.lt_of_lt_of_le A502.lt q506_1)) nin0)))
      have KK545 : Keep h513 h537 [d506, el506] := (KK535.trans K537 (allS (Or.inl (List.mem_of_getElem? (i := 0) rfl)) (allS (Or.inl (List.mem_of_getElem? (i := 1) rfl)) all0)))
      have f546 : Exa Z h537 w_513 "com/example/accumulus/accumulus/account/LoanAccount$Waiting" := (q513_1.keep KK545)
      have f547 : Fld Z h537 w_513 "com/example/accumulus/accumulus/account/LoanAccount$Waiting" "loan" "Lcom/example/accumulus/accumulus/journal/JournalEntry;" .null := (q513_3.keep KK545 (ninS (Ne.symm (Nat.ne_of_lt (Nat.lt_of_lt_of_le q506_5.lt q513_0))) (ninS (Exa.neArv f546 Vl542 (w 146 _ rfl)) nin0)))
      have KK549 : Keep h502 h537 [a502] := (KK538.trans K537 (allS (Or.inr q506_0) (allS (Or.inr q506_1) all0)))
      have f550 : Exa Z h537 a502 "com/example/accumulus/accumulus/account/LoanAccount" := (A502.keep KK549)
      refine Wk.callV X537 hx hZ (y := (⟨"com/example/accumulus/accumulus/account/LoanAccount", "takeWaiting", "()Lcom/example/accumulus/accumulus/journal/JournalEntry;"⟩ : MethodName)) (z := (⟨"com/example/accumulus/accumulus/account/LoanAccount", "takeWaiting", "()Lcom/example/accumulus/accumulus/journal/JournalEntry;"⟩ : MethodName)) hown (w 183 _ rfl) (w 184 _ rfl) (notFace_of_selects (args := #[]) (mvT hZ (w 186 _ rfl))) (w 186 _ rfl) (w 185 _ rfl) (by decide) (as' := []) (backOf (W := 0) (rm_tk l Z a0 hw [] a502 d506 el506 (0 : Int32) (1 : Int32) (3 : Int32) kE506 [(.ref w_513), (.ref w_530), (.ref w_537), .null, .null, .null, .null, .null, .null, .null, .null, .null, .null, .null, .null, .null, .null] w_513 h537 O541 f544 q537_4 q537_5 q537_6 q537_7 Vl542 (by first | assumption | rfl | decide | exact Nat.le_of_ble_eq_true rfl) (by first | assumption | rfl | decide | exact Nat.le_of_ble_eq_true rfl) (by first | assumption | rfl | decide | exact Nat.le_of_ble_eq_true rfl) (by first | assumption | rfl | decide | exact Nat.le_of_ble_eq_true rfl) (by first | assumption | rfl | decide | exact Nat.le_of_ble_eq_true rfl) (by first | assumption | rfl | decide | exact Nat.le_of_ble_eq_true rfl) (Nat.le_trans (Nat.le_trans (Nat.le_trans (Nat.le_of_eq O0.1.symm) O0.2.1) KK507.1) q506_0) (Nat.le_trans (Nat.le_trans (Nat.le_trans (Nat.le_of_eq O0.1.symm) O0.2.1) KK507.1) q506_1) q506_4 f546 f547) hZ (w 187 _ rfl) (w 75 _ rfl) (by decide) (by decide)) e537 f550 (by rw [hml]; rfl) (rest := []) (lenOf pd27 rfl) rfl (Nat.le_of_eq rfl) (hb hby at_199) rfl (by decide) (by decide) ?_
      intro T548 h548 v548 L548 X548 e548 hQ548
      obtain ⟨rfl, Nq548, K548, q548_0, q548_1, q548_2, q548_3, q548_4⟩ := hQ548
      have KK551 : Keep h0 h537 [] := (KK540.trans K537 (allS (Or.inr (Nat.le_trans KK507.1 q506_0)) (allS (Or.inr (Nat.le_trans KK507.1 q506_1)) all0)))
      have N548 := Fk.app N537 Nq548 KK551.1 (allS (Or.inr (Nat.le_trans KK507.1 q506_1)) (allS (Or.inr (Nat.le_trans KK507.1 q506_0)) all0))
      have O552 : Old Z Z.heap.size h548 := O541.keep K548 (allS (Nat.le_trans (Nat.le_trans (Nat.le_trans (Nat.le_of_eq O0.1.symm) O0.2.1) KK507.1) q506_1) (allS (Nat.le_trans (Nat.le_trans (Nat.le_trans (Nat.le_of_eq O0.1.symm) O0.2.1) KK507.1) q506_0) all0))
      have Vl553 : Arv Z h548 el506 kE506 (.object "java/lang/Object") (17 : Int32) [.null, (.ref w_530), (.ref w_537), .null, .null, .null, .null, .null, .null, .null, .null, .null, .null, .null, .null, .null, .null] .null := q548_4
      show Wp p e below _ _ T548 (mkF m 202 #[.val (.int p0), .val (.int p1), .val (.int p2), .val (.int p3), .val (.long j1), .second, .val (.long j2), .second, .val (.long j3), .second, .val (.ref a4), .val (.int (3 : Int32)), .val (.int (3 : Int32)), .val .null, .val (.ref a502), .val (.int (1 : Int32)), .unset, .unset] [.null])
      refine Wk.pop X548 hx (hb hby at_202) rfl rfl ?_
      refine Wk.iload X548 hx (hb hby at_203) rfl rfl ?_
      refine Wk.iconst X548 hx (v := (2 : Int32)) (hb hby at_205) rfl rfl ?_
      refine Wk.icmpNo X548 hx (hb hby at_206) rfl (flt (by decide : ¬ ((3 : Int32) < (2 : Int32)))).1 ?_
      refine Wk.aload X548 hx (hb hby at_209) rfl rfl rfl ?_
      have KK554 : Keep h537 h548 [el506, d506] := ((Keep.refl h537 [el506, d506]).trans K548 (allS (Or.inl (List.mem_of_getElem? (i := 0) rfl)) (allS (Or.inl (List.mem_of_getElem? (i := 1) rfl)) all0)))
      have f555 : Fld Z h548 a502 "com/example/accumulus/accumulus/account/LoanAccount" "waiting" "Ljava/util/ArrayDeque;" (.ref d506) := (f544.keep KK554 (ninS (Nat.ne_of_lt (Nat.lt_of_lt_of_le A502.lt q506_1)) (ninS (Nat.ne_of_lt (Nat.lt_of_lt_of_le A502.lt q506_0)) nin0)))
      have KK556 : Keep h530 h548 [d506, el506] := (KK543.trans K548 (allS (Or.inl (List.mem_of_getElem? (i := 1) rfl)) (allS (Or.inl (List.mem_of_getElem? (i := 0) rfl)) all0)))
      have f557 : Exa Z h548 w_530 "com/example/accumulus/accumulus/account/LoanAccount$Waiting" := (q530_1.keep KK556)
      have f558 : Fld Z h548 w_530 "com/example/accumulus/accumulus/account/LoanAccount$Waiting" "loan" "Lcom/example/accumulus/accumulus/journal/JournalEntry;" .null := (q530_3.keep KK556 (ninS (Ne.symm (Nat.ne_of_lt (Nat.lt_of_lt_of_le q513_4.lt q530_0))) (ninS (Exa.neArv f557 Vl553 (w 146 _ rfl)) nin0)))
      have KK560 : Keep h502 h548 [a502] := (KK549.trans K548 (allS (Or.inr q506_1) (allS (Or.inr q506_0) all0)))
      have f561 : Exa Z h548 a502 "com/example/accumulus/accumulus/account/LoanAccount" := (A502.keep KK560)
      refine Wk.callV X548 hx hZ (y := (⟨"com/example/accumulus/accumulus/account/LoanAccount", "takeWaiting", "()Lcom/example/accumulus/accumulus/journal/JournalEntry;"⟩ : MethodName)) (z := (⟨"com/example/accumulus/accumulus/account/LoanAccount", "takeWaiting", "()Lcom/example/accumulus/accumulus/journal/JournalEntry;"⟩ : MethodName)) hown (w 183 _ rfl) (w 184 _ rfl) (notFace_of_selects (args := #[]) (mvT hZ (w 186 _ rfl))) (w 186 _ rfl) (w 185 _ rfl) (by decide) (as' := []) (backOf (W := 0) (rm_tk l Z a0 hw [] a502 d506 el506 (1 : Int32) (2 : Int32) (3 : Int32) kE506 [.null, (.ref w_530), (.ref w_537), .null, .null, .null, .null, .null, .null, .null, .null, .null, .null, .null, .null, .null, .null] w_530 h548 O552 f555 q548_0 q548_1 q548_2 q548_3 Vl553 (by first | assumption | rfl | decide | exact Nat.le_of_ble_eq_true rfl) (by first | assumption | rfl | decide | exact Nat.le_of_ble_eq_true rfl) (by first | assumption | rfl | decide | exact Nat.le_of_ble_eq_true rfl) (by first | assumption | rfl | decide | exact Nat.le_of_ble_eq_true rfl) (by first | assumption | rfl | decide | exact Nat.le_of_ble_eq_true rfl) (by first | assumption | rfl | decide | exact Nat.le_of_ble_eq_true rfl) (Nat.le_trans (Nat.le_trans (Nat.le_trans (Nat.le_of_eq O0.1.symm) O0.2.1) KK507.1) q506_0) (Nat.le_trans (Nat.le_trans (Nat.le_trans (Nat.le_of_eq O0.1.symm) O0.2.1) KK507.1) q506_1) q506_4 f557 f558) hZ (w 187 _ rfl) (w 75 _ rfl) (by decide) (by decide)) e548 f561 (by rw [hml]; rfl) (rest := []) (lenOf pd27 rfl) rfl (Nat.le_of_eq rfl) (hb hby at_211) rfl (by decide) (by decide) ?_
      intro T559 h559 v559 L559 X559 e559 hQ559
      obtain ⟨rfl, Nq559, K559, q559_0, q559_1, q559_2, q559_3, q559_4⟩ := hQ559
      have KK562 : Keep h0 h548 [] := (KK551.trans K548 (allS (Or.inr (Nat.le_trans KK507.1 q506_1)) (allS (Or.inr (Nat.le_trans KK507.1 q506_0)) all0)))
      have N559 := Fk.app N548 Nq559 KK562.1 (allS (Or.inr (Nat.le_trans KK507.1 q506_1)) (allS (Or.inr (Nat.le_trans KK507.1 q506_0)) all0))
      have O563 : Old Z Z.heap.size h559 := O552.keep K559 (allS (Nat.le_trans (Nat.le_trans (Nat.le_trans (Nat.le_of_eq O0.1.symm) O0.2.1) KK507.1) q506_1) (allS (Nat.le_trans (Nat.le_trans (Nat.le_trans (Nat.le_of_eq O0.1.symm) O0.2.1) KK507.1) q506_0) all0))
      have Vl564 : Arv Z h559 el506 kE506 (.object "java/lang/Object") (17 : Int32) [.null, .null, (.ref w_537), .null, .null, .null, .null, .null, .null, .null, .null, .null, .null, .null, .null, .null, .null] .null := q559_4
      show Wp p e below _ _ T559 (mkF m 214 #[.val (.int p0), .val (.int p1), .val (.int p2), .val (.int p3), .val (.long j1), .second, .val (.long j2), .second, .val (.long j3), .second, .val (.ref a4), .val (.int (3 : Int32)), .val (.int (3 : Int32)), .val .null, .val (.ref a502), .val (.int (1 : Int32)), .unset, .unset] [.null])
      refine Wk.pop X559 hx (hb hby at_214) rfl rfl ?_
      refine Wk.iload X559 hx (hb hby at_215) rfl rfl ?_
      refine Wk.iconst X559 hx (v := (3 : Int32)) (hb hby at_217) rfl rfl ?_
      refine Wk.icmpNo X559 hx (hb hby at_218) rfl (flt (by decide : ¬ ((3 : Int32) < (3 : Int32)))).1 ?_
      refine Wk.aload X559 hx (hb hby at_221) rfl rfl rfl ?_
      have KK565 : Keep h548 h559 [el506, d506] := ((Keep.refl h548 [el506, d506]).trans K559 (allS (Or.inl (List.mem_of_getElem? (i := 0) rfl)) (allS (Or.inl (List.mem_of_getElem? (i := 1) rfl)) all0)))
      have f566 : Fld Z h559 a502 "com/example/accumulus/accumulus/account/LoanAccount" "waiting" "Ljava/util/ArrayDeque;" (.ref d506) := (f555.keep KK565 (ninS (Nat.ne_of_lt (Nat.lt_of_lt_of_le A502.lt q506_1)) (ninS (Nat.ne_of_lt (Nat.lt_of_lt_of_le A502.lt q506_0)) nin0)))
      have KK567 : Keep h537 h559 [el506, d506] := (KK554.trans K559 (allS (Or.inl (List.mem_of_getElem? (i := 0) rfl)) (allS (Or.inl (List.mem_of_getElem? (i := 1) rfl)) all0)))
      have f568 : Exa Z h559 w_537 "com/example/accumulus/accumulus/account/LoanAccount$Waiting" := (q537_1.keep KK567)
      have f569 : Fld Z h559 w_537 "com/example/accumulus/accumulus/account/LoanAccount$Waiting" "loan" "Lcom/example/accumulus/accumulus/journal/JournalEntry;" .null := (q537_3.keep KK567 (ninS (Exa.neArv f568 Vl564 (w 146 _ rfl)) (ninS (Ne.symm (Nat.ne_of_lt (Nat.lt_of_lt_of_le q530_4.lt q537_0))) nin0)))
      have KK571 : Keep h502 h559 [a502] := (KK560.trans K559 (allS (Or.inr q506_1) (allS (Or.inr q506_0) all0)))
      have f572 : Exa Z h559 a502 "com/example/accumulus/accumulus/account/LoanAccount" := (A502.keep KK571)
      refine Wk.callV X559 hx hZ (y := (⟨"com/example/accumulus/accumulus/account/LoanAccount", "takeWaiting", "()Lcom/example/accumulus/accumulus/journal/JournalEntry;"⟩ : MethodName)) (z := (⟨"com/example/accumulus/accumulus/account/LoanAccount", "takeWaiting", "()Lcom/example/accumulus/accumulus/journal/JournalEntry;"⟩ : MethodName)) hown (w 183 _ rfl) (w 184 _ rfl) (notFace_of_selects (args := #[]) (mvT hZ (w 186 _ rfl))) (w 186 _ rfl) (w 185 _ rfl) (by decide) (as' := []) (backOf (W := 0) (rm_tk l Z a0 hw [] a502 d506 el506 (2 : Int32) (3 : Int32) (3 : Int32) kE506 [.null, .null, (.ref w_537), .null, .null, .null, .null, .null, .null, .null, .null, .null, .null, .null, .null, .null, .null] w_537 h559 O563 f566 q559_0 q559_1 q559_2 q559_3 Vl564 (by first | assumption | rfl | decide | exact Nat.le_of_ble_eq_true rfl) (by first | assumption | rfl | decide | exact Nat.le_of_ble_eq_true rfl) (by first | assumption | rfl | decide | exact Nat.le_of_ble_eq_true rfl) (by first | assumption | rfl | decide | exact Nat.le_of_ble_eq_true rfl) (by first | assumption | rfl | decide | exact Nat.le_of_ble_eq_true rfl) (by first | assumption | rfl | decide | exact Nat.le_of_ble_eq_true rfl) (Nat.le_trans (Nat.le_trans (Nat.le_trans (Nat.le_of_eq O0.1.symm) O0.2.1) KK507.1) q506_0) (Nat.le_trans (Nat.le_trans (Nat.le_trans (Nat.le_of_eq O0.1.symm) O0.2.1) KK507.1) q506_1) q506_4 f568 f569) hZ (w 187 _ rfl) (w 75 _ rfl) (by decide) (by decide)) e559 f572 (by rw [hml]; rfl) (rest := []) (lenOf pd27 rfl) rfl (Nat.le_of_eq rfl) (hb hby at_223) rfl (by decide) (by decide) ?_
      intro T570 h570 v570 L570 X570 e570 hQ570
      obtain ⟨rfl, Nq570, K570, q570_0, q570_1, q570_2, q570_3, q570_4⟩ := hQ570
      have KK573 : Keep h0 h559 [] := (KK562.trans K559 (allS (Or.inr (Nat.le_trans KK507.1 q506_1)) (allS (Or.inr (Nat.le_trans KK507.1 q506_0)) all0)))
      have N570 := Fk.app N559 Nq570 KK573.1 (allS (Or.inr (Nat.le_trans KK507.1 q506_1)) (allS (Or.inr (Nat.le_trans KK507.1 q506_0)) all0))
      have O574 : Old Z Z.heap.size h570 := O563.keep K570 (allS (Nat.le_trans (Nat.le_trans (Nat.le_trans (Nat.le_of_eq O0.1.symm) O0.2.1) KK507.1) q506_1) (allS (Nat.le_trans (Nat.le_trans (Nat.le_trans (Nat.le_of_eq O0.1.symm) O0.2.1) KK507.1) q506_0) all0))
      have Vl575 : Arv Z h570 el506 kE506 (.object "java/lang/Object") (17 : Int32) [.null, .null, .null, .null, .null, .null, .null, .null, .null, .null, .null, .null, .null, .null, .null, .null, .null] .null := q570_4
      show Wp p e below _ _ T570 (mkF m 226 #[.val (.int p0), .val (.int p1), .val (.int p2), .val (.int p3), .val (.long j1), .second, .val (.long j2), .second, .val (.long j3), .second, .val (.ref a4), .val (.int (3 : Int32)), .val (.int (3 : Int32)), .val .null, .val (.ref a502), .val (.int (1 : Int32)), .unset, .unset] [.null])
      refine Wk.pop X570 hx (hb hby at_226) rfl rfl ?_
      refine Wk.aload X570 hx (hb hby at_227) rfl rfl rfl ?_
      have KK576 : Keep h559 h570 [el506, d506] := ((Keep.refl h559 [el506, d506]).trans K570 (allS (Or.inl (List.mem_of_getElem? (i := 0) rfl)) (allS (Or.inl (List.mem_of_getElem? (i := 1) rfl)) all0)))
      have f577 : Fld Z h570 a502 "com/example/accumulus/accumulus/account/LoanAccount" "waiting" "Ljava/util/ArrayDeque;" (.ref d506) := (f566.keep KK576 (ninS (Nat.ne_of_lt (Nat.lt_of_lt_of_le A502.lt q506_1)) (ninS (Nat.ne_of_lt (Nat.lt_of_lt_of_le A502.lt q506_0)) nin0)))
      have KK579 : Keep h502 h570 [a502] := (KK571.trans K570 (allS (Or.inr q506_1) (allS (Or.inr q506_0) all0)))
      have f580 : Exa Z h570 a502 "com/example/accumulus/accumulus/account/LoanAccount" := (A502.keep KK579)
      refine Wk.callV X570 hx hZ (y := (⟨"com/example/accumulus/accumulus/account/LoanAccount", "nextWaitingDay", "()Ljava/time/LocalDate;"⟩ : MethodName)) (z := (⟨"com/example/accumulus/accumulus/account/LoanAccount", "nextWaitingDay", "()Ljava/time/LocalDate;"⟩ : MethodName)) hown (w 120 _ rfl) (w 121 _ rfl) (notFace_of_selects (args := #[]) (mvT hZ (w 123 _ rfl))) (w 123 _ rfl) (w 122 _ rfl) (by decide) (as' := []) (backOf (W := 0) (rm_nwN l Z a0 hw [] a502 d506 el506 (3 : Int32) kE506 [.null, .null, .null, .null, .null, .null, .null, .null, .null, .null, .null, .null, .null, .null, .null, .null, .null] h570 O574 f577 q570_0 q570_1 q570_2 Vl575 (by first | assumption | rfl | decide | exact Nat.le_of_ble_eq_true rfl) (by first | assumption | rfl | decide | exact Nat.le_of_ble_eq_true rfl) (by first | assumption | rfl | decide | exact Nat.le_of_ble_eq_true rfl)) hZ (w 124 _ rfl) (w 75 _ rfl) (by decide) (by decide)) e570 f580 (by rw [hml]; rfl) (rest := []) (lenOf pd25 rfl) rfl (Nat.le_of_eq rfl) (hb hby at_229) rfl (by decide) (by decide) ?_
      intro T578 h578 v578 L578 X578 e578 hQ578
      obtain ⟨rfl, Nq578, K578⟩ := hQ578
      have KK581 : Keep h0 h570 [] := (KK573.trans K570 (allS (Or.inr (Nat.le_trans KK507.1 q506_1)) (allS (Or.inr (Nat.le_trans KK507.1 q506_0)) all0)))
      have N578 := Fk.app N570 Nq578 KK581.1 all0
      rw [K578] at e578
      show Wp p e below _ _ T578 (mkF m 232 #[.val (.int p0), .val (.int p1), .val (.int p2), .val (.int p3), .val (.long j1), .second, .val (.long j2), .second, .val (.long j3), .second, .val (.ref a4), .val (.int (3 : Int32)), .val (.int (3 : Int32)), .val .null, .val (.ref a502), .val (.int (1 : Int32)), .unset, .unset] [.null])
      refine Wk.astore X578 hx (Ls' := #[.val (.int p0), .val (.int p1), .val (.int p2), .val (.int p3), .val (.long j1), .second, .val (.long j2), .second, .val (.long j3), .second, .val (.ref a4), .val (.int (3 : Int32)), .val (.int (3 : Int32)), .val .null, .val (.ref a502), .val (.int (1 : Int32)), .val .null, .unset]) (hb hby at_232) rfl rfl rfl ?_
      refine Wk.iload X578 hx (hb hby at_234) rfl rfl ?_
      refine Wk.ifNo X578 hx (hb hby at_236) rfl ((if0 _ _).trans (feq (by decide : ¬ ((1 : Int32) = (0 : Int32)))).1) ?_
      refine Wk.aload X578 hx (hb hby at_239) rfl rfl rfl ?_
      refine Wk.aload X578 hx (hb hby at_241) rfl rfl rfl ?_
      refine Wk.callS X578 hx hZ hown (w 174 _ rfl) (w 175 _ rfl) (w 176 _ rfl) (w 177 _ rfl) (by decide) (as' := [.null, .null]) (backOf (W := 0) (rm_smN l Z a0 hw [] h570 O574) hZ (w 177 _ rfl) (w 176 _ rfl) (by decide) (by decide)) e578 (by rw [hml]; rfl) (rest := []) (lenOf pd26 rfl) rfl (Nat.le_of_eq rfl) (hb hby at_243) rfl (by decide) (by decide) ?_
      intro T582 h582 v582 L582 X582 e582 hQ582
      obtain ⟨rfl, Nq582, K582⟩ := hQ582
      have N582 := Fk.app N578 Nq582 KK581.1 all0
      rw [K582] at e582
      show Wp p e below _ _ T582 (mkF m 246 #[.val (.int p0), .val (.int p1), .val (.int p2), .val (.int p3), .val (.long j1), .second, .val (.long j2), .second, .val (.long j3), .second, .val (.ref a4), .val (.int (3 : Int32)), .val (.int (3 : Int32)), .val .null, .val (.ref a502), .val (.int (1 : Int32)), .val .null, .unset] [(.int (1 : Int32))])
      refine Wk.ifNo X582 hx (hb hby at_246) rfl ((if0 _ _).trans (feq (by decide : ¬ ((1 : Int32) = (0 : Int32)))).1) ?_
      refine Wk.iconst X582 hx (v := (1 : Int32)) (hb hby at_249) rfl rfl ?_
      refine Wk.goto X582 hx (hb hby at_250) (by decide) (q := 254) rfl ?_
      refine Wk.istore X582 hx (Ls' := #[.val (.int p0), .val (.int p1), .val (.int p2), .val (.int p3), .val (.long j1), .second, .val (.long j2), .second, .val (.long j3), .second, .val (.ref a4), .val (.int (3 : Int32)), .val (.int (3 : Int32)), .val .null, .val (.ref a502), .val (.int (1 : Int32)), .val .null, .unset]) (hb hby at_254) rfl rfl ?_
      refine Wk.aload X582 hx (hb hby at_256) rfl rfl rfl ?_
      refine Wk.callV X582 hx hZ (y := (⟨"com/example/accumulus/accumulus/account/LoanAccount", "nextWaitingDay", "()Ljava/time/LocalDate;"⟩ : MethodName)) (z := (⟨"com/example/accumulus/accumulus/account/LoanAccount", "nextWaitingDay", "()Ljava/time/LocalDate;"⟩ : MethodName)) hown (w 120 _ rfl) (w 121 _ rfl) (notFace_of_selects (args := #[]) (mvT hZ (w 123 _ rfl))) (w 123 _ rfl) (w 122 _ rfl) (by decide) (as' := []) (backOf (W := 0) (rm_nwN l Z a0 hw [] a502 d506 el506 (3 : Int32) kE506 [.null, .null, .null, .null, .null, .null, .null, .null, .null, .null, .null, .null, .null, .null, .null, .null, .null] h570 O574 f577 q570_0 q570_1 q570_2 Vl575 (by first | assumption | rfl | decide | exact Nat.le_of_ble_eq_true rfl) (by first | assumption | rfl | decide | exact Nat.le_of_ble_eq_true rfl) (by first | assumption | rfl | decide | exact Nat.le_of_ble_eq_true rfl)) hZ (w 124 _ rfl) (w 75 _ rfl) (by decide) (by decide)) e582 f580 (by rw [hml]; rfl) (rest := []) (lenOf pd25 rfl) rfl (Nat.le_of_eq rfl) (hb hby at_258) rfl (by decide) (by decide) ?_
      intro T583 h583 v583 L583 X583 e583 hQ583
      obtain ⟨rfl, Nq583, K583⟩ := hQ583
      have N583 := Fk.app N582 Nq583 KK581.1 all0
      rw [K583] at e583
      show Wp p e below _ _ T583 (mkF m 261 #[.val (.int p0), .val (.int p1), .val (.int p2), .val (.int p3), .val (.long j1), .second, .val (.long j2), .second, .val (.long j3), .second, .val (.ref a4), .val (.int (3 : Int32)), .val (.int (3 : Int32)), .val .null, .val (.ref a502), .val (.int (1 : Int32)), .val .null, .unset] [.null])
      refine Wk.astore X583 hx (Ls' := #[.val (.int p0), .val (.int p1), .val (.int p2), .val (.int p3), .val (.long j1), .second, .val (.long j2), .second, .val (.long j3), .second, .val (.ref a4), .val (.int (3 : Int32)), .val (.int (3 : Int32)), .val .null, .val (.ref a502), .val (.int (1 : Int32)), .val .null, .val .null]) (hb hby at_261) rfl rfl rfl ?_
      refine Wk.iload X583 hx (hb hby at_263) rfl rfl ?_
      refine Wk.ifNo X583 hx (hb hby at_265) rfl ((if0 _ _).trans (feq (by decide : ¬ ((1 : Int32) = (0 : Int32)))).1) ?_
      refine Wk.aload X583 hx (hb hby at_268) rfl rfl rfl ?_
      refine Wk.aload X583 hx (hb hby at_270) rfl rfl rfl ?_
      refine Wk.callS X583 hx hZ hown (w 174 _ rfl) (w 175 _ rfl) (w 176 _ rfl) (w 177 _ rfl) (by decide) (as' := [.null, .null]) (backOf (W := 0) (rm_smN l Z a0 hw [] h570 O574) hZ (w 177 _ rfl) (w 176 _ rfl) (by decide) (by decide)) e583 (by rw [hml]; rfl) (rest := []) (lenOf pd26 rfl) rfl (Nat.le_of_eq rfl) (hb hby at_272) rfl (by decide) (by decide) ?_
      intro T584 h584 v584 L584 X584 e584 hQ584
      obtain ⟨rfl, Nq584, K584⟩ := hQ584
      have N584 := Fk.app N583 Nq584 KK581.1 all0
      rw [K584] at e584
      show Wp p e below _ _ T584 (mkF m 275 #[.val (.int p0), .val (.int p1), .val (.int p2), .val (.int p3), .val (.long j1), .second, .val (.long j2), .second, .val (.long j3), .second, .val (.ref a4), .val (.int (3 : Int32)), .val (.int (3 : Int32)), .val .null, .val (.ref a502), .val (.int (1 : Int32)), .val .null, .val .null] [(.int (1 : Int32))])
      refine Wk.ifNo X584 hx (hb hby at_275) rfl ((if0 _ _).trans (feq (by decide : ¬ ((1 : Int32) = (0 : Int32)))).1) ?_
      refine Wk.iconst X584 hx (v := (1 : Int32)) (hb hby at_278) rfl rfl ?_
      refine Wk.goto X584 hx (hb hby at_279) (by decide) (q := 283) rfl ?_
      refine Wk.istore X584 hx (Ls' := #[.val (.int p0), .val (.int p1), .val (.int p2), .val (.int p3), .val (.long j1), .second, .val (.long j2), .second, .val (.long j3), .second, .val (.ref a4), .val (.int (3 : Int32)), .val (.int (3 : Int32)), .val .null, .val (.ref a502), .val (.int (1 : Int32)), .val .null, .val .null]) (hb hby at_283) rfl rfl ?_
      refine Wk.iload X584 hx (hb hby at_285) rfl rfl ?_
      exact Wk.retZ' X584 hx hlk hr (by simp) (hb hby at_287) (by decide) (by decide) (Qc := Q_rm_law Z p0 p1 p2 p3 u vr_ ed h0) e584 ⟨rfl, N584, KK581⟩
set_option maxRecDepth 65536 in
set_option maxHeartbeats 40000000 in
theorem comes_1 {Post : Tables → Env → Array Value → State → Outcome → State → Prop} (hpost : ∀ tb e args s v u, (limb_1_1.after args s (.returned v) u = true ∧ limb_1_2.after args s (.returned v) u = true ∧ True) → FrameEnd s (.returned v) u (Jvm.fieldLocs frame_1_writes args s ++ Jvm.arrayLocs frame_1_arrays args s ++ Jvm.staticLocs frame_1_statics s) 32 192 → Post tb e args s (.returned v) u) :
    ArmFor flags0 classFile x code maxLocals ret World_1 tables_1 room_1 Calls_1 rest_1 Pre_1 Post := by
  intro l hfl _ _ p e ha hc hk s m args below hf hA hF happ hP
  obtain ⟨hcalls, hrest, hpre⟩ := hP
  obtain ⟨-, -, -, hnamed, -, -, -, hat⟩ := (Spec.applies_iff hf).mp happ
  obtain ⟨hg, hn⟩ := and_e (Cond.before_iff.mp (show (Jvm.Cond.and given_1 narrow_1).before args s = true from hpre))
  obtain ⟨hcount, hk0⟩ := and_e hg
  obtain ⟨ha0, hk1⟩ := and_e hk0
  obtain ⟨ha1, hk2⟩ := and_e hk1
  obtain ⟨ha2, hk3⟩ := and_e hk2
  have ha3 := hk3
  obtain ⟨w0, w1, w2, w3, rfl⟩ : ∃ w0 w1 w2 w3 : Value, args = #[w0, w1, w2, w3] := by
    have hs : args.size = 4 := by simpa [Cond.value, given_1] using hcount
    obtain ⟨L⟩ := args
    match L, hs with
    | [w0, w1, w2, w3], _ => exact ⟨w0, w1, w2, w3, rfl⟩
  have hw := fun d (hd : d ∈ tables_1) => atoms_spec (ws := Jvm.Cond.code x code maxLocals ret :: tables_1) hat d (List.mem_cons_of_mem _ hd)
  have hfit : Fit s := fun {y c} hc i hi => by
    obtain ⟨ha, rfl⟩ := Array.getElem?_eq_some_iff.mp hc
    have q := List.all_eq_true.mp ((Array.all_eq_true_iff_forall_mem.mp hF) _ (Array.getElem_mem ha)) i (List.mem_range.mpr hi)
    simpa [Array.getElem?_eq_getElem hi] using q
  obtain ⟨hsets, hown0⟩ := atoms_of _ (rest_1_c_eq ▸ (show rest_1_c.before _ s = true from hrest))
  obtain ⟨i0, ei0⟩ := is_v ha0
  obtain rfl : w0 = (.int i0) := Option.some.inj ei0
  obtain ⟨i1, ei1⟩ := is_v ha1
  obtain rfl : w1 = (.int i1) := Option.some.inj ei1
  obtain ⟨i2, ei2⟩ := is_v ha2
  obtain rfl : w2 = (.int i2) := Option.some.inj ei2
  obtain ⟨i3, ei3⟩ := is_v ha3
  obtain rfl : w3 = (.int i3) := Option.some.inj ei3
  have nU := (Cond.before_iff.mp (hsets _ (List.mem_of_getElem? (i := 6) rfl)))
  obtain ⟨u, eu⟩ := exa_v nU
  have sU : Sta s s.heap "java/time/temporal/ChronoField" "EPOCH_DAY" "Ljava/time/temporal/ChronoField;" (.ref u) := Sta.start eu (Or.inl (hsets _ (List.mem_of_getElem? (i := 1) rfl)))
  have hU := Exa.start eu nU
  have nV := (Cond.before_iff.mp (hsets _ (List.mem_of_getElem? (i := 22) rfl)))
  obtain ⟨v, ev⟩ := exa_v nV
  have f0 : Fld s s.heap u "java/time/temporal/ChronoField" "range" "Ljava/time/temporal/ValueRange;" (.ref v) := Fld.start (by rw [← fld_at eu]; exact ev)
  have hV := Exa.start ev nV
  have f1 : Fld s s.heap v "java/time/temporal/ValueRange" "minSmallest" "J" (.long (-365243219162 : Int64)) := Fld.start (by rw [← fld_at ev]; exact fieldJ (Cond.before_iff.mp (hsets _ (List.mem_of_getElem? (i := 23) rfl))))
  have f2 : Fld s s.heap v "java/time/temporal/ValueRange" "maxLargest" "J" (.long (365241780471 : Int64)) := Fld.start (by rw [← fld_at ev]; exact fieldJ (Cond.before_iff.mp (hsets _ (List.mem_of_getElem? (i := 26) rfl))))
  have nD := (Cond.before_iff.mp (hsets _ (List.mem_of_getElem? (i := 34) rfl)))
  obtain ⟨ed, eD⟩ := arr_v nD
  have sD : Sta s s.heap "java/util/ArrayList" "DEFAULTCAPACITY_EMPTY_ELEMENTDATA" "[Ljava/lang/Object;" (.ref ed) := Sta.start eD (Or.inr ⟨hw _ (List.mem_of_getElem? (i := 82) rfl), (hsets _ (List.mem_of_getElem? (i := 30) rfl))⟩)
  obtain ⟨n, o, h1, h2, h3, _, L, rfl, ⟨rfl, N', -⟩, hq⟩ := rm_law l s _ hw tables_1 i0 i1 i2 i3 u v ed s.heap (Old.start s) sU hU f0 hV f1 f2 sD p e ha hc hk s m _ below hf ((Spec.applies_iff_loose hf).mp happ).1 ⟨rfl, State.Warmed39.refl s, rfl⟩ trivial
  have N := Fk.fr N'
  refine ⟨n, _, h1, h2, h3, hpost _ _ _ _ _ _ ⟨Cond.after_iff.mpr rfl, Cond.after_iff.mpr (eq_i res_at (Term.int_eval (1)) rfl), trivial⟩ ⟨hq.1, hq.2.1, (hq.2.2.sift fun y hy => Or.inr (N y hy)).mono (by decide) (by decide)⟩⟩
theorem main_1_1 : Claimed_1_1 := comes_1 fun _ _ _ _ _ _ h hF => ⟨h.1, hF⟩
theorem main_1_2 : Claimed_1_2 := comes_1 fun _ _ _ _ _ _ h hF => ⟨h.2.1, hF⟩
end Jvm.Pilot.@@N@@
namespace Jvm.Pilot.@@N@@
open Jvm Jvm.ClassFile Sem Op Lib Jvm.Free Jvm.Stand Jvm.Pilot.@@N@@.Jvm.D
/-! MADE BY PROGRAM (witnessworld.py) out of the Statement's table words and the real class files: 37 classes; the members and pool entries that the words name. The judged class is class 1, her method 2. -/
namespace start1
open Jvm.ClassFile
def u (s : String) : CpInfo := .utf8 (stringToUtf16 s)
/-- a pool by its gaps: so many unusable entries, then the entry; so many at the end -/
def gap : Nat → List CpInfo → List CpInfo
  | 0, r => r
  | n + 1, r => .unusable :: gap n r
def poolList (es : List (Nat × CpInfo)) (last : Nat) : List CpInfo := es.foldr (fun e r => gap e.1 (e.2 :: r)) (gap last [])
def pool (es : List (Nat × CpInfo)) (last : Nat) : Array CpInfo := ⟨poolList es last⟩
def fileOf (pool : Array CpInfo) (this : Nat) (attrs : Array Attribute := #[]) (ms : Array MethodInfo := #[]) (fl : Nat := 33) (sup : Nat := 0) (ifs : Array Nat := #[]) (fds : Array FieldInfo := #[]) : ClassFile where
  minorVersion := 0
  majorVersion := 65
  constantPool := pool
  accessFlags := fl
  thisClass := this
  superClass := sup
  interfaces := ifs
  fields := fds
  methods := ms
  attributes := attrs
def plain (name : String) (sup : Option ClassId) : Class where
  name := name
  kind := .ordinary
  loader := none
  accessFlags := 33
  super := sup
  interfaces := #[]
  cf := none
  fields := #[]
  methods := #[]
  instanceTypes := #[]
  staticTypes := #[]
  resolved := #[]
  callSites := []
  init := .initialized
  statics := none
  mirror := none

def pool0 : Array CpInfo := pool [(5, u "<init>"), (0, u "()V"), (1, .class_ 10), (1, u "java/lang/Object")] 113

def k0c0 : Code := { maxStack := 0, maxLocals := 1, code := object_method_1_code, exceptionTable := #[], attributes := #[] }
def k0m0 : Method := { name := "<init>", desc := "()V", sig := { parameters := [], returnType := none }, accessFlags := 1, code := some k0c0 }
/-- java/lang/Object -/
def k0 : Class := { plain "java/lang/Object" none with
  accessFlags := 33
  interfaces := #[]
  cf := some (fileOf pool0 8 #[] #[{ accessFlags := 1, nameIndex := 5, descriptorIndex := 6, attributes := #[] }] 33 0 #[] #[])
  fields := #[]
  methods := #[k0m0]
  instanceTypes := #[]
  staticTypes := #[]
  resolved := Array.replicate 124 none
  statics := none }

def pool1 : Array CpInfo := pool [(2, .class_ 4), (0, .nameAndType 5 6), (0, u "java/lang/Object"), (0, u "<init>"), (0, u "()V"), (0, .methodref 8 9), (0, .class_ 10), (0, .nameAndType 11 12), (0, u "java/time/LocalDate"), (0, u "equals"), (0, u "(Ljava/lang/Object;)Z"), (0, .integer 65535), (0, .methodref 8 15), (0, .nameAndType 16 17), (0, u "ofEpochDay"), (0, u "(J)Ljava/time/LocalDate;"), (0, .methodref 19 20), (0, .class_ 21), (0, .nameAndType 22 23), (0, u "java/lang/Math"), (0, u "min"), (0, u "(II)I"), (0, .class_ 25), (0, u "com/example/accumulus/accumulus/account/LoanAccount"), (0, .methodref 24 3), (0, .methodref 24 28), (0, .nameAndType 29 30), (0, u "nextWaitingDay"), (0, u "()Ljava/time/LocalDate;"), (0, .methodref 24 32), (0, .nameAndType 33 34), (0, u "await"), (0, u "(Lcom/example/accumulus/accumulus/journal/JournalEntry;Ljava/time/LocalDate;)V"), (0, .methodref 36 37), (0, .class_ 38), (0, .nameAndType 39 40), (0, u "com/example/accumulus/accumulus/account/LoanAccountNextWaitingDayPinLaw"), (0, u "same"), (0, u "(Ljava/time/LocalDate;Ljava/time/LocalDate;)Z"), (0, .methodref 24 42), (0, .nameAndType 43 44), (0, u "takeWaiting"), (0, u "()Lcom/example/accumulus/accumulus/journal/JournalEntry;"), (3, u "law"), (0, u "(IIII)Z")] 4

def k1m0 : Method := { name := "<init>", desc := "()V", sig := { parameters := [], returnType := none }, accessFlags := 1, code := none }
def k1c1 : Code := { maxStack := 2, maxLocals := 2, code := method_2_code, exceptionTable := #[], attributes := #[] }
def k1m1 : Method := { name := "same", desc := "(Ljava/time/LocalDate;Ljava/time/LocalDate;)Z", sig := { parameters := [(.object "java/time/LocalDate"), (.object "java/time/LocalDate")], returnType := some .boolean }, accessFlags := 10, code := some k1c1 }
def k1c2 : Code := { maxStack := 4, maxLocals := 18, code := code, exceptionTable := #[], attributes := #[] }
def k1m2 : Method := { name := "law", desc := "(IIII)Z", sig := { parameters := [.int, .int, .int, .int], returnType := some .boolean }, accessFlags := 9, code := some k1c2 }
/-- com/example/accumulus/accumulus/account/LoanAccountNextWaitingDayPinLaw -/
def k1 : Class := { plain "com/example/accumulus/accumulus/account/LoanAccountNextWaitingDayPinLaw" (some 0) with
  accessFlags := 49
  interfaces := #[]
  cf := some (fileOf pool1 36 #[] #[{ accessFlags := 1, nameIndex := 5, descriptorIndex := 6, attributes := #[] }, { accessFlags := 10, nameIndex := 39, descriptorIndex := 40, attributes := #[] }, { accessFlags := 9, nameIndex := 48, descriptorIndex := 49, attributes := #[] }] 49 2 #[] #[])
  fields := #[]
  methods := #[k1m0, k1m1, k1m2]
  instanceTypes := #[]
  staticTypes := #[]
  resolved := Array.replicate 54 none
  statics := none }

def pool2 : Array CpInfo := pool [(4, .class_ 6), (1, u "java/time/temporal/TemporalAccessor"), (95, .class_ 103), (0, u "java/lang/Object")] 21

/-- java/time/temporal/TemporalAccessor -/
def k2 : Class := { plain "java/time/temporal/TemporalAccessor" (some 0) with
  accessFlags := 1537
  interfaces := #[]
  cf := some (fileOf pool2 4 #[] #[] 1537 102 #[] #[])
  fields := #[]
  methods := #[]
  instanceTypes := #[]
  staticTypes := #[]
  resolved := Array.replicate 125 none
  statics := none }

def pool3 : Array CpInfo := pool [(22, .class_ 24), (1, u "java/time/temporal/Temporal"), (2, .class_ 28), (0, u "java/lang/Object"), (0, .class_ 30), (0, u "java/time/temporal/TemporalAccessor")] 25

/-- java/time/temporal/Temporal -/
def k3 : Class := { plain "java/time/temporal/Temporal" (some 0) with
  accessFlags := 1537
  interfaces := #[2]
  cf := some (fileOf pool3 22 #[] #[] 1537 27 #[29] #[])
  fields := #[]
  methods := #[]
  instanceTypes := #[]
  staticTypes := #[]
  resolved := Array.replicate 56 none
  statics := none }

def pool4 : Array CpInfo := pool [(1, .class_ 2), (0, u "java/time/temporal/TemporalAdjuster"), (0, .class_ 4), (0, u "java/lang/Object")] 6

/-- java/time/temporal/TemporalAdjuster -/
def k4 : Class := { plain "java/time/temporal/TemporalAdjuster" (some 0) with
  accessFlags := 1537
  interfaces := #[]
  cf := some (fileOf pool4 1 #[] #[] 1537 3 #[] #[])
  fields := #[]
  methods := #[]
  instanceTypes := #[]
  staticTypes := #[]
  resolved := Array.replicate 11 none
  statics := none }

def pool5 : Array CpInfo := pool [(1, .class_ 2), (0, u "java/lang/Comparable"), (0, .class_ 4), (0, u "java/lang/Object")] 7

/-- java/lang/Comparable -/
def k5 : Class := { plain "java/lang/Comparable" (some 0) with
  accessFlags := 1537
  interfaces := #[]
  cf := some (fileOf pool5 1 #[] #[] 1537 3 #[] #[])
  fields := #[]
  methods := #[]
  instanceTypes := #[]
  staticTypes := #[]
  resolved := Array.replicate 12 none
  statics := none }

def pool6 : Array CpInfo := pool [(9, .class_ 10), (0, u "java/time/chrono/ChronoLocalDate"), (104, .class_ 117), (1, u "java/time/temporal/Temporal"), (134, .class_ 253), (0, u "java/lang/Object"), (23, .class_ 278), (0, u "java/time/temporal/TemporalAdjuster"), (0, .class_ 280), (0, u "java/lang/Comparable")] 86

/-- java/time/chrono/ChronoLocalDate -/
def k6 : Class := { plain "java/time/chrono/ChronoLocalDate" (some 0) with
  accessFlags := 1537
  interfaces := #[3, 4, 5]
  cf := some (fileOf pool6 9 #[] #[] 1537 252 #[115, 277, 279] #[])
  fields := #[]
  methods := #[]
  instanceTypes := #[]
  staticTypes := #[]
  resolved := Array.replicate 367 none
  statics := none }

def pool7 : Array CpInfo := pool [(1, .class_ 2), (0, u "java/io/Serializable"), (0, .class_ 4), (0, u "java/lang/Object")] 2

/-- java/io/Serializable -/
def k7 : Class := { plain "java/io/Serializable" (some 0) with
  accessFlags := 1537
  interfaces := #[]
  cf := some (fileOf pool7 1 #[] #[] 1537 3 #[] #[])
  fields := #[]
  methods := #[]
  instanceTypes := #[]
  staticTypes := #[]
  resolved := Array.replicate 7 none
  statics := none }

def pool8 : Array CpInfo := pool [(1, .class_ 2), (0, u "java/time/LocalDate"), (37, .class_ 42), (1, u "java/time/temporal/ChronoField"), (1, u "Ljava/time/temporal/ChronoField;"), (0, .methodref 40 46), (0, .nameAndType 47 48), (0, u "checkValidValue"), (0, u "(J)J"), (1, u "month"), (34, .nameAndType 86 87), (0, u "<init>"), (0, u "()V"), (33, .methodref 1 122), (0, .nameAndType 86 123), (0, u "(III)V"), (35, u "ofEpochDay"), (0, u "(J)Ljava/time/LocalDate;"), (0, .fieldref 40 162), (0, .nameAndType 163 44), (0, u "EPOCH_DAY"), (0, .long 719528), (1, .long 60), (1, .long 146097), (1, .long 400), (1, .long 591), (1, .long 365), (1, .long 4), (1, .long 100), (64, .methodref 244 85), (0, .class_ 245), (0, u "java/lang/Object"), (0, .fieldref 1 247), (0, .nameAndType 248 249), (0, u "year"), (0, u "I"), (0, .fieldref 1 251), (0, .nameAndType 50 252), (0, u "S"), (0, .fieldref 1 254), (0, .nameAndType 255 252), (0, u "day"), (1, .class_ 259), (1, u "java/time/chrono/ChronoLocalDate"), (10, .class_ 272), (1, u "java/time/LocalDate$1"), (107, .class_ 382), (1, u "java/time/temporal/TemporalAdjuster"), (205, u "MAX"), (0, u "Ljava/time/LocalDate;"), (2, u "MIN"), (176, u "EPOCH"), (0, .class_ 771), (0, u "java/time/temporal/Temporal"), (0, .class_ 773), (0, u "java/io/Serializable"), (0, u "serialVersionUID"), (0, u "J"), (3, u "DAYS_PER_CYCLE"), (1, u "DAYS_0000_TO_1970"), (126, u "equals"), (0, u "(Ljava/lang/Object;)Z")] 78

def k8c0 : Code := { maxStack := 8, maxLocals := 14, code := jdk_2323_method_8_code, exceptionTable := #[], attributes := #[] }
def k8m0 : Method := { name := "ofEpochDay", desc := "(J)Ljava/time/LocalDate;", sig := { parameters := [.long], returnType := some (.object "java/time/LocalDate") }, accessFlags := 9, code := some k8c0 }
def k8c1 : Code := { maxStack := 2, maxLocals := 4, code := jdk_2323_method_14_code, exceptionTable := #[], attributes := #[] }
def k8m1 : Method := { name := "<init>", desc := "(III)V", sig := { parameters := [.int, .int, .int], returnType := none }, accessFlags := 2, code := some k8c1 }
def k8c2 : Code := { maxStack := 2, maxLocals := 2, code := jdk_2323_method_74_code, exceptionTable := #[], attributes := #[] }
def k8m2 : Method := { name := "equals", desc := "(Ljava/lang/Object;)Z", sig := { parameters := [(.object "java/lang/Object")], returnType := some .boolean }, accessFlags := 1, code := some k8c2 }
/-- java/time/LocalDate -/
def k8 : Class := { plain "java/time/LocalDate" (some 0) with
  accessFlags := 49
  interfaces := #[3, 4, 6, 7]
  cf := some (fileOf pool8 1 #[.nestMembers #[270]] #[{ accessFlags := 9, nameIndex := 159, descriptorIndex := 160, attributes := #[] }, { accessFlags := 2, nameIndex := 86, descriptorIndex := 123, attributes := #[] }, { accessFlags := 1, nameIndex := 908, descriptorIndex := 909, attributes := #[] }] 49 244 #[770, 380, 257, 772] #[{ accessFlags := 25, nameIndex := 592, descriptorIndex := 589, attributes := #[] }, { accessFlags := 25, nameIndex := 588, descriptorIndex := 589, attributes := #[] }, { accessFlags := 25, nameIndex := 769, descriptorIndex := 589, attributes := #[] }, { accessFlags := 26, nameIndex := 774, descriptorIndex := 775, attributes := #[] }, { accessFlags := 26, nameIndex := 779, descriptorIndex := 249, attributes := #[] }, { accessFlags := 24, nameIndex := 781, descriptorIndex := 775, attributes := #[] }, { accessFlags := 18, nameIndex := 248, descriptorIndex := 249, attributes := #[] }, { accessFlags := 18, nameIndex := 50, descriptorIndex := 252, attributes := #[] }, { accessFlags := 18, nameIndex := 255, descriptorIndex := 252, attributes := #[] }])
  fields := #[{ name := "MIN", type := (.object "java/time/LocalDate"), accessFlags := 25, slot := 0, constantValue := 0 }, { name := "MAX", type := (.object "java/time/LocalDate"), accessFlags := 25, slot := 1, constantValue := 0 }, { name := "EPOCH", type := (.object "java/time/LocalDate"), accessFlags := 25, slot := 2, constantValue := 0 }, { name := "serialVersionUID", type := .long, accessFlags := 26, slot := 3, constantValue := 0 }, { name := "DAYS_PER_CYCLE", type := .int, accessFlags := 26, slot := 4, constantValue := 0 }, { name := "DAYS_0000_TO_1970", type := .long, accessFlags := 24, slot := 5, constantValue := 0 }, { name := "year", type := .int, accessFlags := 18, slot := 0, constantValue := 0 }, { name := "month", type := .short, accessFlags := 18, slot := 1, constantValue := 0 }, { name := "day", type := .short, accessFlags := 18, slot := 2, constantValue := 0 }]
  methods := #[k8m0, k8m1, k8m2]
  instanceTypes := #[.int, .short, .short]
  staticTypes := #[(.object "java/time/LocalDate"), (.object "java/time/LocalDate"), (.object "java/time/LocalDate"), .long, .int, .long]
  resolved := Array.replicate 988 none
  statics := none }

def pool9 : Array CpInfo := pool [(1, .class_ 2), (0, u "java/lang/constant/Constable"), (0, .class_ 4), (0, u "java/lang/Object")] 6

/-- java/lang/constant/Constable -/
def k9 : Class := { plain "java/lang/constant/Constable" (some 0) with
  accessFlags := 1537
  interfaces := #[]
  cf := some (fileOf pool9 1 #[] #[] 1537 3 #[] #[])
  fields := #[]
  methods := #[]
  instanceTypes := #[]
  staticTypes := #[]
  resolved := Array.replicate 11 none
  statics := none }

def pool10 : Array CpInfo := pool [(2, .class_ 4), (1, u "java/lang/Enum"), (0, u "name"), (0, u "Ljava/lang/String;"), (2, u "ordinal"), (0, u "I"), (1, .class_ 14), (1, u "java/lang/Object"), (4, u "hash"), (86, .class_ 108), (1, u "java/lang/Enum$EnumDesc"), (2, .class_ 112), (0, u "java/lang/constant/Constable"), (0, .class_ 114), (0, u "java/lang/Comparable"), (0, .class_ 116), (0, u "java/io/Serializable")] 87

/-- java/lang/Enum -/
def k10 : Class := { plain "java/lang/Enum" (some 0) with
  accessFlags := 1057
  interfaces := #[9, 5, 7]
  cf := some (fileOf pool10 2 #[.nestMembers #[106]] #[] 1057 12 #[111, 113, 115] #[{ accessFlags := 18, nameIndex := 5, descriptorIndex := 6, attributes := #[] }, { accessFlags := 18, nameIndex := 9, descriptorIndex := 10, attributes := #[] }, { accessFlags := 2, nameIndex := 19, descriptorIndex := 10, attributes := #[] }])
  fields := #[{ name := "name", type := (.object "java/lang/String"), accessFlags := 18, slot := 0, constantValue := 0 }, { name := "ordinal", type := .int, accessFlags := 18, slot := 1, constantValue := 0 }, { name := "hash", type := .int, accessFlags := 2, slot := 2, constantValue := 0 }]
  methods := #[]
  instanceTypes := #[(.object "java/lang/String"), .int, .int]
  staticTypes := #[]
  resolved := Array.replicate 204 none
  statics := none }

def pool11 : Array CpInfo := pool [(10, .class_ 12), (1, u "java/time/temporal/TemporalField"), (2, .class_ 16), (0, u "java/lang/Object")] 39

/-- java/time/temporal/TemporalField -/
def k11 : Class := { plain "java/time/temporal/TemporalField" (some 0) with
  accessFlags := 1537
  interfaces := #[]
  cf := some (fileOf pool11 10 #[] #[] 1537 15 #[] #[])
  fields := #[]
  methods := #[]
  instanceTypes := #[]
  staticTypes := #[]
  resolved := Array.replicate 56 none
  statics := none }

def pool12 : Array CpInfo := pool [(1, .class_ 2), (0, u "java/time/temporal/ChronoField"), (2, u "NANO_OF_SECOND"), (0, u "Ljava/time/temporal/ChronoField;"), (2, u "NANO_OF_DAY"), (2, u "MICRO_OF_SECOND"), (2, u "MICRO_OF_DAY"), (2, u "MILLI_OF_SECOND"), (2, u "MILLI_OF_DAY"), (2, u "SECOND_OF_MINUTE"), (2, u "SECOND_OF_DAY"), (2, u "MINUTE_OF_HOUR"), (2, u "MINUTE_OF_DAY"), (2, u "HOUR_OF_AMPM"), (2, u "CLOCK_HOUR_OF_AMPM"), (2, u "HOUR_OF_DAY"), (2, u "CLOCK_HOUR_OF_DAY"), (2, u "AMPM_OF_DAY"), (2, u "DAY_OF_WEEK"), (2, u "ALIGNED_DAY_OF_WEEK_IN_MONTH"), (2, u "ALIGNED_DAY_OF_WEEK_IN_YEAR"), (2, u "DAY_OF_MONTH"), (2, u "DAY_OF_YEAR"), (2, u "EPOCH_DAY"), (2, u "ALIGNED_WEEK_OF_MONTH"), (2, u "ALIGNED_WEEK_OF_YEAR"), (2, u "MONTH_OF_YEAR"), (2, u "PROLEPTIC_MONTH"), (2, u "YEAR_OF_ERA"), (2, u "YEAR"), (2, u "ERA"), (2, u "INSTANT_SECONDS"), (2, u "OFFSET_SECONDS"), (2, u "$VALUES"), (0, u "[Ljava/time/temporal/ChronoField;"), (6, .class_ 106), (1, u "java/lang/Enum"), (8, u "name"), (0, u "Ljava/lang/String;"), (2, u "baseUnit"), (0, u "Ljava/time/temporal/TemporalUnit;"), (2, u "rangeUnit"), (0, .fieldref 1 125), (0, .nameAndType 126 127), (0, u "range"), (0, u "Ljava/time/temporal/ValueRange;"), (2, u "displayNameKey"), (59, .methodref 1 191), (0, .nameAndType 126 192), (0, u "()Ljava/time/temporal/ValueRange;"), (0, .methodref 194 195), (0, .class_ 196), (0, .nameAndType 197 198), (0, u "java/time/temporal/ValueRange"), (0, u "checkValidValue"), (0, u "(JLjava/time/temporal/TemporalField;)J"), (256, .class_ 456), (0, u "java/time/temporal/TemporalField"), (27, u "(J)J")] 22

def k12c0 : Code := { maxStack := 1, maxLocals := 1, code := jdk_2395_method_8_code, exceptionTable := #[], attributes := #[] }
def k12m0 : Method := { name := "range", desc := "()Ljava/time/temporal/ValueRange;", sig := { parameters := [], returnType := some (.object "java/time/temporal/ValueRange") }, accessFlags := 1, code := some k12c0 }
def k12c1 : Code := { maxStack := 4, maxLocals := 3, code := jdk_2395_method_11_code, exceptionTable := #[], attributes := #[] }
def k12m1 : Method := { name := "checkValidValue", desc := "(J)J", sig := { parameters := [.long], returnType := some .long }, accessFlags := 1, code := some k12c1 }
/-- java/time/temporal/ChronoField -/
def k12 : Class := { plain "java/time/temporal/ChronoField" (some 10) with
  accessFlags := 16433
  interfaces := #[11]
  cf := some (fileOf pool12 1 #[] #[{ accessFlags := 1, nameIndex := 126, descriptorIndex := 192, attributes := #[] }, { accessFlags := 1, nameIndex := 197, descriptorIndex := 484, attributes := #[] }] 16433 104 #[455] #[{ accessFlags := 16409, nameIndex := 5, descriptorIndex := 6, attributes := #[] }, { accessFlags := 16409, nameIndex := 9, descriptorIndex := 6, attributes := #[] }, { accessFlags := 16409, nameIndex := 12, descriptorIndex := 6, attributes := #[] }, { accessFlags := 16409, nameIndex := 15, descriptorIndex := 6, attributes := #[] }, { accessFlags := 16409, nameIndex := 18, descriptorIndex := 6, attributes := #[] }, { accessFlags := 16409, nameIndex := 21, descriptorIndex := 6, attributes := #[] }, { accessFlags := 16409, nameIndex := 24, descriptorIndex := 6, attributes := #[] }, { accessFlags := 16409, nameIndex := 27, descriptorIndex := 6, attributes := #[] }, { accessFlags := 16409, nameIndex := 30, descriptorIndex := 6, attributes := #[] }, { accessFlags := 16409, nameIndex := 33, descriptorIndex := 6, attributes := #[] }, { accessFlags := 16409, nameIndex := 36, descriptorIndex := 6, attributes := #[] }, { accessFlags := 16409, nameIndex := 39, descriptorIndex := 6, attributes := #[] }, { accessFlags := 16409, nameIndex := 42, descriptorIndex := 6, attributes := #[] }, { accessFlags := 16409, nameIndex := 45, descriptorIndex := 6, attributes := #[] }, { accessFlags := 16409, nameIndex := 48, descriptorIndex := 6, attributes := #[] }, { accessFlags := 16409, nameIndex := 51, descriptorIndex := 6, attributes := #[] }, { accessFlags := 16409, nameIndex := 54, descriptorIndex := 6, attributes := #[] }, { accessFlags := 16409, nameIndex := 57, descriptorIndex := 6, attributes := #[] }, { accessFlags := 16409, nameIndex := 60, descriptorIndex := 6, attributes := #[] }, { accessFlags := 16409, nameIndex := 63, descriptorIndex := 6, attributes := #[] }, { accessFlags := 16409, nameIndex := 66, descriptorIndex := 6, attributes := #[] }, { accessFlags := 16409, nameIndex := 69, descriptorIndex := 6, attributes := #[] }, { accessFlags := 16409, nameIndex := 72, descriptorIndex := 6, attributes := #[] }, { accessFlags := 16409, nameIndex := 75, descriptorIndex := 6, attributes := #[] }, { accessFlags := 16409, nameIndex := 78, descriptorIndex := 6, attributes := #[] }, { accessFlags := 16409, nameIndex := 81, descriptorIndex := 6, attributes := #[] }, { accessFlags := 16409, nameIndex := 84, descriptorIndex := 6, attributes := #[] }, { accessFlags := 16409, nameIndex := 87, descriptorIndex := 6, attributes := #[] }, { accessFlags := 16409, nameIndex := 90, descriptorIndex := 6, attributes := #[] }, { accessFlags := 16409, nameIndex := 93, descriptorIndex := 6, attributes := #[] }, { accessFlags := 18, nameIndex := 115, descriptorIndex := 116, attributes := #[] }, { accessFlags := 18, nameIndex := 119, descriptorIndex := 120, attributes := #[] }, { accessFlags := 18, nameIndex := 123, descriptorIndex := 120, attributes := #[] }, { accessFlags := 18, nameIndex := 126, descriptorIndex := 127, attributes := #[] }, { accessFlags := 18, nameIndex := 130, descriptorIndex := 116, attributes := #[] }, { accessFlags := 4122, nameIndex := 96, descriptorIndex := 97, attributes := #[] }])
  fields := #[{ name := "NANO_OF_SECOND", type := (.object "java/time/temporal/ChronoField"), accessFlags := 16409, slot := 0, constantValue := 0 }, { name := "NANO_OF_DAY", type := (.object "java/time/temporal/ChronoField"), accessFlags := 16409, slot := 1, constantValue := 0 }, { name := "MICRO_OF_SECOND", type := (.object "java/time/temporal/ChronoField"), accessFlags := 16409, slot := 2, constantValue := 0 }, { name := "MICRO_OF_DAY", type := (.object "java/time/temporal/ChronoField"), accessFlags := 16409, slot := 3, constantValue := 0 }, { name := "MILLI_OF_SECOND", type := (.object "java/time/temporal/ChronoField"), accessFlags := 16409, slot := 4, constantValue := 0 }, { name := "MILLI_OF_DAY", type := (.object "java/time/temporal/ChronoField"), accessFlags := 16409, slot := 5, constantValue := 0 }, { name := "SECOND_OF_MINUTE", type := (.object "java/time/temporal/ChronoField"), accessFlags := 16409, slot := 6, constantValue := 0 }, { name := "SECOND_OF_DAY", type := (.object "java/time/temporal/ChronoField"), accessFlags := 16409, slot := 7, constantValue := 0 }, { name := "MINUTE_OF_HOUR", type := (.object "java/time/temporal/ChronoField"), accessFlags := 16409, slot := 8, constantValue := 0 }, { name := "MINUTE_OF_DAY", type := (.object "java/time/temporal/ChronoField"), accessFlags := 16409, slot := 9, constantValue := 0 }, { name := "HOUR_OF_AMPM", type := (.object "java/time/temporal/ChronoField"), accessFlags := 16409, slot := 10, constantValue := 0 }, { name := "CLOCK_HOUR_OF_AMPM", type := (.object "java/time/temporal/ChronoField"), accessFlags := 16409, slot := 11, constantValue := 0 }, { name := "HOUR_OF_DAY", type := (.object "java/time/temporal/ChronoField"), accessFlags := 16409, slot := 12, constantValue := 0 }, { name := "CLOCK_HOUR_OF_DAY", type := (.object "java/time/temporal/ChronoField"), accessFlags := 16409, slot := 13, constantValue := 0 }, { name := "AMPM_OF_DAY", type := (.object "java/time/temporal/ChronoField"), accessFlags := 16409, slot := 14, constantValue := 0 }, { name := "DAY_OF_WEEK", type := (.object "java/time/temporal/ChronoField"), accessFlags := 16409, slot := 15, constantValue := 0 }, { name := "ALIGNED_DAY_OF_WEEK_IN_MONTH", type := (.object "java/time/temporal/ChronoField"), accessFlags := 16409, slot := 16, constantValue := 0 }, { name := "ALIGNED_DAY_OF_WEEK_IN_YEAR", type := (.object "java/time/temporal/ChronoField"), accessFlags := 16409, slot := 17, constantValue := 0 }, { name := "DAY_OF_MONTH", type := (.object "java/time/temporal/ChronoField"), accessFlags := 16409, slot := 18, constantValue := 0 }, { name := "DAY_OF_YEAR", type := (.object "java/time/temporal/ChronoField"), accessFlags := 16409, slot := 19, constantValue := 0 }, { name := "EPOCH_DAY", type := (.object "java/time/temporal/ChronoField"), accessFlags := 16409, slot := 20, constantValue := 0 }, { name := "ALIGNED_WEEK_OF_MONTH", type := (.object "java/time/temporal/ChronoField"), accessFlags := 16409, slot := 21, constantValue := 0 }, { name := "ALIGNED_WEEK_OF_YEAR", type := (.object "java/time/temporal/ChronoField"), accessFlags := 16409, slot := 22, constantValue := 0 }, { name := "MONTH_OF_YEAR", type := (.object "java/time/temporal/ChronoField"), accessFlags := 16409, slot := 23, constantValue := 0 }, { name := "PROLEPTIC_MONTH", type := (.object "java/time/temporal/ChronoField"), accessFlags := 16409, slot := 24, constantValue := 0 }, { name := "YEAR_OF_ERA", type := (.object "java/time/temporal/ChronoField"), accessFlags := 16409, slot := 25, constantValue := 0 }, { name := "YEAR", type := (.object "java/time/temporal/ChronoField"), accessFlags := 16409, slot := 26, constantValue := 0 }, { name := "ERA", type := (.object "java/time/temporal/ChronoField"), accessFlags := 16409, slot := 27, constantValue := 0 }, { name := "INSTANT_SECONDS", type := (.object "java/time/temporal/ChronoField"), accessFlags := 16409, slot := 28, constantValue := 0 }, { name := "OFFSET_SECONDS", type := (.object "java/time/temporal/ChronoField"), accessFlags := 16409, slot := 29, constantValue := 0 }, { name := "name", type := (.object "java/lang/String"), accessFlags := 18, slot := 3, constantValue := 0 }, { name := "baseUnit", type := (.object "java/time/temporal/TemporalUnit"), accessFlags := 18, slot := 4, constantValue := 0 }, { name := "rangeUnit", type := (.object "java/time/temporal/TemporalUnit"), accessFlags := 18, slot := 5, constantValue := 0 }, { name := "range", type := (.object "java/time/temporal/ValueRange"), accessFlags := 18, slot := 6, constantValue := 0 }, { name := "displayNameKey", type := (.object "java/lang/String"), accessFlags := 18, slot := 7, constantValue := 0 }, { name := "$VALUES", type := (.array (.object "java/time/temporal/ChronoField")), accessFlags := 4122, slot := 30, constantValue := 0 }]
  methods := #[k12m0, k12m1]
  instanceTypes := #[(.object "java/lang/String"), .int, .int, (.object "java/lang/String"), (.object "java/time/temporal/TemporalUnit"), (.object "java/time/temporal/TemporalUnit"), (.object "java/time/temporal/ValueRange"), (.object "java/lang/String")]
  staticTypes := #[(.object "java/time/temporal/ChronoField"), (.object "java/time/temporal/ChronoField"), (.object "java/time/temporal/ChronoField"), (.object "java/time/temporal/ChronoField"), (.object "java/time/temporal/ChronoField"), (.object "java/time/temporal/ChronoField"), (.object "java/time/temporal/ChronoField"), (.object "java/time/temporal/ChronoField"), (.object "java/time/temporal/ChronoField"), (.object "java/time/temporal/ChronoField"), (.object "java/time/temporal/ChronoField"), (.object "java/time/temporal/ChronoField"), (.object "java/time/temporal/ChronoField"), (.object "java/time/temporal/ChronoField"), (.object "java/time/temporal/ChronoField"), (.object "java/time/temporal/ChronoField"), (.object "java/time/temporal/ChronoField"), (.object "java/time/temporal/ChronoField"), (.object "java/time/temporal/ChronoField"), (.object "java/time/temporal/ChronoField"), (.object "java/time/temporal/ChronoField"), (.object "java/time/temporal/ChronoField"), (.object "java/time/temporal/ChronoField"), (.object "java/time/temporal/ChronoField"), (.object "java/time/temporal/ChronoField"), (.object "java/time/temporal/ChronoField"), (.object "java/time/temporal/ChronoField"), (.object "java/time/temporal/ChronoField"), (.object "java/time/temporal/ChronoField"), (.object "java/time/temporal/ChronoField"), (.array (.object "java/time/temporal/ChronoField"))]
  resolved := Array.replicate 507 none
  statics := some 0 }

def pool13 : Array CpInfo := pool [(9, .class_ 10), (0, u "java/time/temporal/ValueRange"), (18, .class_ 31), (1, u "java/lang/Object"), (1, .fieldref 9 34), (0, .nameAndType 35 36), (0, u "minSmallest"), (0, u "J"), (2, u "minLargest"), (2, u "maxSmallest"), (0, .fieldref 9 44), (0, .nameAndType 45 36), (0, u "maxLargest"), (0, .methodref 9 47), (0, .nameAndType 48 49), (0, u "getMinimum"), (0, u "()J"), (4, .methodref 9 55), (0, .nameAndType 56 49), (0, u "getMaximum"), (6, .methodref 9 64), (0, .nameAndType 65 66), (0, u "isValidValue"), (0, u "(J)Z"), (54, .class_ 122), (0, u "java/io/Serializable"), (0, u "serialVersionUID"), (17, u "checkValidValue"), (0, u "(JLjava/time/temporal/TemporalField;)J")] 24

def k13c0 : Code := { maxStack := 2, maxLocals := 1, code := jdk_2423_method_6_code, exceptionTable := #[], attributes := #[] }
def k13m0 : Method := { name := "getMinimum", desc := "()J", sig := { parameters := [], returnType := some .long }, accessFlags := 1, code := some k13c0 }
def k13c1 : Code := { maxStack := 2, maxLocals := 1, code := jdk_2423_method_9_code, exceptionTable := #[], attributes := #[] }
def k13m1 : Method := { name := "getMaximum", desc := "()J", sig := { parameters := [], returnType := some .long }, accessFlags := 1, code := some k13c1 }
def k13c2 : Code := { maxStack := 4, maxLocals := 3, code := jdk_2423_method_11_code, exceptionTable := #[], attributes := #[] }
def k13m2 : Method := { name := "isValidValue", desc := "(J)Z", sig := { parameters := [.long], returnType := some .boolean }, accessFlags := 1, code := some k13c2 }
def k13c3 : Code := { maxStack := 6, maxLocals := 4, code := jdk_2423_method_13_code, exceptionTable := #[], attributes := #[] }
def k13m3 : Method := { name := "checkValidValue", desc := "(JLjava/time/temporal/TemporalField;)J", sig := { parameters := [.long, (.object "java/time/temporal/TemporalField")], returnType := some .long }, accessFlags := 1, code := some k13c3 }
/-- java/time/temporal/ValueRange -/
def k13 : Class := { plain "java/time/temporal/ValueRange" (some 0) with
  accessFlags := 49
  interfaces := #[7]
  cf := some (fileOf pool13 9 #[] #[{ accessFlags := 1, nameIndex := 48, descriptorIndex := 49, attributes := #[] }, { accessFlags := 1, nameIndex := 56, descriptorIndex := 49, attributes := #[] }, { accessFlags := 1, nameIndex := 65, descriptorIndex := 66, attributes := #[] }, { accessFlags := 1, nameIndex := 141, descriptorIndex := 142, attributes := #[] }] 49 29 #[121] #[{ accessFlags := 26, nameIndex := 123, descriptorIndex := 36, attributes := #[] }, { accessFlags := 18, nameIndex := 35, descriptorIndex := 36, attributes := #[] }, { accessFlags := 18, nameIndex := 39, descriptorIndex := 36, attributes := #[] }, { accessFlags := 18, nameIndex := 42, descriptorIndex := 36, attributes := #[] }, { accessFlags := 18, nameIndex := 45, descriptorIndex := 36, attributes := #[] }])
  fields := #[{ name := "serialVersionUID", type := .long, accessFlags := 26, slot := 0, constantValue := 0 }, { name := "minSmallest", type := .long, accessFlags := 18, slot := 0, constantValue := 0 }, { name := "minLargest", type := .long, accessFlags := 18, slot := 1, constantValue := 0 }, { name := "maxSmallest", type := .long, accessFlags := 18, slot := 2, constantValue := 0 }, { name := "maxLargest", type := .long, accessFlags := 18, slot := 3, constantValue := 0 }]
  methods := #[k13m0, k13m1, k13m2, k13m3]
  instanceTypes := #[.long, .long, .long, .long]
  staticTypes := #[.long]
  resolved := Array.replicate 167 none
  statics := none }

def pool14 : Array CpInfo := pool [(1, .class_ 2), (0, u "java/lang/Math"), (1, .class_ 6), (1, u "java/lang/Object"), (0, u "<init>"), (0, u "()V"), (89, .class_ 100), (1, u "java/lang/Math$RandomNumberGeneratorHolder"), (71, u "negativeZeroFloatBits"), (0, u "J"), (2, u "negativeZeroDoubleBits"), (24, u "min"), (43, u "$assertionsDisabled"), (0, u "Z"), (88, u "(II)I"), (2, u "twoToTheDoubleScaleDown"), (0, u "D"), (4, u "twoToTheDoubleScaleUp"), (9, u "E"), (3, u "PI"), (2, u "TAU"), (2, u "DEGREES_TO_RADIANS"), (0, u "RADIANS_TO_DEGREES")] 94

def k14m0 : Method := { name := "<init>", desc := "()V", sig := { parameters := [], returnType := none }, accessFlags := 2, code := none }
def k14c1 : Code := { maxStack := 2, maxLocals := 2, code := jdk_29_method_69_code, exceptionTable := #[], attributes := #[] }
def k14m1 : Method := { name := "min", desc := "(II)I", sig := { parameters := [.int, .int], returnType := some .int }, accessFlags := 9, code := some k14c1 }
/-- java/lang/Math -/
def k14 : Class := { plain "java/lang/Math" (some 0) with
  accessFlags := 49
  interfaces := #[]
  cf := some (fileOf pool14 1 #[.nestMembers #[98]] #[{ accessFlags := 2, nameIndex := 7, descriptorIndex := 8, attributes := #[] }, { accessFlags := 9, nameIndex := 201, descriptorIndex := 335, attributes := #[] }] 49 4 #[] #[{ accessFlags := 25, nameIndex := 354, descriptorIndex := 339, attributes := #[] }, { accessFlags := 25, nameIndex := 358, descriptorIndex := 339, attributes := #[] }, { accessFlags := 25, nameIndex := 361, descriptorIndex := 339, attributes := #[] }, { accessFlags := 26, nameIndex := 364, descriptorIndex := 339, attributes := #[] }, { accessFlags := 26, nameIndex := 365, descriptorIndex := 339, attributes := #[] }, { accessFlags := 26, nameIndex := 172, descriptorIndex := 173, attributes := #[] }, { accessFlags := 26, nameIndex := 176, descriptorIndex := 173, attributes := #[] }, { accessFlags := 8, nameIndex := 344, descriptorIndex := 339, attributes := #[] }, { accessFlags := 8, nameIndex := 338, descriptorIndex := 339, attributes := #[] }, { accessFlags := 4120, nameIndex := 245, descriptorIndex := 246, attributes := #[] }])
  fields := #[{ name := "E", type := .double, accessFlags := 25, slot := 0, constantValue := 0 }, { name := "PI", type := .double, accessFlags := 25, slot := 1, constantValue := 0 }, { name := "TAU", type := .double, accessFlags := 25, slot := 2, constantValue := 0 }, { name := "DEGREES_TO_RADIANS", type := .double, accessFlags := 26, slot := 3, constantValue := 0 }, { name := "RADIANS_TO_DEGREES", type := .double, accessFlags := 26, slot := 4, constantValue := 0 }, { name := "negativeZeroFloatBits", type := .long, accessFlags := 26, slot := 5, constantValue := 0 }, { name := "negativeZeroDoubleBits", type := .long, accessFlags := 26, slot := 6, constantValue := 0 }, { name := "twoToTheDoubleScaleUp", type := .double, accessFlags := 8, slot := 7, constantValue := 0 }, { name := "twoToTheDoubleScaleDown", type := .double, accessFlags := 8, slot := 8, constantValue := 0 }, { name := "$assertionsDisabled", type := .boolean, accessFlags := 4120, slot := 9, constantValue := 0 }]
  methods := #[k14m0, k14m1]
  instanceTypes := #[]
  staticTypes := #[.double, .double, .double, .double, .double, .long, .long, .double, .double, .boolean]
  resolved := Array.replicate 460 none
  statics := none }

def pool15 : Array CpInfo := pool [(1, .methodref 2 3), (0, .class_ 4), (0, .nameAndType 5 6), (0, u "java/lang/Object"), (0, u "<init>"), (0, u "()V"), (0, .class_ 8), (0, u "java/util/ArrayList"), (0, .methodref 7 3), (0, .fieldref 11 12), (0, .class_ 13), (0, .nameAndType 14 15), (0, u "com/example/accumulus/accumulus/account/LoanAccount"), (0, u "loans"), (0, u "Ljava/util/List;"), (0, .class_ 17), (0, u "java/util/ArrayDeque"), (0, .methodref 16 3), (0, .fieldref 11 20), (0, .nameAndType 21 22), (0, u "waiting"), (0, u "Ljava/util/ArrayDeque;"), (21, u "(Ljava/lang/Object;)Z"), (0, .class_ 46), (0, u "com/example/accumulus/accumulus/account/LoanAccount$Loan"), (21, u "()Ljava/lang/Object;"), (5, .nameAndType 76 44), (1, u "add"), (61, .class_ 139), (0, u "com/example/accumulus/accumulus/account/LoanAccount$Waiting"), (0, .methodref 138 141), (0, .nameAndType 5 142), (0, u "(Lcom/example/accumulus/accumulus/journal/JournalEntry;Ljava/time/LocalDate;)V"), (0, .methodref 16 74), (0, .methodref 16 145), (0, .nameAndType 146 68), (0, u "peek"), (0, .fieldref 138 148), (0, .nameAndType 149 150), (0, u "pricingDate"), (0, u "Ljava/time/LocalDate;"), (0, .methodref 16 152), (0, .nameAndType 153 68), (0, u "remove"), (0, .fieldref 138 155), (0, .nameAndType 156 157), (0, u "loan"), (0, u "Lcom/example/accumulus/accumulus/journal/JournalEntry;"), (0, u "LAST_DAY_IN_MONTH"), (0, u "I"), (2, u "DAYS_PER_YEAR"), (1, u "LOAN_BALANCE"), (0, u "Ljava/lang/String;"), (21, u "await"), (0, u "nextWaitingDay"), (0, u "()Ljava/time/LocalDate;"), (0, u "takeWaiting"), (0, u "()Lcom/example/accumulus/accumulus/journal/JournalEntry;")] 6

def k15c0 : Code := { maxStack := 3, maxLocals := 1, code := prog_23_method_1_code, exceptionTable := #[], attributes := #[] }
def k15m0 : Method := { name := "<init>", desc := "()V", sig := { parameters := [], returnType := none }, accessFlags := 0, code := some k15c0 }
def k15c1 : Code := { maxStack := 5, maxLocals := 3, code := prog_23_method_10_code, exceptionTable := #[], attributes := #[] }
def k15m1 : Method := { name := "await", desc := "(Lcom/example/accumulus/accumulus/journal/JournalEntry;Ljava/time/LocalDate;)V", sig := { parameters := [(.object "com/example/accumulus/accumulus/journal/JournalEntry"), (.object "java/time/LocalDate")], returnType := none }, accessFlags := 0, code := some k15c1 }
def k15c2 : Code := { maxStack := 1, maxLocals := 2, code := prog_23_method_11_code, exceptionTable := #[], attributes := #[] }
def k15m2 : Method := { name := "nextWaitingDay", desc := "()Ljava/time/LocalDate;", sig := { parameters := [], returnType := some (.object "java/time/LocalDate") }, accessFlags := 0, code := some k15c2 }
def k15c3 : Code := { maxStack := 1, maxLocals := 1, code := prog_23_method_12_code, exceptionTable := #[], attributes := #[] }
def k15m3 : Method := { name := "takeWaiting", desc := "()Lcom/example/accumulus/accumulus/journal/JournalEntry;", sig := { parameters := [], returnType := some (.object "com/example/accumulus/accumulus/journal/JournalEntry") }, accessFlags := 0, code := some k15c3 }
/-- com/example/accumulus/accumulus/account/LoanAccount -/
def k15 : Class := { plain "com/example/accumulus/accumulus/account/LoanAccount" (some 0) with
  accessFlags := 48
  interfaces := #[]
  cf := some (fileOf pool15 11 #[.nestMembers #[138, 45]] #[{ accessFlags := 0, nameIndex := 5, descriptorIndex := 6, attributes := #[] }, { accessFlags := 0, nameIndex := 187, descriptorIndex := 142, attributes := #[] }, { accessFlags := 0, nameIndex := 188, descriptorIndex := 189, attributes := #[] }, { accessFlags := 0, nameIndex := 190, descriptorIndex := 191, attributes := #[] }] 48 2 #[] #[{ accessFlags := 26, nameIndex := 158, descriptorIndex := 159, attributes := #[] }, { accessFlags := 26, nameIndex := 162, descriptorIndex := 159, attributes := #[] }, { accessFlags := 26, nameIndex := 164, descriptorIndex := 165, attributes := #[] }, { accessFlags := 18, nameIndex := 14, descriptorIndex := 15, attributes := #[] }, { accessFlags := 18, nameIndex := 21, descriptorIndex := 22, attributes := #[] }])
  fields := #[{ name := "LAST_DAY_IN_MONTH", type := .int, accessFlags := 26, slot := 0, constantValue := 0 }, { name := "DAYS_PER_YEAR", type := .int, accessFlags := 26, slot := 1, constantValue := 0 }, { name := "LOAN_BALANCE", type := (.object "java/lang/String"), accessFlags := 26, slot := 2, constantValue := 0 }, { name := "loans", type := (.object "java/util/List"), accessFlags := 18, slot := 0, constantValue := 0 }, { name := "waiting", type := (.object "java/util/ArrayDeque"), accessFlags := 18, slot := 1, constantValue := 0 }]
  methods := #[k15m0, k15m1, k15m2, k15m3]
  instanceTypes := #[(.object "java/util/List"), (.object "java/util/ArrayDeque")]
  staticTypes := #[.int, .int, (.object "java/lang/String")]
  resolved := ((Array.replicate 198 none).setIfInBounds 147 (some (.field 28 1))).setIfInBounds 154 (some (.field 28 0))
  statics := none }

def pool16 : Array CpInfo := pool [(8, .class_ 10), (1, u "java/lang/Iterable"), (24, .class_ 36), (0, u "java/lang/Object")] 25

/-- java/lang/Iterable -/
def k16 : Class := { plain "java/lang/Iterable" (some 0) with
  accessFlags := 1537
  interfaces := #[]
  cf := some (fileOf pool16 8 #[] #[] 1537 35 #[] #[])
  fields := #[]
  methods := #[]
  instanceTypes := #[]
  staticTypes := #[]
  resolved := Array.replicate 62 none
  statics := none }

def pool17 : Array CpInfo := pool [(10, .class_ 12), (1, u "java/util/Collection"), (47, .class_ 61), (0, u "java/lang/Object"), (0, .class_ 63), (0, u "java/lang/Iterable")] 51

/-- java/util/Collection -/
def k17 : Class := { plain "java/util/Collection" (some 0) with
  accessFlags := 1537
  interfaces := #[16]
  cf := some (fileOf pool17 10 #[] #[] 1537 60 #[62] #[])
  fields := #[]
  methods := #[]
  instanceTypes := #[]
  staticTypes := #[]
  resolved := Array.replicate 115 none
  statics := none }

def pool18 : Array CpInfo := pool [(1, .methodref 2 3), (0, .class_ 4), (0, .nameAndType 5 6), (0, u "java/lang/Object"), (0, u "<init>"), (0, u "()V"), (1, .class_ 10), (1, u "java/util/AbstractCollection"), (66, .class_ 78), (0, u "java/util/Collection")] 81

def k18c0 : Code := { maxStack := 1, maxLocals := 1, code := jdk_22_method_1_code, exceptionTable := #[], attributes := #[] }
def k18m0 : Method := { name := "<init>", desc := "()V", sig := { parameters := [], returnType := none }, accessFlags := 4, code := some k18c0 }
/-- java/util/AbstractCollection -/
def k18 : Class := { plain "java/util/AbstractCollection" (some 0) with
  accessFlags := 1057
  interfaces := #[17]
  cf := some (fileOf pool18 8 #[] #[{ accessFlags := 4, nameIndex := 5, descriptorIndex := 6, attributes := #[] }] 1057 2 #[77] #[])
  fields := #[]
  methods := #[k18m0]
  instanceTypes := #[]
  staticTypes := #[]
  resolved := Array.replicate 160 none
  statics := none }

def pool19 : Array CpInfo := pool [(8, .class_ 10), (1, u "java/util/SequencedCollection"), (15, .class_ 27), (0, u "java/lang/Object"), (0, .class_ 29), (0, u "java/util/Collection")] 27

/-- java/util/SequencedCollection -/
def k19 : Class := { plain "java/util/SequencedCollection" (some 0) with
  accessFlags := 1537
  interfaces := #[17]
  cf := some (fileOf pool19 8 #[] #[] 1537 26 #[28] #[])
  fields := #[]
  methods := #[]
  instanceTypes := #[]
  staticTypes := #[]
  resolved := Array.replicate 57 none
  statics := none }

def pool20 : Array CpInfo := pool [(8, .class_ 10), (1, u "java/util/List"), (92, .class_ 104), (0, u "java/lang/Object"), (15, .class_ 121), (0, u "java/util/SequencedCollection")] 129

/-- java/util/List -/
def k20 : Class := { plain "java/util/List" (some 0) with
  accessFlags := 1537
  interfaces := #[19]
  cf := some (fileOf pool20 8 #[] #[] 1537 103 #[120] #[])
  fields := #[]
  methods := #[]
  instanceTypes := #[]
  staticTypes := #[]
  resolved := Array.replicate 251 none
  statics := none }

def pool21 : Array CpInfo := pool [(1, .methodref 2 3), (0, .class_ 4), (0, .nameAndType 5 6), (0, u "java/util/AbstractCollection"), (0, u "<init>"), (0, u "()V"), (0, .fieldref 8 9), (0, .class_ 10), (0, .nameAndType 11 12), (0, u "java/util/AbstractList"), (0, u "modCount"), (0, u "I"), (64, .class_ 78), (0, u "java/util/AbstractList$Itr"), (3, .class_ 83), (0, u "java/util/AbstractList$ListItr"), (9, .class_ 94), (0, u "java/util/AbstractList$RandomAccessSubList"), (3, .class_ 99), (0, u "java/util/AbstractList$SubList"), (33, .class_ 134), (0, u "java/util/List"), (73, .class_ 209), (0, u "java/util/AbstractList$SubList$1"), (0, .class_ 211), (0, u "java/util/AbstractList$RandomAccessSpliterator")] 6

def k21c0 : Code := { maxStack := 2, maxLocals := 1, code := jdk_39_method_1_code, exceptionTable := #[], attributes := #[] }
def k21m0 : Method := { name := "<init>", desc := "()V", sig := { parameters := [], returnType := none }, accessFlags := 4, code := some k21c0 }
/-- java/util/AbstractList -/
def k21 : Class := { plain "java/util/AbstractList" (some 18) with
  accessFlags := 1057
  interfaces := #[20]
  cf := some (fileOf pool21 8 #[.nestMembers #[93, 98, 208, 210, 82, 77]] #[{ accessFlags := 4, nameIndex := 5, descriptorIndex := 6, attributes := #[] }] 1057 2 #[133] #[{ accessFlags := 132, nameIndex := 11, descriptorIndex := 12, attributes := #[] }])
  fields := #[{ name := "modCount", type := .int, accessFlags := 132, slot := 0, constantValue := 0 }]
  methods := #[k21m0]
  instanceTypes := #[.int]
  staticTypes := #[]
  resolved := Array.replicate 218 none
  statics := none }

def pool22 : Array CpInfo := pool [(1, .class_ 2), (0, u "java/util/RandomAccess"), (0, .class_ 4), (0, u "java/lang/Object")] 2

/-- java/util/RandomAccess -/
def k22 : Class := { plain "java/util/RandomAccess" (some 0) with
  accessFlags := 1537
  interfaces := #[]
  cf := some (fileOf pool22 1 #[] #[] 1537 3 #[] #[])
  fields := #[]
  methods := #[]
  instanceTypes := #[]
  staticTypes := #[]
  resolved := Array.replicate 7 none
  statics := none }

def pool23 : Array CpInfo := pool [(1, .class_ 2), (0, u "java/lang/Cloneable"), (0, .class_ 4), (0, u "java/lang/Object")] 2

/-- java/lang/Cloneable -/
def k23 : Class := { plain "java/lang/Cloneable" (some 0) with
  accessFlags := 1537
  interfaces := #[]
  cf := some (fileOf pool23 1 #[] #[] 1537 3 #[] #[])
  fields := #[]
  methods := #[]
  instanceTypes := #[]
  staticTypes := #[]
  resolved := Array.replicate 7 none
  statics := none }

def pool24 : Array CpInfo := pool [(1, .methodref 2 3), (0, .class_ 4), (0, .nameAndType 5 6), (0, u "java/util/AbstractList"), (0, u "<init>"), (0, u "()V"), (2, .fieldref 10 11), (0, .class_ 12), (0, .nameAndType 13 14), (0, u "java/util/ArrayList"), (0, u "elementData"), (0, u "[Ljava/lang/Object;"), (2, u "EMPTY_ELEMENTDATA"), (21, .fieldref 10 40), (0, .nameAndType 41 14), (0, u "DEFAULTCAPACITY_EMPTY_ELEMENTDATA"), (8, u "size"), (0, u "I"), (96, .class_ 149), (0, u "java/util/List"), (112, .class_ 263), (0, u "java/util/ArrayList$ListItr"), (3, .class_ 268), (0, u "java/util/ArrayList$Itr"), (7, .class_ 277), (0, u "java/util/ArrayList$SubList"), (12, .class_ 291), (0, u "java/util/ArrayList$ArrayListSpliterator"), (37, .class_ 330), (0, u "java/util/RandomAccess"), (0, .class_ 332), (0, u "java/lang/Cloneable"), (0, .class_ 334), (0, u "java/io/Serializable"), (0, u "serialVersionUID"), (0, u "J"), (3, u "DEFAULT_CAPACITY"), (159, .class_ 501), (0, u "java/util/ArrayList$SubList$2"), (0, .class_ 503), (0, u "java/util/ArrayList$SubList$1")] 5

def k24c0 : Code := { maxStack := 2, maxLocals := 1, code := jdk_38_method_2_code, exceptionTable := #[], attributes := #[] }
def k24m0 : Method := { name := "<init>", desc := "()V", sig := { parameters := [], returnType := none }, accessFlags := 1, code := some k24c0 }
/-- java/util/ArrayList -/
def k24 : Class := { plain "java/util/ArrayList" (some 21) with
  accessFlags := 33
  interfaces := #[20, 22, 23, 7]
  cf := some (fileOf pool24 10 #[.nestMembers #[290, 276, 500, 502, 262, 267]] #[{ accessFlags := 1, nameIndex := 5, descriptorIndex := 6, attributes := #[] }] 33 2 #[148, 329, 331, 333] #[{ accessFlags := 26, nameIndex := 335, descriptorIndex := 336, attributes := #[] }, { accessFlags := 26, nameIndex := 340, descriptorIndex := 51, attributes := #[] }, { accessFlags := 26, nameIndex := 17, descriptorIndex := 14, attributes := #[] }, { accessFlags := 26, nameIndex := 41, descriptorIndex := 14, attributes := #[] }, { accessFlags := 128, nameIndex := 13, descriptorIndex := 14, attributes := #[] }, { accessFlags := 2, nameIndex := 50, descriptorIndex := 51, attributes := #[] }])
  fields := #[{ name := "serialVersionUID", type := .long, accessFlags := 26, slot := 0, constantValue := 0 }, { name := "DEFAULT_CAPACITY", type := .int, accessFlags := 26, slot := 1, constantValue := 0 }, { name := "EMPTY_ELEMENTDATA", type := (.array (.object "java/lang/Object")), accessFlags := 26, slot := 2, constantValue := 0 }, { name := "DEFAULTCAPACITY_EMPTY_ELEMENTDATA", type := (.array (.object "java/lang/Object")), accessFlags := 26, slot := 3, constantValue := 0 }, { name := "elementData", type := (.array (.object "java/lang/Object")), accessFlags := 128, slot := 1, constantValue := 0 }, { name := "size", type := .int, accessFlags := 2, slot := 2, constantValue := 0 }]
  methods := #[k24m0]
  instanceTypes := #[.int, (.array (.object "java/lang/Object")), .int]
  staticTypes := #[.long, .int, (.array (.object "java/lang/Object")), (.array (.object "java/lang/Object"))]
  resolved := Array.replicate 509 none
  statics := some 1 }

def pool25 : Array CpInfo := pool [(1, .class_ 2), (0, u "java/util/Queue"), (0, .class_ 4), (0, u "java/lang/Object"), (0, .class_ 6), (0, u "java/util/Collection")] 14

/-- java/util/Queue -/
def k25 : Class := { plain "java/util/Queue" (some 0) with
  accessFlags := 1537
  interfaces := #[17]
  cf := some (fileOf pool25 1 #[] #[] 1537 3 #[5] #[])
  fields := #[]
  methods := #[]
  instanceTypes := #[]
  staticTypes := #[]
  resolved := Array.replicate 21 none
  statics := none }

def pool26 : Array CpInfo := pool [(8, .class_ 10), (1, u "java/util/Deque"), (2, .class_ 14), (0, u "java/lang/Object"), (0, .class_ 16), (0, u "java/util/Queue"), (0, .class_ 18), (0, u "java/util/SequencedCollection")] 51

/-- java/util/Deque -/
def k26 : Class := { plain "java/util/Deque" (some 0) with
  accessFlags := 1537
  interfaces := #[25, 19]
  cf := some (fileOf pool26 8 #[] #[] 1537 13 #[15, 17] #[])
  fields := #[]
  methods := #[]
  instanceTypes := #[]
  staticTypes := #[]
  resolved := Array.replicate 70 none
  statics := none }

def pool27 : Array CpInfo := pool [(3, .fieldref 4 5), (0, .class_ 6), (0, .nameAndType 7 8), (0, u "java/util/ArrayDeque"), (0, u "elements"), (0, u "[Ljava/lang/Object;"), (4, u "(II)I"), (6, .fieldref 4 21), (0, .nameAndType 22 23), (0, u "tail"), (0, u "I"), (0, .fieldref 4 25), (0, .nameAndType 26 23), (0, u "head"), (12, u "<init>"), (2, .methodref 43 44), (0, .class_ 45), (0, .nameAndType 39 46), (0, u "java/util/AbstractCollection"), (0, u "()V"), (0, .class_ 48), (0, u "java/lang/Object"), (25, .methodref 4 75), (0, .nameAndType 76 13), (0, u "inc"), (12, u "(Ljava/lang/Object;)V"), (0, .methodref 4 91), (0, .nameAndType 92 89), (0, u "addLast"), (0, .methodref 4 94), (0, .nameAndType 95 96), (0, u "pollFirst"), (0, u "()Ljava/lang/Object;"), (6, .methodref 4 104), (0, .nameAndType 105 106), (0, u "elementAt"), (0, u "([Ljava/lang/Object;I)Ljava/lang/Object;"), (3, u "(Ljava/lang/Object;)Z"), (7, .methodref 4 119), (0, .nameAndType 120 96), (0, u "removeFirst"), (3, .methodref 4 125), (0, .nameAndType 126 96), (0, u "peekFirst"), (4, .class_ 132), (0, u "java/util/ArrayDeque$DeqIterator"), (3, .class_ 137), (0, u "java/util/ArrayDeque$DescendingIterator"), (1, .class_ 140), (0, u "java/util/ArrayDeque$DeqSpliterator"), (137, .class_ 279), (0, u "java/util/Deque"), (0, .class_ 281), (0, u "java/lang/Cloneable"), (0, .class_ 283), (0, u "java/io/Serializable"), (0, u "MAX_ARRAY_SIZE"), (1, u "serialVersionUID"), (0, u "J"), (48, u "add"), (1, u "remove"), (2, u "peek")] 96

def k27c0 : Code := { maxStack := 2, maxLocals := 1, code := jdk_21_method_3_code, exceptionTable := #[], attributes := #[] }
def k27m0 : Method := { name := "<init>", desc := "()V", sig := { parameters := [], returnType := none }, accessFlags := 1, code := some k27c0 }
def k27c1 : Code := { maxStack := 2, maxLocals := 2, code := jdk_21_method_6_code, exceptionTable := #[], attributes := #[] }
def k27m1 : Method := { name := "inc", desc := "(II)I", sig := { parameters := [.int, .int], returnType := some .int }, accessFlags := 24, code := some k27c1 }
def k27c2 : Code := { maxStack := 2, maxLocals := 2, code := jdk_21_method_10_code, exceptionTable := #[], attributes := #[] }
def k27m2 : Method := { name := "elementAt", desc := "([Ljava/lang/Object;I)Ljava/lang/Object;", sig := { parameters := [(.array (.object "java/lang/Object")), .int], returnType := some (.object "java/lang/Object") }, accessFlags := 24, code := some k27c2 }
def k27c3 : Code := { maxStack := 4, maxLocals := 3, code := jdk_21_method_13_code, exceptionTable := #[], attributes := #[] }
def k27m3 : Method := { name := "addLast", desc := "(Ljava/lang/Object;)V", sig := { parameters := [(.object "java/lang/Object")], returnType := none }, accessFlags := 1, code := some k27c3 }
def k27c4 : Code := { maxStack := 2, maxLocals := 2, code := jdk_21_method_18_code, exceptionTable := #[], attributes := #[] }
def k27m4 : Method := { name := "removeFirst", desc := "()Ljava/lang/Object;", sig := { parameters := [], returnType := some (.object "java/lang/Object") }, accessFlags := 1, code := some k27c4 }
def k27c5 : Code := { maxStack := 3, maxLocals := 4, code := jdk_21_method_20_code, exceptionTable := #[], attributes := #[] }
def k27m5 : Method := { name := "pollFirst", desc := "()Ljava/lang/Object;", sig := { parameters := [], returnType := some (.object "java/lang/Object") }, accessFlags := 1, code := some k27c5 }
def k27c6 : Code := { maxStack := 2, maxLocals := 1, code := jdk_21_method_24_code, exceptionTable := #[], attributes := #[] }
def k27m6 : Method := { name := "peekFirst", desc := "()Ljava/lang/Object;", sig := { parameters := [], returnType := some (.object "java/lang/Object") }, accessFlags := 1, code := some k27c6 }
def k27c7 : Code := { maxStack := 2, maxLocals := 2, code := jdk_21_method_28_code, exceptionTable := #[], attributes := #[] }
def k27m7 : Method := { name := "add", desc := "(Ljava/lang/Object;)Z", sig := { parameters := [(.object "java/lang/Object")], returnType := some .boolean }, accessFlags := 1, code := some k27c7 }
def k27c8 : Code := { maxStack := 1, maxLocals := 1, code := jdk_21_method_30_code, exceptionTable := #[], attributes := #[] }
def k27m8 : Method := { name := "remove", desc := "()Ljava/lang/Object;", sig := { parameters := [], returnType := some (.object "java/lang/Object") }, accessFlags := 1, code := some k27c8 }
def k27c9 : Code := { maxStack := 1, maxLocals := 1, code := jdk_21_method_33_code, exceptionTable := #[], attributes := #[] }
def k27m9 : Method := { name := "peek", desc := "()Ljava/lang/Object;", sig := { parameters := [], returnType := some (.object "java/lang/Object") }, accessFlags := 1, code := some k27c9 }
/-- java/util/ArrayDeque -/
def k27 : Class := { plain "java/util/ArrayDeque" (some 18) with
  accessFlags := 33
  interfaces := #[26, 23, 7]
  cf := some (fileOf pool27 4 #[.nestMembers #[139, 136, 131]] #[{ accessFlags := 1, nameIndex := 39, descriptorIndex := 46, attributes := #[] }, { accessFlags := 24, nameIndex := 76, descriptorIndex := 13, attributes := #[] }, { accessFlags := 24, nameIndex := 105, descriptorIndex := 106, attributes := #[] }, { accessFlags := 1, nameIndex := 92, descriptorIndex := 89, attributes := #[] }, { accessFlags := 1, nameIndex := 120, descriptorIndex := 96, attributes := #[] }, { accessFlags := 1, nameIndex := 95, descriptorIndex := 96, attributes := #[] }, { accessFlags := 1, nameIndex := 126, descriptorIndex := 96, attributes := #[] }, { accessFlags := 1, nameIndex := 336, descriptorIndex := 110, attributes := #[] }, { accessFlags := 1, nameIndex := 338, descriptorIndex := 96, attributes := #[] }, { accessFlags := 1, nameIndex := 341, descriptorIndex := 96, attributes := #[] }] 33 43 #[278, 280, 282] #[{ accessFlags := 128, nameIndex := 7, descriptorIndex := 8, attributes := #[] }, { accessFlags := 128, nameIndex := 26, descriptorIndex := 23, attributes := #[] }, { accessFlags := 128, nameIndex := 22, descriptorIndex := 23, attributes := #[] }, { accessFlags := 26, nameIndex := 284, descriptorIndex := 23, attributes := #[] }, { accessFlags := 26, nameIndex := 286, descriptorIndex := 287, attributes := #[] }])
  fields := #[{ name := "elements", type := (.array (.object "java/lang/Object")), accessFlags := 128, slot := 0, constantValue := 0 }, { name := "head", type := .int, accessFlags := 128, slot := 1, constantValue := 0 }, { name := "tail", type := .int, accessFlags := 128, slot := 2, constantValue := 0 }, { name := "MAX_ARRAY_SIZE", type := .int, accessFlags := 26, slot := 0, constantValue := 0 }, { name := "serialVersionUID", type := .long, accessFlags := 26, slot := 1, constantValue := 0 }]
  methods := #[k27m0, k27m1, k27m2, k27m3, k27m4, k27m5, k27m6, k27m7, k27m8, k27m9]
  instanceTypes := #[(.array (.object "java/lang/Object")), .int, .int]
  staticTypes := #[.int, .long]
  resolved := Array.replicate 438 none
  statics := none }

def pool28 : Array CpInfo := pool [(1, .methodref 2 3), (0, .class_ 4), (0, .nameAndType 5 6), (0, u "java/lang/Object"), (0, u "<init>"), (0, u "()V"), (0, .fieldref 8 9), (0, .class_ 10), (0, .nameAndType 11 12), (0, u "com/example/accumulus/accumulus/account/LoanAccount$Waiting"), (0, u "loan"), (0, u "Lcom/example/accumulus/accumulus/journal/JournalEntry;"), (0, .fieldref 8 14), (0, .nameAndType 15 16), (0, u "pricingDate"), (0, u "Ljava/time/LocalDate;"), (0, u "(Lcom/example/accumulus/accumulus/journal/JournalEntry;Ljava/time/LocalDate;)V"), (5, .class_ 24), (0, u "com/example/accumulus/accumulus/account/LoanAccount")] 2

def k28c0 : Code := { maxStack := 2, maxLocals := 3, code := prog_25_method_1_code, exceptionTable := #[], attributes := #[] }
def k28m0 : Method := { name := "<init>", desc := "(Lcom/example/accumulus/accumulus/journal/JournalEntry;Ljava/time/LocalDate;)V", sig := { parameters := [(.object "com/example/accumulus/accumulus/journal/JournalEntry"), (.object "java/time/LocalDate")], returnType := none }, accessFlags := 0, code := some k28c0 }
/-- com/example/accumulus/accumulus/account/LoanAccount$Waiting -/
def k28 : Class := { plain "com/example/accumulus/accumulus/account/LoanAccount$Waiting" (some 0) with
  accessFlags := 48
  interfaces := #[]
  cf := some (fileOf pool28 8 #[.nestHost 23] #[{ accessFlags := 0, nameIndex := 5, descriptorIndex := 17, attributes := #[] }] 48 2 #[] #[{ accessFlags := 18, nameIndex := 11, descriptorIndex := 12, attributes := #[] }, { accessFlags := 18, nameIndex := 15, descriptorIndex := 16, attributes := #[] }])
  fields := #[{ name := "loan", type := (.object "com/example/accumulus/accumulus/journal/JournalEntry"), accessFlags := 18, slot := 0, constantValue := 0 }, { name := "pricingDate", type := (.object "java/time/LocalDate"), accessFlags := 18, slot := 1, constantValue := 0 }]
  methods := #[k28m0]
  instanceTypes := #[(.object "com/example/accumulus/accumulus/journal/JournalEntry"), (.object "java/time/LocalDate")]
  staticTypes := #[]
  resolved := Array.replicate 27 none
  statics := none }

def pool29 : Array CpInfo := pool [(4, .class_ 6), (1, u "java/time/temporal/TemporalUnit"), (23, .class_ 31), (0, u "java/lang/Object")] 27

/-- java/time/temporal/TemporalUnit -/
def k29 : Class := { plain "java/time/temporal/TemporalUnit" (some 0) with
  accessFlags := 1537
  interfaces := #[]
  cf := some (fileOf pool29 4 #[] #[] 1537 30 #[] #[])
  fields := #[]
  methods := #[]
  instanceTypes := #[]
  staticTypes := #[]
  resolved := Array.replicate 59 none
  statics := none }

def pool30 : Array CpInfo := pool [(1, .class_ 2), (0, u "java/time/temporal/ChronoUnit"), (2, u "NANOS"), (0, u "Ljava/time/temporal/ChronoUnit;"), (2, u "MICROS"), (2, u "MILLIS"), (2, u "SECONDS"), (2, u "MINUTES"), (2, u "HOURS"), (2, u "HALF_DAYS"), (2, u "DAYS"), (2, u "WEEKS"), (2, u "MONTHS"), (2, u "YEARS"), (2, u "DECADES"), (2, u "CENTURIES"), (2, u "MILLENNIA"), (2, u "ERAS"), (2, u "FOREVER"), (2, u "$VALUES"), (0, u "[Ljava/time/temporal/ChronoUnit;"), (6, .class_ 64), (1, u "java/lang/Enum"), (8, u "name"), (0, u "Ljava/lang/String;"), (2, u "duration"), (0, u "Ljava/time/Duration;"), (117, .class_ 197), (0, u "java/time/temporal/TemporalUnit")] 39

/-- java/time/temporal/ChronoUnit -/
def k30 : Class := { plain "java/time/temporal/ChronoUnit" (some 10) with
  accessFlags := 16433
  interfaces := #[29]
  cf := some (fileOf pool30 1 #[] #[] 16433 62 #[196] #[{ accessFlags := 16409, nameIndex := 5, descriptorIndex := 6, attributes := #[] }, { accessFlags := 16409, nameIndex := 9, descriptorIndex := 6, attributes := #[] }, { accessFlags := 16409, nameIndex := 12, descriptorIndex := 6, attributes := #[] }, { accessFlags := 16409, nameIndex := 15, descriptorIndex := 6, attributes := #[] }, { accessFlags := 16409, nameIndex := 18, descriptorIndex := 6, attributes := #[] }, { accessFlags := 16409, nameIndex := 21, descriptorIndex := 6, attributes := #[] }, { accessFlags := 16409, nameIndex := 24, descriptorIndex := 6, attributes := #[] }, { accessFlags := 16409, nameIndex := 27, descriptorIndex := 6, attributes := #[] }, { accessFlags := 16409, nameIndex := 30, descriptorIndex := 6, attributes := #[] }, { accessFlags := 16409, nameIndex := 33, descriptorIndex := 6, attributes := #[] }, { accessFlags := 16409, nameIndex := 36, descriptorIndex := 6, attributes := #[] }, { accessFlags := 16409, nameIndex := 39, descriptorIndex := 6, attributes := #[] }, { accessFlags := 16409, nameIndex := 42, descriptorIndex := 6, attributes := #[] }, { accessFlags := 16409, nameIndex := 45, descriptorIndex := 6, attributes := #[] }, { accessFlags := 16409, nameIndex := 48, descriptorIndex := 6, attributes := #[] }, { accessFlags := 16409, nameIndex := 51, descriptorIndex := 6, attributes := #[] }, { accessFlags := 18, nameIndex := 73, descriptorIndex := 74, attributes := #[] }, { accessFlags := 18, nameIndex := 77, descriptorIndex := 78, attributes := #[] }, { accessFlags := 4122, nameIndex := 54, descriptorIndex := 55, attributes := #[] }])
  fields := #[{ name := "NANOS", type := (.object "java/time/temporal/ChronoUnit"), accessFlags := 16409, slot := 0, constantValue := 0 }, { name := "MICROS", type := (.object "java/time/temporal/ChronoUnit"), accessFlags := 16409, slot := 1, constantValue := 0 }, { name := "MILLIS", type := (.object "java/time/temporal/ChronoUnit"), accessFlags := 16409, slot := 2, constantValue := 0 }, { name := "SECONDS", type := (.object "java/time/temporal/ChronoUnit"), accessFlags := 16409, slot := 3, constantValue := 0 }, { name := "MINUTES", type := (.object "java/time/temporal/ChronoUnit"), accessFlags := 16409, slot := 4, constantValue := 0 }, { name := "HOURS", type := (.object "java/time/temporal/ChronoUnit"), accessFlags := 16409, slot := 5, constantValue := 0 }, { name := "HALF_DAYS", type := (.object "java/time/temporal/ChronoUnit"), accessFlags := 16409, slot := 6, constantValue := 0 }, { name := "DAYS", type := (.object "java/time/temporal/ChronoUnit"), accessFlags := 16409, slot := 7, constantValue := 0 }, { name := "WEEKS", type := (.object "java/time/temporal/ChronoUnit"), accessFlags := 16409, slot := 8, constantValue := 0 }, { name := "MONTHS", type := (.object "java/time/temporal/ChronoUnit"), accessFlags := 16409, slot := 9, constantValue := 0 }, { name := "YEARS", type := (.object "java/time/temporal/ChronoUnit"), accessFlags := 16409, slot := 10, constantValue := 0 }, { name := "DECADES", type := (.object "java/time/temporal/ChronoUnit"), accessFlags := 16409, slot := 11, constantValue := 0 }, { name := "CENTURIES", type := (.object "java/time/temporal/ChronoUnit"), accessFlags := 16409, slot := 12, constantValue := 0 }, { name := "MILLENNIA", type := (.object "java/time/temporal/ChronoUnit"), accessFlags := 16409, slot := 13, constantValue := 0 }, { name := "ERAS", type := (.object "java/time/temporal/ChronoUnit"), accessFlags := 16409, slot := 14, constantValue := 0 }, { name := "FOREVER", type := (.object "java/time/temporal/ChronoUnit"), accessFlags := 16409, slot := 15, constantValue := 0 }, { name := "name", type := (.object "java/lang/String"), accessFlags := 18, slot := 3, constantValue := 0 }, { name := "duration", type := (.object "java/time/Duration"), accessFlags := 18, slot := 4, constantValue := 0 }, { name := "$VALUES", type := (.array (.object "java/time/temporal/ChronoUnit")), accessFlags := 4122, slot := 16, constantValue := 0 }]
  methods := #[]
  instanceTypes := #[(.object "java/lang/String"), .int, .int, (.object "java/lang/String"), (.object "java/time/Duration")]
  staticTypes := #[(.object "java/time/temporal/ChronoUnit"), (.object "java/time/temporal/ChronoUnit"), (.object "java/time/temporal/ChronoUnit"), (.object "java/time/temporal/ChronoUnit"), (.object "java/time/temporal/ChronoUnit"), (.object "java/time/temporal/ChronoUnit"), (.object "java/time/temporal/ChronoUnit"), (.object "java/time/temporal/ChronoUnit"), (.object "java/time/temporal/ChronoUnit"), (.object "java/time/temporal/ChronoUnit"), (.object "java/time/temporal/ChronoUnit"), (.object "java/time/temporal/ChronoUnit"), (.object "java/time/temporal/ChronoUnit"), (.object "java/time/temporal/ChronoUnit"), (.object "java/time/temporal/ChronoUnit"), (.object "java/time/temporal/ChronoUnit"), (.array (.object "java/time/temporal/ChronoUnit"))]
  resolved := Array.replicate 237 none
  statics := some 2 }

/-- the primitive byte -/
def k31 : Class := { plain "byte" none with kind := .primitive 'B', accessFlags := 0x411 }
/-- [B -/
def k32 : Class := { plain "[B" (some 0) with kind := .array 31 .byte, interfaces := #[23, 7], accessFlags := 1041 }

/-- the primitive int -/
def k33 : Class := { plain "int" none with kind := .primitive 'I', accessFlags := 0x411 }
/-- [I -/
def k34 : Class := { plain "[I" (some 0) with kind := .array 33 .int, interfaces := #[23, 7], accessFlags := 1041 }

/-- [Ljava/lang/Object; -/
def k35 : Class := { plain "[Ljava/lang/Object;" (some 0) with kind := .array 0 (.object "java/lang/Object"), interfaces := #[23, 7], accessFlags := 1041 }

/-- [Ljava/time/LocalDate; -/
def k36 : Class := { plain "[Ljava/time/LocalDate;" (some 0) with kind := .array 8 (.object "java/time/LocalDate"), interfaces := #[23, 7], accessFlags := 1041 }

/-- java/lang/String, bare -/
def k37 : Class := plain "java/lang/String" (some 0)
/-- java/time/Duration, bare -/
def k38 : Class := plain "java/time/Duration" (some 0)

def heap : Heap := #[{ cls := 12, slots := #[.null, .null, .null, .null, .null, .null, .null, .null, .null, .null, .null, .null, .null, .null, .null, .null, .null, .null, .null, .null, .ref 3, .null, .null, .null, .null, .null, .null, .null, .null, .null, .null], vm := .statics 12 },
  { cls := 24, slots := #[.long 0, .int 0, .ref 4, .ref 5], vm := .statics 24 },
  { cls := 30, slots := #[.null, .null, .null, .null, .null, .null, .null, .ref 7, .null, .null, .null, .null, .null, .null, .null, .ref 8, .null], vm := .statics 30 },
  { cls := 12, slots := #[.ref 6, .int 20, .int 0, .ref 6, .ref 7, .ref 8, .ref 10, .null], vm := .none },
  { cls := 35, slots := #[], vm := .none },
  { cls := 35, slots := #[], vm := .none },
  { cls := 37, slots := #[], vm := .none },
  { cls := 30, slots := #[.ref 6, .int 7, .int 0, .ref 6, .ref 9], vm := .none },
  { cls := 30, slots := #[.ref 6, .int 15, .int 0, .ref 6, .ref 9], vm := .none },
  { cls := 38, slots := #[], vm := .none },
  { cls := 13, slots := #[.long (-365243219162), .long (-365243219162), .long 365241780471, .long 365241780471], vm := .none }]
def classes : Array Class := #[k0, k1, k2, k3, k4, k5, k6, k7, k8, k9, k10, k11, k12, k13, k14, k15, k16, k17, k18, k19, k20, k21, k22, k23, k24, k25, k26, k27, k28, k29, k30, k31, k32, k33, k34, k35, k36, k37, k38]
def interned : List (Array UInt16 × Addr) := []
def slotsUsed : Nat := 74
def theMethod : MethodId := ⟨1, 2⟩
def args0 : Array Value := #[.int 5, .int 6, .int 7, .int 5]
def aboutOver (below : List Frame) : State where
  vm := { classes := classes, interned := interned.toArray }
  heap := heap
  slotsUsed := slotsUsed
  threads := #[{ frames := .invoking theMethod args0 :: below }]
def below0 : List Frame := [.native { method := ⟨0, 0⟩, args := #[] }]
def about1 : State := aboutOver below0
def p0 : Program := .bare "" "" ""
def e0 : Env := launch0.env 0 0 0
theorem w_frames : about1.frames = Frame.invoking theMethod args0 :: below0 := rfl
set_option maxRecDepth 65536 in
theorem w_args : argsFit about1.vm theMethod args0 = true := by decide +kernel
set_option maxRecDepth 65536 in
theorem w_heap : heapFits about1 = true := by decide +kernel
set_option maxRecDepth 65536 in
theorem w_runnable : about1.curStatus? = some .runnable := by decide +kernel
set_option maxRecDepth 65536 in
theorem w_alone : about1.alone = true := by decide +kernel
set_option maxRecDepth 65536 in
theorem w_named : about1.methodNamed? x = some theMethod := by decide +kernel
set_option maxRecDepth 65536 in
theorem w_hears : about1.hears theMethod below0 = true := by decide +kernel
set_option maxRecDepth 65536 in
theorem w_ripe : about1.ripe theMethod args0 below0 = true := by decide +kernel
theorem w_running : about1.status = .running := rfl
set_option maxRecDepth 65536 in
theorem w_room : about1.hasRoom e0.platform room_1 = true :=
  launch0.hasRoom_least _ room_1 (by decide +kernel) (by decide +kernel) (by decide +kernel) (by decide +kernel) (by decide +kernel) (by decide +kernel)
theorem allAtoms_all (ts : List Jvm.Cond) (a : Array Jvm.Value) (st : Jvm.State) : (allAtoms ts).before a st = ts.all (fun c => c.before a st) := by
  induction ts with
  | nil => rfl
  | cons c t ih =>
    show (Jvm.Cond.and c (allAtoms t)).before a st = _
    rw [Jvm.Cond.before_and, ih, List.all_cons]
def words1 : List Jvm.Cond := Jvm.Cond.code x code maxLocals ret :: tables_1
/-- a 'code' word, met by the world's own term for the bytes: nothing is compared byte by byte -/
theorem code_word {y : MethodName} {bytes : ByteArray} {mx : Nat} {rt : Option FieldType} {a : Array Value} {s : State} {m : MethodId} {meth : Method} {c : Code} (h1 : s.methodNamed? y = some m) (h2 : s.vm.method? m = some meth) (h3 : meth.code = some c) (h4 : c.code = bytes)
    (h5 : (c.maxLocals == mx && c.exceptionTable.isEmpty && decide (c.maxStack ≤ mostOperands) && decide (meth.sig.returnType = rt) && !meth.locks && decide (parseMethodDescriptor y.desc = some meth.sig)) = true) : (Jvm.Cond.code y bytes mx rt).before a s = true := by
  simp only [Bool.and_eq_true, beq_iff_eq, Bool.not_eq_true', decide_eq_true_eq] at h5
  obtain ⟨⟨⟨⟨⟨g1, g2⟩, g3⟩, g4⟩, g5⟩, g6⟩ := h5
  simp [Cond.before, Cond.holds, Cond.value, h1, h2, h3, h4, g1, g2, g3, g4, g5, g6]
def isCode : Jvm.Cond → Bool
  | .code _ _ _ _ => true
  | _ => false
theorem all_split {L : List Jvm.Cond} {P : Jvm.Cond → Bool} (h1 : L.all (fun c => isCode c || P c) = true) (h2 : ∀ c ∈ L.filter isCode, P c = true) : L.all P = true := by
  refine List.all_eq_true.mpr fun c hc => ?_
  have h := List.all_eq_true.mp h1 c hc
  rcases Bool.eq_false_or_eq_true (isCode c) with hi | hi
  · exact h2 c (List.mem_filter.mpr ⟨hc, hi⟩)
  · simpa [hi] using h
set_option maxRecDepth 65536 in
theorem w_c0 : (Jvm.Cond.code x code maxLocals ret).before args0 about1 = true := code_word (m := ⟨1, 2⟩) (meth := k1m2) (c := k1c2) (by decide +kernel) rfl rfl rfl (by decide +kernel)
set_option maxRecDepth 65536 in
theorem w_c1 : (Jvm.Cond.code ({ cls := "java/time/LocalDate", name := "ofEpochDay", desc := "(J)Ljava/time/LocalDate;" } : Jvm.MethodName) jdk_2323_method_8_code (14 : Nat) (Option.some (Jvm.ClassFile.FieldType.object "java/time/LocalDate"))).before args0 about1 = true := code_word (m := ⟨8, 0⟩) (meth := k8m0) (c := k8c0) (by decide +kernel) rfl rfl rfl (by decide +kernel)
set_option maxRecDepth 65536 in
theorem w_c2 : (Jvm.Cond.code ({ cls := "java/time/temporal/ChronoField", name := "checkValidValue", desc := "(J)J" } : Jvm.MethodName) jdk_2395_method_11_code (3 : Nat) (Option.some Jvm.ClassFile.FieldType.long)).before args0 about1 = true := code_word (m := ⟨12, 1⟩) (meth := k12m1) (c := k12c1) (by decide +kernel) rfl rfl rfl (by decide +kernel)
set_option maxRecDepth 65536 in
theorem w_c3 : (Jvm.Cond.code ({ cls := "java/time/temporal/ChronoField", name := "range", desc := "()Ljava/time/temporal/ValueRange;" } : Jvm.MethodName) jdk_2395_method_8_code (1 : Nat) (Option.some (Jvm.ClassFile.FieldType.object "java/time/temporal/ValueRange"))).before args0 about1 = true := code_word (m := ⟨12, 0⟩) (meth := k12m0) (c := k12c0) (by decide +kernel) rfl rfl rfl (by decide +kernel)
set_option maxRecDepth 65536 in
theorem w_c4 : (Jvm.Cond.code ({ cls := "java/time/temporal/ValueRange", name := "checkValidValue", desc := "(JLjava/time/temporal/TemporalField;)J" } : Jvm.MethodName) jdk_2423_method_13_code (4 : Nat) (Option.some Jvm.ClassFile.FieldType.long)).before args0 about1 = true := code_word (m := ⟨13, 3⟩) (meth := k13m3) (c := k13c3) (by decide +kernel) rfl rfl rfl (by decide +kernel)
set_option maxRecDepth 65536 in
theorem w_c5 : (Jvm.Cond.code ({ cls := "java/time/temporal/ValueRange", name := "isValidValue", desc := "(J)Z" } : Jvm.MethodName) jdk_2423_method_11_code (3 : Nat) (Option.some Jvm.ClassFile.FieldType.boolean)).before args0 about1 = true := code_word (m := ⟨13, 2⟩) (meth := k13m2) (c := k13c2) (by decide +kernel) rfl rfl rfl (by decide +kernel)
set_option maxRecDepth 65536 in
theorem w_c6 : (Jvm.Cond.code ({ cls := "java/time/temporal/ValueRange", name := "getMinimum", desc := "()J" } : Jvm.MethodName) jdk_2423_method_6_code (1 : Nat) (Option.some Jvm.ClassFile.FieldType.long)).before args0 about1 = true := code_word (m := ⟨13, 0⟩) (meth := k13m0) (c := k13c0) (by decide +kernel) rfl rfl rfl (by decide +kernel)
set_option maxRecDepth 65536 in
theorem w_c7 : (Jvm.Cond.code ({ cls := "java/time/temporal/ValueRange", name := "getMaximum", desc := "()J" } : Jvm.MethodName) jdk_2423_method_9_code (1 : Nat) (Option.some Jvm.ClassFile.FieldType.long)).before args0 about1 = true := code_word (m := ⟨13, 1⟩) (meth := k13m1) (c := k13c1) (by decide +kernel) rfl rfl rfl (by decide +kernel)
set_option maxRecDepth 65536 in
theorem w_c8 : (Jvm.Cond.code ({ cls := "java/time/LocalDate", name := "<init>", desc := "(III)V" } : Jvm.MethodName) jdk_2323_method_14_code (4 : Nat) (Option.none : Option Jvm.ClassFile.FieldType)).before args0 about1 = true := code_word (m := ⟨8, 1⟩) (meth := k8m1) (c := k8c1) (by decide +kernel) rfl rfl rfl (by decide +kernel)
set_option maxRecDepth 65536 in
theorem w_c9 : (Jvm.Cond.code ({ cls := "java/lang/Object", name := "<init>", desc := "()V" } : Jvm.MethodName) object_method_1_code (1 : Nat) (Option.none : Option Jvm.ClassFile.FieldType)).before args0 about1 = true := code_word (m := ⟨0, 0⟩) (meth := k0m0) (c := k0c0) (by decide +kernel) rfl rfl rfl (by decide +kernel)
set_option maxRecDepth 65536 in
theorem w_c10 : (Jvm.Cond.code ({ cls := "java/lang/Math", name := "min", desc := "(II)I" } : Jvm.MethodName) jdk_29_method_69_code (2 : Nat) (Option.some Jvm.ClassFile.FieldType.int)).before args0 about1 = true := code_word (m := ⟨14, 1⟩) (meth := k14m1) (c := k14c1) (by decide +kernel) rfl rfl rfl (by decide +kernel)
set_option maxRecDepth 65536 in
theorem w_c11 : (Jvm.Cond.code ({ cls := "com/example/accumulus/accumulus/account/LoanAccount", name := "<init>", desc := "()V" } : Jvm.MethodName) prog_23_method_1_code (1 : Nat) (Option.none : Option Jvm.ClassFile.FieldType)).before args0 about1 = true := code_word (m := ⟨15, 0⟩) (meth := k15m0) (c := k15c0) (by decide +kernel) rfl rfl rfl (by decide +kernel)
set_option maxRecDepth 65536 in
theorem w_c12 : (Jvm.Cond.code ({ cls := "java/util/ArrayList", name := "<init>", desc := "()V" } : Jvm.MethodName) jdk_38_method_2_code (1 : Nat) (Option.none : Option Jvm.ClassFile.FieldType)).before args0 about1 = true := code_word (m := ⟨24, 0⟩) (meth := k24m0) (c := k24c0) (by decide +kernel) rfl rfl rfl (by decide +kernel)
set_option maxRecDepth 65536 in
theorem w_c13 : (Jvm.Cond.code ({ cls := "java/util/AbstractList", name := "<init>", desc := "()V" } : Jvm.MethodName) jdk_39_method_1_code (1 : Nat) (Option.none : Option Jvm.ClassFile.FieldType)).before args0 about1 = true := code_word (m := ⟨21, 0⟩) (meth := k21m0) (c := k21c0) (by decide +kernel) rfl rfl rfl (by decide +kernel)
set_option maxRecDepth 65536 in
theorem w_c14 : (Jvm.Cond.code ({ cls := "java/util/AbstractCollection", name := "<init>", desc := "()V" } : Jvm.MethodName) jdk_22_method_1_code (1 : Nat) (Option.none : Option Jvm.ClassFile.FieldType)).before args0 about1 = true := code_word (m := ⟨18, 0⟩) (meth := k18m0) (c := k18c0) (by decide +kernel) rfl rfl rfl (by decide +kernel)
set_option maxRecDepth 65536 in
theorem w_c15 : (Jvm.Cond.code ({ cls := "java/util/ArrayDeque", name := "<init>", desc := "()V" } : Jvm.MethodName) jdk_21_method_3_code (1 : Nat) (Option.none : Option Jvm.ClassFile.FieldType)).before args0 about1 = true := code_word (m := ⟨27, 0⟩) (meth := k27m0) (c := k27c0) (by decide +kernel) rfl rfl rfl (by decide +kernel)
set_option maxRecDepth 65536 in
theorem w_c16 : (Jvm.Cond.code ({ cls := "com/example/accumulus/accumulus/account/LoanAccount", name := "nextWaitingDay", desc := "()Ljava/time/LocalDate;" } : Jvm.MethodName) prog_23_method_11_code (2 : Nat) (Option.some (Jvm.ClassFile.FieldType.object "java/time/LocalDate"))).before args0 about1 = true := code_word (m := ⟨15, 2⟩) (meth := k15m2) (c := k15c2) (by decide +kernel) rfl rfl rfl (by decide +kernel)
set_option maxRecDepth 65536 in
theorem w_c17 : (Jvm.Cond.code ({ cls := "java/util/ArrayDeque", name := "peek", desc := "()Ljava/lang/Object;" } : Jvm.MethodName) jdk_21_method_33_code (1 : Nat) (Option.some (Jvm.ClassFile.FieldType.object "java/lang/Object"))).before args0 about1 = true := code_word (m := ⟨27, 9⟩) (meth := k27m9) (c := k27c9) (by decide +kernel) rfl rfl rfl (by decide +kernel)
set_option maxRecDepth 65536 in
theorem w_c18 : (Jvm.Cond.code ({ cls := "java/util/ArrayDeque", name := "peekFirst", desc := "()Ljava/lang/Object;" } : Jvm.MethodName) jdk_21_method_24_code (1 : Nat) (Option.some (Jvm.ClassFile.FieldType.object "java/lang/Object"))).before args0 about1 = true := code_word (m := ⟨27, 6⟩) (meth := k27m6) (c := k27c6) (by decide +kernel) rfl rfl rfl (by decide +kernel)
set_option maxRecDepth 65536 in
theorem w_c19 : (Jvm.Cond.code ({ cls := "java/util/ArrayDeque", name := "elementAt", desc := "([Ljava/lang/Object;I)Ljava/lang/Object;" } : Jvm.MethodName) jdk_21_method_10_code (2 : Nat) (Option.some (Jvm.ClassFile.FieldType.object "java/lang/Object"))).before args0 about1 = true := code_word (m := ⟨27, 2⟩) (meth := k27m2) (c := k27c2) (by decide +kernel) rfl rfl rfl (by decide +kernel)
set_option maxRecDepth 65536 in
theorem w_c20 : (Jvm.Cond.code ({ cls := "com/example/accumulus/accumulus/account/LoanAccount", name := "await", desc := "(Lcom/example/accumulus/accumulus/journal/JournalEntry;Ljava/time/LocalDate;)V" } : Jvm.MethodName) prog_23_method_10_code (3 : Nat) (Option.none : Option Jvm.ClassFile.FieldType)).before args0 about1 = true := code_word (m := ⟨15, 1⟩) (meth := k15m1) (c := k15c1) (by decide +kernel) rfl rfl rfl (by decide +kernel)
set_option maxRecDepth 65536 in
theorem w_c21 : (Jvm.Cond.code ({ cls := "com/example/accumulus/accumulus/account/LoanAccount$Waiting", name := "<init>", desc := "(Lcom/example/accumulus/accumulus/journal/JournalEntry;Ljava/time/LocalDate;)V" } : Jvm.MethodName) prog_25_method_1_code (3 : Nat) (Option.none : Option Jvm.ClassFile.FieldType)).before args0 about1 = true := code_word (m := ⟨28, 0⟩) (meth := k28m0) (c := k28c0) (by decide +kernel) rfl rfl rfl (by decide +kernel)
set_option maxRecDepth 65536 in
theorem w_c22 : (Jvm.Cond.code ({ cls := "java/util/ArrayDeque", name := "add", desc := "(Ljava/lang/Object;)Z" } : Jvm.MethodName) jdk_21_method_28_code (2 : Nat) (Option.some Jvm.ClassFile.FieldType.boolean)).before args0 about1 = true := code_word (m := ⟨27, 7⟩) (meth := k27m7) (c := k27c7) (by decide +kernel) rfl rfl rfl (by decide +kernel)
set_option maxRecDepth 65536 in
theorem w_c23 : (Jvm.Cond.code ({ cls := "java/util/ArrayDeque", name := "addLast", desc := "(Ljava/lang/Object;)V" } : Jvm.MethodName) jdk_21_method_13_code (3 : Nat) (Option.none : Option Jvm.ClassFile.FieldType)).before args0 about1 = true := code_word (m := ⟨27, 3⟩) (meth := k27m3) (c := k27c3) (by decide +kernel) rfl rfl rfl (by decide +kernel)
set_option maxRecDepth 65536 in
theorem w_c24 : (Jvm.Cond.code ({ cls := "java/util/ArrayDeque", name := "inc", desc := "(II)I" } : Jvm.MethodName) jdk_21_method_6_code (2 : Nat) (Option.some Jvm.ClassFile.FieldType.int)).before args0 about1 = true := code_word (m := ⟨27, 1⟩) (meth := k27m1) (c := k27c1) (by decide +kernel) rfl rfl rfl (by decide +kernel)
set_option maxRecDepth 65536 in
theorem w_c25 : (Jvm.Cond.code ({ cls := "com/example/accumulus/accumulus/account/LoanAccountNextWaitingDayPinLaw", name := "same", desc := "(Ljava/time/LocalDate;Ljava/time/LocalDate;)Z" } : Jvm.MethodName) method_2_code (2 : Nat) (Option.some Jvm.ClassFile.FieldType.boolean)).before args0 about1 = true := code_word (m := ⟨1, 1⟩) (meth := k1m1) (c := k1c1) (by decide +kernel) rfl rfl rfl (by decide +kernel)
set_option maxRecDepth 65536 in
theorem w_c26 : (Jvm.Cond.code ({ cls := "java/time/LocalDate", name := "equals", desc := "(Ljava/lang/Object;)Z" } : Jvm.MethodName) jdk_2323_method_74_code (2 : Nat) (Option.some Jvm.ClassFile.FieldType.boolean)).before args0 about1 = true := code_word (m := ⟨8, 2⟩) (meth := k8m2) (c := k8c2) (by decide +kernel) rfl rfl rfl (by decide +kernel)
set_option maxRecDepth 65536 in
theorem w_c27 : (Jvm.Cond.code ({ cls := "com/example/accumulus/accumulus/account/LoanAccount", name := "takeWaiting", desc := "()Lcom/example/accumulus/accumulus/journal/JournalEntry;" } : Jvm.MethodName) prog_23_method_12_code (1 : Nat) (Option.some (Jvm.ClassFile.FieldType.object "com/example/accumulus/accumulus/journal/JournalEntry"))).before args0 about1 = true := code_word (m := ⟨15, 3⟩) (meth := k15m3) (c := k15c3) (by decide +kernel) rfl rfl rfl (by decide +kernel)
set_option maxRecDepth 65536 in
theorem w_c28 : (Jvm.Cond.code ({ cls := "java/util/ArrayDeque", name := "remove", desc := "()Ljava/lang/Object;" } : Jvm.MethodName) jdk_21_method_30_code (1 : Nat) (Option.some (Jvm.ClassFile.FieldType.object "java/lang/Object"))).before args0 about1 = true := code_word (m := ⟨27, 8⟩) (meth := k27m8) (c := k27c8) (by decide +kernel) rfl rfl rfl (by decide +kernel)
set_option maxRecDepth 65536 in
theorem w_c29 : (Jvm.Cond.code ({ cls := "java/util/ArrayDeque", name := "removeFirst", desc := "()Ljava/lang/Object;" } : Jvm.MethodName) jdk_21_method_18_code (2 : Nat) (Option.some (Jvm.ClassFile.FieldType.object "java/lang/Object"))).before args0 about1 = true := code_word (m := ⟨27, 4⟩) (meth := k27m4) (c := k27c4) (by decide +kernel) rfl rfl rfl (by decide +kernel)
set_option maxRecDepth 65536 in
theorem w_c30 : (Jvm.Cond.code ({ cls := "java/util/ArrayDeque", name := "pollFirst", desc := "()Ljava/lang/Object;" } : Jvm.MethodName) jdk_21_method_20_code (4 : Nat) (Option.some (Jvm.ClassFile.FieldType.object "java/lang/Object"))).before args0 about1 = true := code_word (m := ⟨27, 5⟩) (meth := k27m5) (c := k27c5) (by decide +kernel) rfl rfl rfl (by decide +kernel)
def codes1 : List Jvm.Cond := [Jvm.Cond.code x code maxLocals ret, Jvm.Cond.code ({ cls := "java/time/LocalDate", name := "ofEpochDay", desc := "(J)Ljava/time/LocalDate;" } : Jvm.MethodName) jdk_2323_method_8_code (14 : Nat) (Option.some (Jvm.ClassFile.FieldType.object "java/time/LocalDate")), Jvm.Cond.code ({ cls := "java/time/temporal/ChronoField", name := "checkValidValue", desc := "(J)J" } : Jvm.MethodName) jdk_2395_method_11_code (3 : Nat) (Option.some Jvm.ClassFile.FieldType.long), Jvm.Cond.code ({ cls := "java/time/temporal/ChronoField", name := "range", desc := "()Ljava/time/temporal/ValueRange;" } : Jvm.MethodName) jdk_2395_method_8_code (1 : Nat) (Option.some (Jvm.ClassFile.FieldType.object "java/time/temporal/ValueRange")), Jvm.Cond.code ({ cls := "java/time/temporal/ValueRange", name := "checkValidValue", desc := "(JLjava/time/temporal/TemporalField;)J" } : Jvm.MethodName) jdk_2423_method_13_code (4 : Nat) (Option.some Jvm.ClassFile.FieldType.long), Jvm.Cond.code ({ cls := "java/time/temporal/ValueRange", name := "isValidValue", desc := "(J)Z" } : Jvm.MethodName) jdk_2423_method_11_code (3 : Nat) (Option.some Jvm.ClassFile.FieldType.boolean), Jvm.Cond.code ({ cls := "java/time/temporal/ValueRange", name := "getMinimum", desc := "()J" } : Jvm.MethodName) jdk_2423_method_6_code (1 : Nat) (Option.some Jvm.ClassFile.FieldType.long), Jvm.Cond.code ({ cls := "java/time/temporal/ValueRange", name := "getMaximum", desc := "()J" } : Jvm.MethodName) jdk_2423_method_9_code (1 : Nat) (Option.some Jvm.ClassFile.FieldType.long), Jvm.Cond.code ({ cls := "java/time/LocalDate", name := "<init>", desc := "(III)V" } : Jvm.MethodName) jdk_2323_method_14_code (4 : Nat) (Option.none : Option Jvm.ClassFile.FieldType), Jvm.Cond.code ({ cls := "java/lang/Object", name := "<init>", desc := "()V" } : Jvm.MethodName) object_method_1_code (1 : Nat) (Option.none : Option Jvm.ClassFile.FieldType), Jvm.Cond.code ({ cls := "java/lang/Math", name := "min", desc := "(II)I" } : Jvm.MethodName) jdk_29_method_69_code (2 : Nat) (Option.some Jvm.ClassFile.FieldType.int), Jvm.Cond.code ({ cls := "com/example/accumulus/accumulus/account/LoanAccount", name := "<init>", desc := "()V" } : Jvm.MethodName) prog_23_method_1_code (1 : Nat) (Option.none : Option Jvm.ClassFile.FieldType), Jvm.Cond.code ({ cls := "java/util/ArrayList", name := "<init>", desc := "()V" } : Jvm.MethodName) jdk_38_method_2_code (1 : Nat) (Option.none : Option Jvm.ClassFile.FieldType), Jvm.Cond.code ({ cls := "java/util/AbstractList", name := "<init>", desc := "()V" } : Jvm.MethodName) jdk_39_method_1_code (1 : Nat) (Option.none : Option Jvm.ClassFile.FieldType), Jvm.Cond.code ({ cls := "java/util/AbstractCollection", name := "<init>", desc := "()V" } : Jvm.MethodName) jdk_22_method_1_code (1 : Nat) (Option.none : Option Jvm.ClassFile.FieldType), Jvm.Cond.code ({ cls := "java/util/ArrayDeque", name := "<init>", desc := "()V" } : Jvm.MethodName) jdk_21_method_3_code (1 : Nat) (Option.none : Option Jvm.ClassFile.FieldType), Jvm.Cond.code ({ cls := "com/example/accumulus/accumulus/account/LoanAccount", name := "nextWaitingDay", desc := "()Ljava/time/LocalDate;" } : Jvm.MethodName) prog_23_method_11_code (2 : Nat) (Option.some (Jvm.ClassFile.FieldType.object "java/time/LocalDate")), Jvm.Cond.code ({ cls := "java/util/ArrayDeque", name := "peek", desc := "()Ljava/lang/Object;" } : Jvm.MethodName) jdk_21_method_33_code (1 : Nat) (Option.some (Jvm.ClassFile.FieldType.object "java/lang/Object")), Jvm.Cond.code ({ cls := "java/util/ArrayDeque", name := "peekFirst", desc := "()Ljava/lang/Object;" } : Jvm.MethodName) jdk_21_method_24_code (1 : Nat) (Option.some (Jvm.ClassFile.FieldType.object "java/lang/Object")), Jvm.Cond.code ({ cls := "java/util/ArrayDeque", name := "elementAt", desc := "([Ljava/lang/Object;I)Ljava/lang/Object;" } : Jvm.MethodName) jdk_21_method_10_code (2 : Nat) (Option.some (Jvm.ClassFile.FieldType.object "java/lang/Object")), Jvm.Cond.code ({ cls := "com/example/accumulus/accumulus/account/LoanAccount", name := "await", desc := "(Lcom/example/accumulus/accumulus/journal/JournalEntry;Ljava/time/LocalDate;)V" } : Jvm.MethodName) prog_23_method_10_code (3 : Nat) (Option.none : Option Jvm.ClassFile.FieldType), Jvm.Cond.code ({ cls := "com/example/accumulus/accumulus/account/LoanAccount$Waiting", name := "<init>", desc := "(Lcom/example/accumulus/accumulus/journal/JournalEntry;Ljava/time/LocalDate;)V" } : Jvm.MethodName) prog_25_method_1_code (3 : Nat) (Option.none : Option Jvm.ClassFile.FieldType), Jvm.Cond.code ({ cls := "java/util/ArrayDeque", name := "add", desc := "(Ljava/lang/Object;)Z" } : Jvm.MethodName) jdk_21_method_28_code (2 : Nat) (Option.some Jvm.ClassFile.FieldType.boolean), Jvm.Cond.code ({ cls := "java/util/ArrayDeque", name := "addLast", desc := "(Ljava/lang/Object;)V" } : Jvm.MethodName) jdk_21_method_13_code (3 : Nat) (Option.none : Option Jvm.ClassFile.FieldType), Jvm.Cond.code ({ cls := "java/util/ArrayDeque", name := "inc", desc := "(II)I" } : Jvm.MethodName) jdk_21_method_6_code (2 : Nat) (Option.some Jvm.ClassFile.FieldType.int), Jvm.Cond.code ({ cls := "com/example/accumulus/accumulus/account/LoanAccountNextWaitingDayPinLaw", name := "same", desc := "(Ljava/time/LocalDate;Ljava/time/LocalDate;)Z" } : Jvm.MethodName) method_2_code (2 : Nat) (Option.some Jvm.ClassFile.FieldType.boolean), Jvm.Cond.code ({ cls := "java/time/LocalDate", name := "equals", desc := "(Ljava/lang/Object;)Z" } : Jvm.MethodName) jdk_2323_method_74_code (2 : Nat) (Option.some Jvm.ClassFile.FieldType.boolean), Jvm.Cond.code ({ cls := "com/example/accumulus/accumulus/account/LoanAccount", name := "takeWaiting", desc := "()Lcom/example/accumulus/accumulus/journal/JournalEntry;" } : Jvm.MethodName) prog_23_method_12_code (1 : Nat) (Option.some (Jvm.ClassFile.FieldType.object "com/example/accumulus/accumulus/journal/JournalEntry")), Jvm.Cond.code ({ cls := "java/util/ArrayDeque", name := "remove", desc := "()Ljava/lang/Object;" } : Jvm.MethodName) jdk_21_method_30_code (1 : Nat) (Option.some (Jvm.ClassFile.FieldType.object "java/lang/Object")), Jvm.Cond.code ({ cls := "java/util/ArrayDeque", name := "removeFirst", desc := "()Ljava/lang/Object;" } : Jvm.MethodName) jdk_21_method_18_code (2 : Nat) (Option.some (Jvm.ClassFile.FieldType.object "java/lang/Object")), Jvm.Cond.code ({ cls := "java/util/ArrayDeque", name := "pollFirst", desc := "()Ljava/lang/Object;" } : Jvm.MethodName) jdk_21_method_20_code (4 : Nat) (Option.some (Jvm.ClassFile.FieldType.object "java/lang/Object"))]
set_option maxRecDepth 65536 in
theorem codes_eq : words1.filter isCode = codes1 := rfl
theorem w_codes : ∀ c ∈ words1.filter isCode, c.before args0 about1 = true := by
  rw [codes_eq]
  intro c hc
  simp only [codes1, List.mem_cons, List.not_mem_nil, or_false] at hc
  rcases hc with rfl | rfl | rfl | rfl | rfl | rfl | rfl | rfl | rfl | rfl | rfl | rfl | rfl | rfl | rfl | rfl | rfl | rfl | rfl | rfl | rfl | rfl | rfl | rfl | rfl | rfl | rfl | rfl | rfl | rfl | rfl
  · exact w_c0
  · exact w_c1
  · exact w_c2
  · exact w_c3
  · exact w_c4
  · exact w_c5
  · exact w_c6
  · exact w_c7
  · exact w_c8
  · exact w_c9
  · exact w_c10
  · exact w_c11
  · exact w_c12
  · exact w_c13
  · exact w_c14
  · exact w_c15
  · exact w_c16
  · exact w_c17
  · exact w_c18
  · exact w_c19
  · exact w_c20
  · exact w_c21
  · exact w_c22
  · exact w_c23
  · exact w_c24
  · exact w_c25
  · exact w_c26
  · exact w_c27
  · exact w_c28
  · exact w_c29
  · exact w_c30
set_option maxRecDepth 65536 in
theorem w_t1 : (words1.take 24).all (fun c => isCode c || c.before args0 about1) = true := by decide +kernel
set_option maxRecDepth 65536 in
theorem w_t2 : ((words1.drop 24).take 24).all (fun c => isCode c || c.before args0 about1) = true := by decide +kernel
set_option maxRecDepth 65536 in
theorem w_t3 : (((words1.drop 24).drop 24).take 24).all (fun c => isCode c || c.before args0 about1) = true := by decide +kernel
set_option maxRecDepth 65536 in
theorem w_t4 : ((((words1.drop 24).drop 24).drop 24).take 24).all (fun c => isCode c || c.before args0 about1) = true := by decide +kernel
set_option maxRecDepth 65536 in
theorem w_t5 : (((((words1.drop 24).drop 24).drop 24).drop 24).take 24).all (fun c => isCode c || c.before args0 about1) = true := by decide +kernel
set_option maxRecDepth 65536 in
theorem w_t6 : ((((((words1.drop 24).drop 24).drop 24).drop 24).drop 24).take 24).all (fun c => isCode c || c.before args0 about1) = true := by decide +kernel
set_option maxRecDepth 65536 in
theorem w_t7 : (((((((words1.drop 24).drop 24).drop 24).drop 24).drop 24).drop 24).take 24).all (fun c => isCode c || c.before args0 about1) = true := by decide +kernel
set_option maxRecDepth 65536 in
theorem w_t8 : ((((((((words1.drop 24).drop 24).drop 24).drop 24).drop 24).drop 24).drop 24).take 24).all (fun c => isCode c || c.before args0 about1) = true := by decide +kernel
set_option maxRecDepth 65536 in
theorem w_t9 : ((((((((words1.drop 24).drop 24).drop 24).drop 24).drop 24).drop 24).drop 24).drop 24).all (fun c => isCode c || c.before args0 about1) = true := by decide +kernel
theorem w_tables : (allAtoms (Jvm.Cond.code x code maxLocals ret :: tables_1)).before args0 about1 = true := by
  rw [allAtoms_all]
  show words1.all (fun c => c.before args0 about1) = true
  refine all_split ?_ w_codes
  rw [← List.take_append_drop 24 words1, List.all_append, w_t1, ← List.take_append_drop 24 (words1.drop 24), List.all_append, w_t2, ← List.take_append_drop 24 ((words1.drop 24).drop 24), List.all_append, w_t3, ← List.take_append_drop 24 (((words1.drop 24).drop 24).drop 24), List.all_append, w_t4, ← List.take_append_drop 24 ((((words1.drop 24).drop 24).drop 24).drop 24), List.all_append, w_t5, ← List.take_append_drop 24 (((((words1.drop 24).drop 24).drop 24).drop 24).drop 24), List.all_append, w_t6, ← List.take_append_drop 24 ((((((words1.drop 24).drop 24).drop 24).drop 24).drop 24).drop 24), List.all_append, w_t7, ← List.take_append_drop 24 (((((((words1.drop 24).drop 24).drop 24).drop 24).drop 24).drop 24).drop 24), List.all_append, w_t8, w_t9]
  rfl
set_option maxRecDepth 65536 in
theorem w_rest : rest_1_c.before args0 about1 = true := by decide +kernel
set_option maxRecDepth 65536 in
theorem w_case : (Jvm.Cond.and given_1 narrow_1).before args0 about1 = true := by decide +kernel
theorem w_applies : (headSpec (Jvm.Cond.code x code maxLocals ret :: tables_1) room_1).applies x e0.platform about1 = true :=
  (Spec.applies_iff w_frames).mpr ⟨w_running, w_runnable, w_alone, w_named, w_hears, w_ripe, w_room, w_tables⟩
theorem atStart : AtStart classFile x code maxLocals ret World_1 tables_1 room_1 Calls_1 rest_1 Pre_1 launch0 p0 e0 about1 theMethod args0 below0 :=
  ⟨lists_1, trivial, launch0.admits_env _ _ _, launch0.least_env, fairChoices_fair.cas, fairChoices_fair.clock, w_frames, w_args, w_heap, w_applies, trivial, w_rest, w_case⟩
end start1
theorem witness_1 : WitnessClaimed_1 := ⟨start1.p0, start1.e0, start1.about1, start1.theMethod, start1.args0, start1.below0, start1.atStart⟩
end Jvm.Pilot.@@N@@
