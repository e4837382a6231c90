import JvmDerived
import JvmDerived.Pilot.@@N@@Statement
import JvmDerived.Pilot.@@N@@Code
set_option linter.unusedVariables false
set_option linter.unusedSimpArgs false
namespace Jvm.OwnW
open Sem ClassFile Op Lib Jvm.Stand Jvm.Free Jvm.LawKit Jvm.RoadKit
section A
variable {p : Program} {l : Launch} {e : Env} {R : Room} {s : State} {m : MethodId} {args : Array Value} {below : List Frame} {meth : Method} {c : Code} {T : State} {locs : List Loc} {cells slots : Nat} {Z : State} {a0 : Array Value} {h : Heap}
/-- the walk standing at T with the frame g comes to an end that says Q; F: the frame's word on that end -/
def Wp (p : Program) (e : Env) (below : List Frame) (Q : Option Value → State → List Loc → Prop) (F : Outcome → State → List Loc → Prop) (T : State) (g : JFrame) : Prop :=
  ∃ (t : State) (v : Option Value) (L : List Loc), Steps p.tables e below (T.setTop g) t ∧ t.status = .running ∧ Ended t below (.returned v) ∧ Q v t L ∧ F (.returned v) t L
variable {Q : Option Value → State → List Loc → Prop} {F : Outcome → State → List Loc → Prop}
theorem Wp.st {T' : State} {g g' : JFrame} (h : ∀ target, Steps p.tables e below (T'.setTop g') target → Steps p.tables e below (T.setTop g) target) (k : Wp p e below Q F T' g') : Wp p e below Q F T g := by
  obtain ⟨t, v, L, h1, h2⟩ := k
  exact ⟨t, v, L, h _ h1, h2⟩
theorem Wp.tr {T' : State} {g g' : JFrame} (h : Steps p.tables e below (T.setTop g) (T'.setTop g')) (k : Wp p e below Q F T' g') : Wp p e below Q F T g := Wp.st (fun _ q => h.trans q) k
abbrev NF (s : State) (C S : Nat) : Outcome → State → List Loc → Prop := fun o t L => FrameEnd s o t L C S
abbrev WF (s : State) (C S : Nat) : Outcome → State → List Loc → Prop := fun o t L => ReturnedEndW s o t L C S
/-- a body's contract: narrow -/
abbrev Ctr (l : Launch) (Z : State) (y : MethodName) (bytes : ByteArray) (maxL : Nat) (ret : Option FieldType) (ws : List Jvm.Cond) (rm : Room) (as' : Array Value) (h0 : Heap) (Q : Option Value → Heap → List Loc → Prop) : Prop :=
  MetFree l y (head1 (Jvm.Cond.code y bytes maxL ret :: ws) rm) (fun a U => a = as' ∧ Z.Warmed39 U.vm ∧ U.heap = h0) (fun _ _ _ _ _ => True) (fun _ U o U' => ∃ v L, o = .returned v ∧ Q v U'.heap L ∧ FrameEnd U o U' L rm.cells rm.slots)
theorem Ctr.intro {y : MethodName} {bytes : ByteArray} {maxL : Nat} {ret : Option FieldType} {ws : List Jvm.Cond} {rm : Room} {as' : Array Value} {h0 : Heap} {Q : Option Value → Heap → List Loc → Prop} {Ls : MethodId → Array Slot} (hn : plainFor y = true) (hef : ∀ m, entryFrame m as' maxL = mkF m 0 (Ls m) [])
    (body : ∀ (p : Program) (e : Env) (s : State) (m : MethodId) (below : List Frame) (meth : Method) (c : Code) (s₁ : State), p.tables.exec = Jvm.exec → c.code = bytes → c.maxLocals = maxL → meth.sig.returnType = ret → meth.locks = false → Z.Warmed39 s.vm → s.vm.findClass y.cls = some m.cls → meth.name = y.name → s.heap = h0 → Stand p l e rm s m as' below meth c s₁ [] 0 0 → s₁.heap = h0 →
      Wp p e below (fun v t L => Q v t.heap L) (NF s rm.cells rm.slots) s₁ (mkF m 0 (Ls m) [])) : Ctr l Z y bytes maxL ret ws rm as' h0 Q := by
  refine MetFree.of_bodySF hn hisR ?_
  intro p e s m args below meth c s₁ Bd hml0 hP hK
  obtain ⟨rfl, hZ, hh⟩ := hP
  obtain ⟨t, v, L, h1, h2, h3, h4, h5⟩ := body p e s m below meth c s₁ Bd.exec Bd.bytes hml0 Bd.returns Bd.notSynchronized hZ (findClass_of_methodNamed Bd.named) (name_of_methodNamed Bd.named Bd.method).1 hh (Stand.of_body Bd) (by rw [← hh, Bd.state]; rfl)
  exact ⟨t, _, castTop (hef m) h1, h2, h3, v, L, rfl, h4, h5⟩
/-- what pays a call -/
abbrev Pay (l : Launch) (R : Room) (p : Program) (e : Env) (below : List Frame) (s : State) (args : Array Value) (y : MethodName) (len W : Nat) (as' : Array Value) (h : Heap) (kc ks : Nat) (Q : Option Value → Heap → List Loc → Prop) : Prop :=
  Back l R p e below s args y len W (fun A a => a = as' ∧ A.U.heap = h ∧ A.cells + kc ≤ R.cells ∧ A.slots + ks ≤ R.slots) (fun A _ v B => ∃ L, Q v B.U.heap L ∧ B.locs = A.locs ++ L ∧ B.cells = A.cells + kc ∧ B.slots = A.slots + ks)
theorem more (X : Stand p l e R s m args below meth c T locs cells slots) {cells' slots' : Nat} (h1 : cells ≤ cells') (h2 : slots ≤ slots') : Stand p l e R s m args below meth c T locs cells' slots' := X.more h1 h2
theorem catR {v : Value} (h : v.isRef = true) : v.category = 1 := by cases v <;> first | rfl | (cases h; done)
/-- a char; a Latin-1 char -/
def Chr (z : Int32) : Prop := ¬ z < 0 ∧ ¬ (65535 : Int32) < z
def Lat (z : Int32) : Prop := ¬ z < 0 ∧ ¬ (255 : Int32) < z
theorem Lat.chr {z : Int32} (h : Lat z) : Chr z := ⟨h.1, fun q => h.2 (by rw [Int32.lt_iff_toInt_lt] at q ⊢; have e1 : (65535 : Int32).toInt = 65535 := rfl; have e2 : (255 : Int32).toInt = 255 := rfl; omega)⟩
theorem toInt_of_toNat {z : Int32} (h : z.toBitVec.toNat < 2147483648) : z.toInt = (z.toBitVec.toNat : Int) := by
  show z.toBitVec.toInt = _
  rw [BitVec.toInt_eq_toNat_cond, if_pos (by omega)]
theorem toNat_of_toInt {z : Int32} (h : 0 ≤ z.toInt) : z.toInt = (z.toBitVec.toNat : Int) ∧ z.toBitVec.toNat < 2147483648 := by
  have hl := z.toBitVec.isLt
  change 0 ≤ z.toBitVec.toInt at h
  show z.toBitVec.toInt = _ ∧ _
  rw [BitVec.toInt_eq_toNat_cond] at h ⊢
  split at h <;> rename_i q
  · rw [if_pos q]; exact ⟨rfl, by omega⟩
  · omega
theorem mask_rng (x m : Int32) (h : 0 ≤ m.toInt) : 0 ≤ (x &&& m).toInt ∧ (x &&& m).toInt ≤ m.toInt := by
  obtain ⟨e, hm⟩ := toNat_of_toInt h
  have q : (x &&& m).toBitVec.toNat ≤ m.toBitVec.toNat := by
    rw [Int32.toBitVec_and, BitVec.toNat_and]; exact Nat.and_le_right
  rw [toInt_of_toNat (Nat.lt_of_le_of_lt q hm), e]
  omega
theorem i2c_toInt (x : Int32) : (x.toUInt32.toUInt16.toUInt32.toInt32).toInt = ((x.toBitVec.toNat % 65536 : Nat) : Int) := by
  have e : (x.toUInt32.toUInt16.toUInt32.toInt32).toBitVec = (x.toBitVec.setWidth 16).setWidth 32 := rfl
  have e2 : (x.toUInt32.toUInt16.toUInt32.toInt32).toBitVec.toNat = x.toBitVec.toNat % 65536 := by
    rw [e, BitVec.toNat_setWidth, BitVec.toNat_setWidth]; omega
  rw [toInt_of_toNat (by rw [e2]; omega), e2]
theorem chr_i2c {v x : Int32} (h : v = x.toUInt32.toUInt16.toUInt32.toInt32) : Chr v := by subst h; exact rng_char (fits_nar_char x)
theorem Chr.rng {z : Int32} (h : Chr z) : 0 ≤ z.toInt ∧ z.toInt ≤ 65535 := by
  obtain ⟨h1, h2⟩ := h
  rw [Int32.lt_iff_toInt_lt] at h1 h2
  have e1 : (65535 : Int32).toInt = 65535 := rfl
  have e2 : (0 : Int32).toInt = 0 := rfl
  omega
theorem Lat.rng {z : Int32} (h : Lat z) : 0 ≤ z.toInt ∧ z.toInt ≤ 255 := by
  obtain ⟨h1, h2⟩ := h
  rw [Int32.lt_iff_toInt_lt] at h1 h2
  have e1 : (255 : Int32).toInt = 255 := rfl
  have e2 : (0 : Int32).toInt = 0 := rfl
  omega
theorem Lat.of {z : Int32} (h : 0 ≤ z.toInt ∧ z.toInt ≤ 255) : Lat z := by
  constructor <;> rw [Int32.lt_iff_toInt_lt]
  · have e2 : (0 : Int32).toInt = 0 := rfl
    omega
  · have e1 : (255 : Int32).toInt = 255 := rfl
    omega
theorem Chr.of {z : Int32} (h : 0 ≤ z.toInt ∧ z.toInt ≤ 65535) : Chr z := by
  constructor <;> rw [Int32.lt_iff_toInt_lt]
  · have e2 : (0 : Int32).toInt = 0 := rfl
    omega
  · have e1 : (65535 : Int32).toInt = 65535 := rfl
    omega
theorem i2c_id {z : Int32} (h : Chr z) : z.toUInt32.toUInt16.toUInt32.toInt32 = z := by
  obtain ⟨h1, h2⟩ := h.rng
  obtain ⟨e, q⟩ := toNat_of_toInt h1
  apply Int32.toInt_inj.mp
  rw [i2c_toInt, e]
  omega
theorem narC {z : Int32} (h : Chr z) : nar .char z = z := i2c_id h
theorem lat255 {v x : Int32} (h : v = (x &&& 255).toUInt32.toUInt16.toUInt32.toInt32) : Lat v := by
  have r := mask_rng x 255 (by decide)
  have e1 : (255 : Int32).toInt = 255 := rfl
  rw [i2c_id (Chr.of (by omega))] at h
  subst h
  exact Lat.of (by omega)
theorem eq255 {v x : Int32} (h : v = (x &&& 255).toUInt32.toUInt16.toUInt32.toInt32) : v = x &&& 255 := by
  have r := mask_rng x 255 (by decide)
  have e1 : (255 : Int32).toInt = 255 := rfl
  rw [i2c_id (Chr.of (by omega))] at h
  exact h
theorem latNil : ∀ c ∈ ([] : List Int32), ¬ c < 0 ∧ ¬ (255 : Int32) < c := fun _ q => nomatch q
theorem latCons {x : Int32} {L : List Int32} (h : Lat x) (k : ∀ c ∈ L, ¬ c < 0 ∧ ¬ (255 : Int32) < c) : ∀ c ∈ x :: L, ¬ c < 0 ∧ ¬ (255 : Int32) < c := fun c hc => (List.mem_cons.mp hc).elim (fun e => e ▸ h) (k c)
theorem chrAll {L : List Int32} (k : ∀ c ∈ L, ¬ c < 0 ∧ ¬ (255 : Int32) < c) : ∀ c ∈ L, ¬ c < 0 ∧ ¬ (65535 : Int32) < c := fun c hc => Lat.chr (k c hc)
theorem storeV {l l' : Array Slot} {i : Nat} {v : Value} {o : Slot} (hr : v.isRef = true) (hold : l[i]? = some o) (ho : One o) (e : l.setIfInBounds i (.val v) = l') : storeLocals l i v = some l' := e ▸ XS.store1 hold ho (catR hr)
theorem stoV {Z : State} {h : Heap} {a y : Addr} {k : ClassId} {ty : FieldType} {z : Int32} {vs : List Value} {dv : Value} {C : String} (A : Arv Z h a k ty z vs dv) (O : Ovr Z k C) (I : Ins Z h y C true) : Sto Z h a (.ref y) := by
  obtain ⟨c, Ar, q, -⟩ := A
  exact Sto.ofV Ar q O I
theorem fitR {ty : FieldType} {v : Value} (ht : ty.isReference = true) (hv : v.isRef = true) : fits ty v = true := by
  cases ty <;> first | (cases ht; done) | (cases v <;> first | rfl | (cases hv; done))
theorem narR {t : FieldType} {w : Value} (ht : t.isReference = true) : narrow t w = w := by cases t <;> first | rfl | (cases ht; done)
/-- every place written lies in an object of ws or in a new cell -/
def Fk (n : Nat) (ws : List Addr) (L : List Loc) : Prop := ∀ y ∈ L, y.base ∈ ws ∨ n ≤ y.base
theorem Fk.nil (n : Nat) (ws : List Addr) : Fk n ws [] := fun _ q => nomatch q
theorem Fk.snoc {n : Nat} {ws : List Addr} {L : List Loc} {a : Addr} {i : Nat} (N : Fk n ws L) (q : a ∈ ws ∨ n ≤ a) : Fk n ws (L ++ [⟨a, i⟩]) := fun y hy => (List.mem_append.mp hy).elim (N y) fun z => by cases List.mem_singleton.mp z; exact q
theorem Fk.app {n n' : Nat} {ws ws' : List Addr} {L L' : List Loc} (N : Fk n ws L) (N' : Fk n' ws' L') (hn : n ≤ n') (q : ∀ x ∈ ws', x ∈ ws ∨ n ≤ x) : Fk n ws (L ++ L') := fun y hy => (List.mem_append.mp hy).elim (N y) fun z => (N' y z).elim (q _) fun r => Or.inr (Nat.le_trans hn r)
theorem Fk.of_fr {n : Nat} {ws : List Addr} {L : List Loc} (N : Fr n L) : Fk n ws L := fun y hy => Or.inr (N y hy)
theorem Fk.fr {n : Nat} {L : List Loc} (N : Fk n [] L) : Fr n L := fun y hy => (N y hy).elim (fun z => nomatch z) id
theorem oldLe {Z : State} {n : Nat} {h : Heap} (O : Old Z n h) : n ≤ h.size := O.1 ▸ O.2.1
theorem NSr {Z : State} {a0 : Array Value} {O K : String} {n : Nat} (w : (Cond.noSuperclass O).before a0 Z = true) (wk : (Cond.instantiable K n).before a0 Z = true) (hn : O ≠ K) : NS Z O K := by
  obtain ⟨c, k, h1, h2, h3, -, -⟩ := Cond.noSuperclass_spec w
  obtain ⟨t, kt, g1, g2, -⟩ := Cond.instantiable_spec wk
  refine ⟨c, t, h1, g1, fun fuel => ?_⟩
  have ne := ids_ne h1 g1 hn
  cases fuel with
  | zero => rfl
  | succ f => simp [Vm.isSubclassAux, ne, h2, h3]
theorem NSno {Z : State} {a0 : Array Value} {C S K : String} {n : Nat} (w : (Cond.superclass C S).before a0 Z = true) (wk : (Cond.instantiable K n).before a0 Z = true) (N : NS Z C K) (hn : C ≠ K) : ∃ c t, Z.vm.findClass C = some c ∧ Z.vm.findClass K = some t ∧ Z.vm.assignable c t = false := by
  obtain ⟨c, t, h0, g0, n3⟩ := N
  obtain ⟨p, k, kp, h1, h2, h3, h4, h5, -, h7⟩ := Cond.superclass_spec h0 w
  obtain ⟨t', kt, g1, g2, g3, g4, -⟩ := Cond.instantiable_spec wk
  cases g0.symm.trans g1
  have ne := ids_ne h0 g0 hn
  have gi : kt.isInterface = false := by
    rw [Bool.or_eq_false_iff] at g4; exact g4.1
  refine ⟨c, t, h0, g0, ?_⟩
  show Z.vm.assignableAux (255 + 1) c t = false
  simp [Vm.assignableAux, ne, h2, g2, h5, g3, gi, Vm.isSubclass, n3]
theorem fieldI {args : Array Value} {s : State} {t : Term} {z : Int32} (h : (Cond.eq t (.int z)).value args s none s [] = some true) : t.eval args s none [] s = some (.int z) := by
  have q := Cond.eq_int (Cond.before_iff.mpr h) rfl
  exact q
theorem byteId (x : Int32) : nar .byte (x.toInt8.toInt32) = x.toInt8.toInt32 := by
  show (x.toInt8.toInt32).toInt8.toInt32 = _
  rw [Int8.toInt8_toInt32]
theorem fieldJ {args : Array Value} {s : State} {t : Term} {z : Int64} (h : (Cond.eq t (.long z)).value args s none s [] = some true) : t.eval args s none [] s = some (.long z) := by
  obtain ⟨x, y, hx, hy, hk, hv⟩ := cmp_v (Or.inl h)
  have ey : y = .long z := (Option.some.inj ((long_at z).symm.trans hy)).symm
  subst ey
  obtain ⟨w, rfl⟩ := hv
  have q := eq_L hx hy
  have r : (some (decide (w = z)) : Option Bool) = some true := q.symm.trans h
  have e : w = z := by simpa using r
  rw [hx, e]
theorem keepMore {h h' : Heap} {ws ws' : List Addr} (K : Keep h h' ws) (q : ∀ x ∈ ws, x ∈ ws') : Keep h h' ws' := ⟨K.1, fun x c hx hn => K.2.1 x c hx fun z => hn (q x z), K.2.2⟩
theorem mod3 {i : Int32} {x : Int32} (h : i = x % 3) (hx : 0 ≤ x.toInt) : i = 0 ∨ i = 1 ∨ i = 2 := by
  have r := (c_irem x 3 3 rfl).1 hx
  subst h
  have : (x % 3).toInt = 0 ∨ (x % 3).toInt = 1 ∨ (x % 3).toInt = 2 := by omega
  rcases this with q | q | q
  · exact Or.inl (Int32.toInt_inj.mp q)
  · exact Or.inr (Or.inl (Int32.toInt_inj.mp q))
  · exact Or.inr (Or.inr (Int32.toInt_inj.mp q))
end A
namespace Wk
section B
variable {p : Program} {l : Launch} {e : Env} {R : Room} {s : State} {m : MethodId} {args : Array Value} {below : List Frame} {meth : Method} {c : Code} {T : State} {locs : List Loc} {cells slots : Nat} {Z : State} {a0 : Array Value} {h : Heap} {Q : Option Value → State → List Loc → Prop} {F : Outcome → State → List Loc → Prop} {pc q : Nat} {Ls : Array Slot} {st : List Value}
theorem iload (X : Stand p l e R s m args below meth c T locs cells slots) (hx : p.tables.exec = Jvm.exec) {k : Nat} {v : Int32} (hd : decode c.code pc = .ok (.iload k, 2)) (hq : pc + 2 = q) (hl : Ls[k]? = some (.val (.int v))) (k : Wp p e below Q F T (mkF m q Ls ((.int v) :: st))) : Wp p e below Q F T (mkF m pc Ls st) := by
  subst hq
  exact Wp.st (fun _ z => XS.iload X.here hx rfl hd hl z) k
theorem iloadN (X : Stand p l e R s m args below meth c T locs cells slots) (hx : p.tables.exec = Jvm.exec) {k : Fin 4} {v : Int32} (hd : decode c.code pc = .ok (.iload_n k, 1)) (hq : pc + 1 = q) (hl : Ls[k.val]? = some (.val (.int v))) (k : Wp p e below Q F T (mkF m q Ls ((.int v) :: st))) : Wp p e below Q F T (mkF m pc Ls st) := by
  subst hq
  exact Wp.st (fun _ z => XS.iloadN X.here hx rfl hd hl z) k
theorem lload (X : Stand p l e R s m args below meth c T locs cells slots) (hx : p.tables.exec = Jvm.exec) {k : Nat} {v : Int64} (hd : decode c.code pc = .ok (.lload k, 2)) (hq : pc + 2 = q) (hl : Ls[k]? = some (.val (.long v))) (k : Wp p e below Q F T (mkF m q Ls ((.long v) :: st))) : Wp p e below Q F T (mkF m pc Ls st) := by
  subst hq
  exact Wp.st (fun _ z => XS.lload X.here hx rfl hd hl z) k
theorem lloadN (X : Stand p l e R s m args below meth c T locs cells slots) (hx : p.tables.exec = Jvm.exec) {k : Fin 4} {v : Int64} (hd : decode c.code pc = .ok (.lload_n k, 1)) (hq : pc + 1 = q) (hl : Ls[k.val]? = some (.val (.long v))) (k : Wp p e below Q F T (mkF m q Ls ((.long v) :: st))) : Wp p e below Q F T (mkF m pc Ls st) := by
  subst hq
  exact Wp.st (fun _ z => XS.lloadN X.here hx rfl hd hl z) k
theorem aload (X : Stand p l e R s m args below meth c T locs cells slots) (hx : p.tables.exec = Jvm.exec) {k : Nat} {v : Value} (hd : decode c.code pc = .ok (.aload k, 2)) (hq : pc + 2 = q) (hl : Ls[k]? = some (.val (v))) (hv : v.isRef = true) (k : Wp p e below Q F T (mkF m q Ls ((v) :: st))) : Wp p e below Q F T (mkF m pc Ls st) := by
  subst hq
  exact Wp.st (fun _ z => XS.aload X.here hx rfl hd hl hv z) k
theorem aloadN (X : Stand p l e R s m args below meth c T locs cells slots) (hx : p.tables.exec = Jvm.exec) {k : Fin 4} {v : Value} (hd : decode c.code pc = .ok (.aload_n k, 1)) (hq : pc + 1 = q) (hl : Ls[k.val]? = some (.val (v))) (hv : v.isRef = true) (k : Wp p e below Q F T (mkF m q Ls ((v) :: st))) : Wp p e below Q F T (mkF m pc Ls st) := by
  subst hq
  exact Wp.st (fun _ z => XS.aloadN X.here hx rfl hd hl hv z) k
theorem istore (X : Stand p l e R s m args below meth c T locs cells slots) (hx : p.tables.exec = Jvm.exec) {k : Nat} {v : Int32} {Ls' : Array Slot} (hd : decode c.code pc = .ok (.istore k, 2)) (hq : pc + 2 = q) (hl : storeLocals Ls k (.int v) = some Ls') (k : Wp p e below Q F T (mkF m q Ls' st)) : Wp p e below Q F T (mkF m pc Ls ((.int v) :: st)) := by
  subst hq
  exact Wp.st (fun _ z => XS.istore X.here hx rfl hd rfl hl z) k
theorem istoreN (X : Stand p l e R s m args below meth c T locs cells slots) (hx : p.tables.exec = Jvm.exec) {k : Fin 4} {v : Int32} {Ls' : Array Slot} (hd : decode c.code pc = .ok (.istore_n k, 1)) (hq : pc + 1 = q) (hl : storeLocals Ls k.val (.int v) = some Ls') (k : Wp p e below Q F T (mkF m q Ls' st)) : Wp p e below Q F T (mkF m pc Ls ((.int v) :: st)) := by
  subst hq
  exact Wp.st (fun _ z => XS.istoreN X.here hx rfl hd rfl hl z) k
theorem lstore (X : Stand p l e R s m args below meth c T locs cells slots) (hx : p.tables.exec = Jvm.exec) {k : Nat} {v : Int64} {Ls' : Array Slot} (hd : decode c.code pc = .ok (.lstore k, 2)) (hq : pc + 2 = q) (hl : storeLocals Ls k (.long v) = some Ls') (k : Wp p e below Q F T (mkF m q Ls' st)) : Wp p e below Q F T (mkF m pc Ls ((.long v) :: st)) := by
  subst hq
  exact Wp.st (fun _ z => XS.lstore X.here hx rfl hd rfl hl z) k
theorem lstoreN (X : Stand p l e R s m args below meth c T locs cells slots) (hx : p.tables.exec = Jvm.exec) {k : Fin 4} {v : Int64} {Ls' : Array Slot} (hd : decode c.code pc = .ok (.lstore_n k, 1)) (hq : pc + 1 = q) (hl : storeLocals Ls k.val (.long v) = some Ls') (k : Wp p e below Q F T (mkF m q Ls' st)) : Wp p e below Q F T (mkF m pc Ls ((.long v) :: st)) := by
  subst hq
  exact Wp.st (fun _ z => XS.lstoreN X.here hx rfl hd rfl hl z) k
theorem astore (X : Stand p l e R s m args below meth c T locs cells slots) (hx : p.tables.exec = Jvm.exec) {k : Nat} {v : Value} {Ls' : Array Slot} (hd : decode c.code pc = .ok (.astore k, 2)) (hq : pc + 2 = q) (hv : v.isRef = true) (hl : storeLocals Ls k (v) = some Ls') (k : Wp p e below Q F T (mkF m q Ls' st)) : Wp p e below Q F T (mkF m pc Ls ((v) :: st)) := by
  subst hq
  exact Wp.st (fun _ z => XS.astore X.here hx rfl hd rfl hv hl z) k
theorem astoreN (X : Stand p l e R s m args below meth c T locs cells slots) (hx : p.tables.exec = Jvm.exec) {k : Fin 4} {v : Value} {Ls' : Array Slot} (hd : decode c.code pc = .ok (.astore_n k, 1)) (hq : pc + 1 = q) (hv : v.isRef = true) (hl : storeLocals Ls k.val (v) = some Ls') (k : Wp p e below Q F T (mkF m q Ls' st)) : Wp p e below Q F T (mkF m pc Ls ((v) :: st)) := by
  subst hq
  exact Wp.st (fun _ z => XS.astoreN X.here hx rfl hd rfl hv hl z) k
theorem istoreA (X : Stand p l e R s m args below meth c T locs cells slots) (hx : p.tables.exec = Jvm.exec) {k : Nat} {v : Int32} {Ls' : Int32 → Array Slot} (hd : decode c.code pc = .ok (.istore k, 2)) (hq : pc + 2 = q) (hl : ∀ v : Int32, storeLocals Ls k (.int v) = some (Ls' v)) (k : ∀ z : Int32, z = v → Wp p e below Q F T (mkF m q (Ls' z) st)) : Wp p e below Q F T (mkF m pc Ls ((.int v) :: st)) := by
  subst hq
  exact Wp.st (fun _ z => XS.istore X.here hx rfl hd rfl (hl _) z) (k _ rfl)
theorem istoreNA (X : Stand p l e R s m args below meth c T locs cells slots) (hx : p.tables.exec = Jvm.exec) {k : Fin 4} {v : Int32} {Ls' : Int32 → Array Slot} (hd : decode c.code pc = .ok (.istore_n k, 1)) (hq : pc + 1 = q) (hl : ∀ v : Int32, storeLocals Ls k.val (.int v) = some (Ls' v)) (k : ∀ z : Int32, z = v → Wp p e below Q F T (mkF m q (Ls' z) st)) : Wp p e below Q F T (mkF m pc Ls ((.int v) :: st)) := by
  subst hq
  exact Wp.st (fun _ z => XS.istoreN X.here hx rfl hd rfl (hl _) z) (k _ rfl)
theorem lstoreA (X : Stand p l e R s m args below meth c T locs cells slots) (hx : p.tables.exec = Jvm.exec) {k : Nat} {v : Int64} {Ls' : Int64 → Array Slot} (hd : decode c.code pc = .ok (.lstore k, 2)) (hq : pc + 2 = q) (hl : ∀ v : Int64, storeLocals Ls k (.long v) = some (Ls' v)) (k : ∀ z : Int64, z = v → Wp p e below Q F T (mkF m q (Ls' z) st)) : Wp p e below Q F T (mkF m pc Ls ((.long v) :: st)) := by
  subst hq
  exact Wp.st (fun _ z => XS.lstore X.here hx rfl hd rfl (hl _) z) (k _ rfl)
theorem lstoreNA (X : Stand p l e R s m args below meth c T locs cells slots) (hx : p.tables.exec = Jvm.exec) {k : Fin 4} {v : Int64} {Ls' : Int64 → Array Slot} (hd : decode c.code pc = .ok (.lstore_n k, 1)) (hq : pc + 1 = q) (hl : ∀ v : Int64, storeLocals Ls k.val (.long v) = some (Ls' v)) (k : ∀ z : Int64, z = v → Wp p e below Q F T (mkF m q (Ls' z) st)) : Wp p e below Q F T (mkF m pc Ls ((.long v) :: st)) := by
  subst hq
  exact Wp.st (fun _ z => XS.lstoreN X.here hx rfl hd rfl (hl _) z) (k _ rfl)
theorem iconst (X : Stand p l e R s m args below meth c T locs cells slots) (hx : p.tables.exec = Jvm.exec) {i : Int} {v : Int32} (hd : decode c.code pc = .ok (.iconst i, 1)) (hq : pc + 1 = q) (hv : Int32.ofInt i = v) (k : Wp p e below Q F T (mkF m q Ls (.int v :: st))) : Wp p e below Q F T (mkF m pc Ls st) := by
  subst hq
  exact Wp.st (fun _ z => by subst hv; exact XS.iconst X.here hx rfl hd z) k
theorem bipush (X : Stand p l e R s m args below meth c T locs cells slots) (hx : p.tables.exec = Jvm.exec) {i : Int} {v : Int32} (hd : decode c.code pc = .ok (.bipush i, 2)) (hq : pc + 2 = q) (hv : (Int8.ofInt i).toInt32 = v) (k : Wp p e below Q F T (mkF m q Ls (.int v :: st))) : Wp p e below Q F T (mkF m pc Ls st) := by
  subst hq
  exact Wp.st (fun _ z => by subst hv; exact XS.bipush X.here hx rfl hd z) k
theorem sipush (X : Stand p l e R s m args below meth c T locs cells slots) (hx : p.tables.exec = Jvm.exec) {i : Int} {v : Int32} (hd : decode c.code pc = .ok (.sipush i, 3)) (hq : pc + 3 = q) (hv : (Int16.ofInt i).toInt32 = v) (k : Wp p e below Q F T (mkF m q Ls (.int v :: st))) : Wp p e below Q F T (mkF m pc Ls st) := by
  subst hq
  exact Wp.st (fun _ z => by subst hv; exact XS.sipush X.here hx rfl hd z) k
theorem aconstNull (X : Stand p l e R s m args below meth c T locs cells slots) (hx : p.tables.exec = Jvm.exec)  (hd : decode c.code pc = .ok (.aconst_null, 1)) (hq : pc + 1 = q) (k : Wp p e below Q F T (mkF m q Ls (.null :: st))) : Wp p e below Q F T (mkF m pc Ls st) := by
  subst hq
  exact Wp.st (fun _ z => XS.aconstNull X.here hx rfl hd z) k
theorem iadd (X : Stand p l e R s m args below meth c T locs cells slots) (hx : p.tables.exec = Jvm.exec) {x y : Int32} (hd : decode c.code pc = .ok (.iadd, 1)) (hq : pc + 1 = q) (k : Wp p e below Q F T (mkF m q Ls (.int (x + y) :: st))) : Wp p e below Q F T (mkF m pc Ls (.int y :: .int x :: st)) := by
  subst hq
  exact Wp.st (fun _ z => XS.iadd X.here hx rfl hd rfl z) k
theorem isub (X : Stand p l e R s m args below meth c T locs cells slots) (hx : p.tables.exec = Jvm.exec) {x y : Int32} (hd : decode c.code pc = .ok (.isub, 1)) (hq : pc + 1 = q) (k : Wp p e below Q F T (mkF m q Ls (.int (x - y) :: st))) : Wp p e below Q F T (mkF m pc Ls (.int y :: .int x :: st)) := by
  subst hq
  exact Wp.st (fun _ z => XS.isub X.here hx rfl hd rfl z) k
theorem imul (X : Stand p l e R s m args below meth c T locs cells slots) (hx : p.tables.exec = Jvm.exec) {x y : Int32} (hd : decode c.code pc = .ok (.imul, 1)) (hq : pc + 1 = q) (k : Wp p e below Q F T (mkF m q Ls (.int (x * y) :: st))) : Wp p e below Q F T (mkF m pc Ls (.int y :: .int x :: st)) := by
  subst hq
  exact Wp.st (fun _ z => XS.imul X.here hx rfl hd rfl z) k
theorem iand (X : Stand p l e R s m args below meth c T locs cells slots) (hx : p.tables.exec = Jvm.exec) {x y : Int32} (hd : decode c.code pc = .ok (.iand, 1)) (hq : pc + 1 = q) (k : Wp p e below Q F T (mkF m q Ls (.int (x &&& y) :: st))) : Wp p e below Q F T (mkF m pc Ls (.int y :: .int x :: st)) := by
  subst hq
  exact Wp.st (fun _ z => XS.iand X.here hx rfl hd rfl z) k
theorem ior (X : Stand p l e R s m args below meth c T locs cells slots) (hx : p.tables.exec = Jvm.exec) {x y : Int32} (hd : decode c.code pc = .ok (.ior, 1)) (hq : pc + 1 = q) (k : Wp p e below Q F T (mkF m q Ls (.int (x ||| y) :: st))) : Wp p e below Q F T (mkF m pc Ls (.int y :: .int x :: st)) := by
  subst hq
  exact Wp.st (fun _ z => XS.ior X.here hx rfl hd rfl z) k
theorem ixor (X : Stand p l e R s m args below meth c T locs cells slots) (hx : p.tables.exec = Jvm.exec) {x y : Int32} (hd : decode c.code pc = .ok (.ixor, 1)) (hq : pc + 1 = q) (k : Wp p e below Q F T (mkF m q Ls (.int (x ^^^ y) :: st))) : Wp p e below Q F T (mkF m pc Ls (.int y :: .int x :: st)) := by
  subst hq
  exact Wp.st (fun _ z => XS.ixor X.here hx rfl hd rfl z) k
theorem ladd (X : Stand p l e R s m args below meth c T locs cells slots) (hx : p.tables.exec = Jvm.exec) {x y : Int64} (hd : decode c.code pc = .ok (.ladd, 1)) (hq : pc + 1 = q) (k : Wp p e below Q F T (mkF m q Ls (.long (x + y) :: st))) : Wp p e below Q F T (mkF m pc Ls (.long y :: .long x :: st)) := by
  subst hq
  exact Wp.st (fun _ z => XS.ladd X.here hx rfl hd rfl z) k
theorem lsub (X : Stand p l e R s m args below meth c T locs cells slots) (hx : p.tables.exec = Jvm.exec) {x y : Int64} (hd : decode c.code pc = .ok (.lsub, 1)) (hq : pc + 1 = q) (k : Wp p e below Q F T (mkF m q Ls (.long (x - y) :: st))) : Wp p e below Q F T (mkF m pc Ls (.long y :: .long x :: st)) := by
  subst hq
  exact Wp.st (fun _ z => XS.lsub X.here hx rfl hd rfl z) k
theorem lmul (X : Stand p l e R s m args below meth c T locs cells slots) (hx : p.tables.exec = Jvm.exec) {x y : Int64} (hd : decode c.code pc = .ok (.lmul, 1)) (hq : pc + 1 = q) (k : Wp p e below Q F T (mkF m q Ls (.long (x * y) :: st))) : Wp p e below Q F T (mkF m pc Ls (.long y :: .long x :: st)) := by
  subst hq
  exact Wp.st (fun _ z => XS.lmul X.here hx rfl hd rfl z) k
theorem land (X : Stand p l e R s m args below meth c T locs cells slots) (hx : p.tables.exec = Jvm.exec) {x y : Int64} (hd : decode c.code pc = .ok (.land, 1)) (hq : pc + 1 = q) (k : Wp p e below Q F T (mkF m q Ls (.long (x &&& y) :: st))) : Wp p e below Q F T (mkF m pc Ls (.long y :: .long x :: st)) := by
  subst hq
  exact Wp.st (fun _ z => XS.land X.here hx rfl hd rfl z) k
theorem lor (X : Stand p l e R s m args below meth c T locs cells slots) (hx : p.tables.exec = Jvm.exec) {x y : Int64} (hd : decode c.code pc = .ok (.lor, 1)) (hq : pc + 1 = q) (k : Wp p e below Q F T (mkF m q Ls (.long (x ||| y) :: st))) : Wp p e below Q F T (mkF m pc Ls (.long y :: .long x :: st)) := by
  subst hq
  exact Wp.st (fun _ z => XS.lor X.here hx rfl hd rfl z) k
theorem lxor (X : Stand p l e R s m args below meth c T locs cells slots) (hx : p.tables.exec = Jvm.exec) {x y : Int64} (hd : decode c.code pc = .ok (.lxor, 1)) (hq : pc + 1 = q) (k : Wp p e below Q F T (mkF m q Ls (.long (x ^^^ y) :: st))) : Wp p e below Q F T (mkF m pc Ls (.long y :: .long x :: st)) := by
  subst hq
  exact Wp.st (fun _ z => XS.lxor X.here hx rfl hd rfl z) k
theorem ishl (X : Stand p l e R s m args below meth c T locs cells slots) (hx : p.tables.exec = Jvm.exec) {x y : Int32} (hd : decode c.code pc = .ok (.ishl, 1)) (hq : pc + 1 = q) (k : Wp p e below Q F T (mkF m q Ls (.int (x <<< (y &&& 31)) :: st))) : Wp p e below Q F T (mkF m pc Ls (.int y :: .int x :: st)) := by
  subst hq
  exact Wp.st (fun _ z => XS.ishl X.here hx rfl hd rfl z) k
theorem ishr (X : Stand p l e R s m args below meth c T locs cells slots) (hx : p.tables.exec = Jvm.exec) {x y : Int32} (hd : decode c.code pc = .ok (.ishr, 1)) (hq : pc + 1 = q) (k : Wp p e below Q F T (mkF m q Ls (.int (x >>> (y &&& 31)) :: st))) : Wp p e below Q F T (mkF m pc Ls (.int y :: .int x :: st)) := by
  subst hq
  exact Wp.st (fun _ z => XS.ishr X.here hx rfl hd rfl z) k
theorem iushr (X : Stand p l e R s m args below meth c T locs cells slots) (hx : p.tables.exec = Jvm.exec) {x y : Int32} (hd : decode c.code pc = .ok (.iushr, 1)) (hq : pc + 1 = q) (k : Wp p e below Q F T (mkF m q Ls (.int ((x.toUInt32 >>> (y &&& 31).toUInt32).toInt32) :: st))) : Wp p e below Q F T (mkF m pc Ls (.int y :: .int x :: st)) := by
  subst hq
  exact Wp.st (fun _ z => XS.iushr X.here hx rfl hd rfl z) k
theorem lshl (X : Stand p l e R s m args below meth c T locs cells slots) (hx : p.tables.exec = Jvm.exec) {x : Int64} {y : Int32} (hd : decode c.code pc = .ok (.lshl, 1)) (hq : pc + 1 = q) (k : Wp p e below Q F T (mkF m q Ls (.long (x <<< (y &&& 0x3f).toInt64) :: st))) : Wp p e below Q F T (mkF m pc Ls (.int y :: .long x :: st)) := by
  subst hq
  exact Wp.st (fun _ z => XS.lshl X.here hx rfl hd rfl z) k
theorem lshr (X : Stand p l e R s m args below meth c T locs cells slots) (hx : p.tables.exec = Jvm.exec) {x : Int64} {y : Int32} (hd : decode c.code pc = .ok (.lshr, 1)) (hq : pc + 1 = q) (k : Wp p e below Q F T (mkF m q Ls (.long (x >>> (y &&& 0x3f).toInt64) :: st))) : Wp p e below Q F T (mkF m pc Ls (.int y :: .long x :: st)) := by
  subst hq
  exact Wp.st (fun _ z => XS.lshr X.here hx rfl hd rfl z) k
theorem lushr (X : Stand p l e R s m args below meth c T locs cells slots) (hx : p.tables.exec = Jvm.exec) {x : Int64} {y : Int32} (hd : decode c.code pc = .ok (.lushr, 1)) (hq : pc + 1 = q) (k : Wp p e below Q F T (mkF m q Ls (.long ((x.toUInt64 >>> (y &&& 0x3f).toInt64.toUInt64).toInt64) :: st))) : Wp p e below Q F T (mkF m pc Ls (.int y :: .long x :: st)) := by
  subst hq
  exact Wp.st (fun _ z => XS.lushr X.here hx rfl hd rfl z) k
theorem idiv (X : Stand p l e R s m args below meth c T locs cells slots) (hx : p.tables.exec = Jvm.exec) {x y : Int32} (hd : decode c.code pc = .ok (.idiv, 1)) (hq : pc + 1 = q) (hy : y ≠ 0) (k : Wp p e below Q F T (mkF m q Ls (.int (x / y) :: st))) : Wp p e below Q F T (mkF m pc Ls (.int y :: .int x :: st)) := by
  subst hq
  exact Wp.st (fun _ z => XS.idiv X.here hx rfl hd rfl hy z) k
theorem irem (X : Stand p l e R s m args below meth c T locs cells slots) (hx : p.tables.exec = Jvm.exec) {x y : Int32} (hd : decode c.code pc = .ok (.irem, 1)) (hq : pc + 1 = q) (hy : y ≠ 0) (k : Wp p e below Q F T (mkF m q Ls (.int (x % y) :: st))) : Wp p e below Q F T (mkF m pc Ls (.int y :: .int x :: st)) := by
  subst hq
  exact Wp.st (fun _ z => iremM X hx rfl hd rfl hy z) k
theorem ldiv (X : Stand p l e R s m args below meth c T locs cells slots) (hx : p.tables.exec = Jvm.exec) {x y : Int64} (hd : decode c.code pc = .ok (.ldiv, 1)) (hq : pc + 1 = q) (hy : y ≠ 0) (k : Wp p e below Q F T (mkF m q Ls (.long (x / y) :: st))) : Wp p e below Q F T (mkF m pc Ls (.long y :: .long x :: st)) := by
  subst hq
  exact Wp.st (fun _ z => XS.ldiv X.here hx rfl hd rfl hy z) k
theorem lrem (X : Stand p l e R s m args below meth c T locs cells slots) (hx : p.tables.exec = Jvm.exec) {x y : Int64} (hd : decode c.code pc = .ok (.lrem, 1)) (hq : pc + 1 = q) (hy : y ≠ 0) (k : Wp p e below Q F T (mkF m q Ls (.long (x - (x / y) * y) :: st))) : Wp p e below Q F T (mkF m pc Ls (.long y :: .long x :: st)) := by
  subst hq
  exact Wp.st (fun _ z => XS.lrem X.here hx rfl hd rfl hy z) k
theorem ineg (X : Stand p l e R s m args below meth c T locs cells slots) (hx : p.tables.exec = Jvm.exec) {x : Int32} (hd : decode c.code pc = .ok (.ineg, 1)) (hq : pc + 1 = q) (k : Wp p e below Q F T (mkF m q Ls (.int (-x) :: st))) : Wp p e below Q F T (mkF m pc Ls (.int x :: st)) := by
  subst hq
  exact Wp.st (fun _ z => XS.ineg X.here hx rfl hd rfl z) k
theorem lneg (X : Stand p l e R s m args below meth c T locs cells slots) (hx : p.tables.exec = Jvm.exec) {x : Int64} (hd : decode c.code pc = .ok (.lneg, 1)) (hq : pc + 1 = q) (k : Wp p e below Q F T (mkF m q Ls (.long (-x) :: st))) : Wp p e below Q F T (mkF m pc Ls (.long x :: st)) := by
  subst hq
  exact Wp.st (fun _ z => XS.lneg X.here hx rfl hd rfl z) k
theorem i2l (X : Stand p l e R s m args below meth c T locs cells slots) (hx : p.tables.exec = Jvm.exec) {x : Int32} (hd : decode c.code pc = .ok (.i2l, 1)) (hq : pc + 1 = q) (k : Wp p e below Q F T (mkF m q Ls (.long x.toInt64 :: st))) : Wp p e below Q F T (mkF m pc Ls (.int x :: st)) := by
  subst hq
  exact Wp.st (fun _ z => XS.i2l X.here hx rfl hd rfl z) k
theorem l2i (X : Stand p l e R s m args below meth c T locs cells slots) (hx : p.tables.exec = Jvm.exec) {x : Int64} (hd : decode c.code pc = .ok (.l2i, 1)) (hq : pc + 1 = q) (k : Wp p e below Q F T (mkF m q Ls (.int x.toInt32 :: st))) : Wp p e below Q F T (mkF m pc Ls (.long x :: st)) := by
  subst hq
  exact Wp.st (fun _ z => XS.l2i X.here hx rfl hd rfl z) k
theorem i2b (X : Stand p l e R s m args below meth c T locs cells slots) (hx : p.tables.exec = Jvm.exec) {x : Int32} (hd : decode c.code pc = .ok (.i2b, 1)) (hq : pc + 1 = q) (k : ∀ v : Int32, v = x.toInt8.toInt32 → Wp p e below Q F T (mkF m q Ls (.int v :: st))) : Wp p e below Q F T (mkF m pc Ls (.int x :: st)) := by
  subst hq
  exact Wp.st (fun _ z => XS.i2b X.here hx rfl hd rfl z) (k _ rfl)
theorem i2c (X : Stand p l e R s m args below meth c T locs cells slots) (hx : p.tables.exec = Jvm.exec) {x : Int32} (hd : decode c.code pc = .ok (.i2c, 1)) (hq : pc + 1 = q) (k : ∀ v : Int32, v = x.toUInt32.toUInt16.toUInt32.toInt32 → Wp p e below Q F T (mkF m q Ls (.int v :: st))) : Wp p e below Q F T (mkF m pc Ls (.int x :: st)) := by
  subst hq
  exact Wp.st (fun _ z => XS.i2c X.here hx rfl hd rfl z) (k _ rfl)
theorem i2s (X : Stand p l e R s m args below meth c T locs cells slots) (hx : p.tables.exec = Jvm.exec) {x : Int32} (hd : decode c.code pc = .ok (.i2s, 1)) (hq : pc + 1 = q) (k : ∀ v : Int32, v = x.toInt16.toInt32 → Wp p e below Q F T (mkF m q Ls (.int v :: st))) : Wp p e below Q F T (mkF m pc Ls (.int x :: st)) := by
  subst hq
  exact Wp.st (fun _ z => XS.i2s X.here hx rfl hd rfl z) (k _ rfl)
theorem lconst (X : Stand p l e R s m args below meth c T locs cells slots) (hx : p.tables.exec = Jvm.exec) {k : Fin 2} {v : Int64} (hd : decode c.code pc = .ok (.lconst k, 1)) (hq : pc + 1 = q) (hv : Int64.ofNat k = v) (k : Wp p e below Q F T (mkF m q Ls (.long v :: st))) : Wp p e below Q F T (mkF m pc Ls st) := by
  subst hq
  exact Wp.st (fun _ z => by subst hv; exact XS.lconst X.here hx rfl hd z) k
theorem lcmp (X : Stand p l e R s m args below meth c T locs cells slots) (hx : p.tables.exec = Jvm.exec) {x y : Int64} (hd : decode c.code pc = .ok (.lcmp, 1)) (hq : pc + 1 = q) (k : Wp p e below Q F T (mkF m q Ls (.int (lcmpW x y) :: st))) : Wp p e below Q F T (mkF m pc Ls (.long y :: .long x :: st)) := by
  subst hq
  exact Wp.st (fun _ z => XS.lcmp X.here hx rfl hd rfl z) k
theorem dup (X : Stand p l e R s m args below meth c T locs cells slots) (hx : p.tables.exec = Jvm.exec) {x : Value} (hd : decode c.code pc = .ok (.dup, 1)) (hq : pc + 1 = q) (hc : x.category = 1) (k : Wp p e below Q F T (mkF m q Ls (x :: x :: st))) : Wp p e below Q F T (mkF m pc Ls (x :: st)) := by
  subst hq
  exact Wp.st (fun _ z => XS.dup X.here hx rfl hd rfl hc z) k
theorem pop (X : Stand p l e R s m args below meth c T locs cells slots) (hx : p.tables.exec = Jvm.exec) {x : Value} (hd : decode c.code pc = .ok (.pop, 1)) (hq : pc + 1 = q) (hc : x.category = 1) (k : Wp p e below Q F T (mkF m q Ls st)) : Wp p e below Q F T (mkF m pc Ls (x :: st)) := by
  subst hq
  exact Wp.st (fun _ z => XS.pop X.here hx rfl hd rfl hc z) k
theorem dupX1 (X : Stand p l e R s m args below meth c T locs cells slots) (hx : p.tables.exec = Jvm.exec) {x y : Value} (hd : decode c.code pc = .ok (.dup_x1, 1)) (hq : pc + 1 = q) (hc : x.category = 1) (hc' : y.category = 1) (k : Wp p e below Q F T (mkF m q Ls (x :: y :: x :: st))) : Wp p e below Q F T (mkF m pc Ls (x :: y :: st)) := by
  subst hq
  exact Wp.st (fun _ z => XS.dupX1 X.here hx rfl hd rfl hc hc' z) k
theorem dup2 (X : Stand p l e R s m args below meth c T locs cells slots) (hx : p.tables.exec = Jvm.exec) {x y : Value} (hd : decode c.code pc = .ok (.dup2, 1)) (hq : pc + 1 = q) (hc : x.category = 1) (hc' : y.category = 1) (k : Wp p e below Q F T (mkF m q Ls (x :: y :: x :: y :: st))) : Wp p e below Q F T (mkF m pc Ls (x :: y :: st)) := by
  subst hq
  exact Wp.st (fun _ z => Jvm.Free.XT.dup2 X.here hx rfl hd rfl hc hc' z) k
theorem dup2L (X : Stand p l e R s m args below meth c T locs cells slots) (hx : p.tables.exec = Jvm.exec) {x : Int64} (hd : decode c.code pc = .ok (.dup2, 1)) (hq : pc + 1 = q) (k : Wp p e below Q F T (mkF m q Ls (.long x :: .long x :: st))) : Wp p e below Q F T (mkF m pc Ls (.long x :: st)) := by
  subst hq
  exact Wp.st (fun _ z => Jvm.Free.XT.dup2L X.here hx rfl hd rfl z) k
theorem iinc (X : Stand p l e R s m args below meth c T locs cells slots) (hx : p.tables.exec = Jvm.exec) {k : Nat} {cst : Int} {v : Int32} {Ls' : Array Slot} (hd : decode c.code pc = .ok (.iinc k cst, 3)) (hq : pc + 3 = q) (hl : Ls[k]? = some (.val (.int v))) (hl' : storeLocals Ls k (.int (v + Int32.ofInt cst)) = some Ls') (k : Wp p e below Q F T (mkF m q Ls' st)) : Wp p e below Q F T (mkF m pc Ls st) := by
  subst hq
  exact Wp.st (fun _ z => XS.iinc X.here hx rfl hd hl hl' z) k
theorem goto (X : Stand p l e R s m args below meth c T locs cells slots) (hx : p.tables.exec = Jvm.exec) {o : Int}  (hd : decode c.code pc = .ok (.goto o, 3)) (ho : 0 ≤ (pc : Int) + o) (hq : ((pc : Int) + o).toNat = q) (k : Wp p e below Q F T (mkF m q Ls st)) : Wp p e below Q F T (mkF m pc Ls st) := Wp.st (fun _ z => XS.goto X.here hx rfl rfl hd ho hq z) k
theorem ifYes (X : Stand p l e R s m args below meth c T locs cells slots) (hx : p.tables.exec = Jvm.exec) {o : Int} {cd : ClassFile.Cond} {x : Int32} (hd : decode c.code pc = .ok (.ifCond cd o, 3)) (ho : 0 ≤ (pc : Int) + o) (hq : ((pc : Int) + o).toNat = q) (hc : ifCond.holds cd x = true) (k : Wp p e below Q F T (mkF m q Ls st)) : Wp p e below Q F T (mkF m pc Ls (.int x :: st)) := Wp.st (fun _ z => XS.ifYes X.here hx rfl rfl hd rfl hc ho hq z) k
theorem icmpYes (X : Stand p l e R s m args below meth c T locs cells slots) (hx : p.tables.exec = Jvm.exec) {o : Int} {cd : ClassFile.Cond} {x y : Int32} (hd : decode c.code pc = .ok (.if_icmp cd o, 3)) (ho : 0 ≤ (pc : Int) + o) (hq : ((pc : Int) + o).toNat = q) (hc : if_icmp.holds cd x y = true) (k : Wp p e below Q F T (mkF m q Ls st)) : Wp p e below Q F T (mkF m pc Ls (.int y :: .int x :: st)) := Wp.st (fun _ z => XS.icmpYes X.here hx rfl rfl hd rfl hc ho hq z) k
theorem ifnullYes (X : Stand p l e R s m args below meth c T locs cells slots) (hx : p.tables.exec = Jvm.exec) {o : Int}  (hd : decode c.code pc = .ok (.ifnull o, 3)) (ho : 0 ≤ (pc : Int) + o) (hq : ((pc : Int) + o).toNat = q) (k : Wp p e below Q F T (mkF m q Ls st)) : Wp p e below Q F T (mkF m pc Ls (.null :: st)) := Wp.st (fun _ z => XS.ifnullYes X.here hx rfl rfl hd rfl ho hq z) k
theorem ifnonnullYes (X : Stand p l e R s m args below meth c T locs cells slots) (hx : p.tables.exec = Jvm.exec) {o : Int} {b : Addr} (hd : decode c.code pc = .ok (.ifnonnull o, 3)) (ho : 0 ≤ (pc : Int) + o) (hq : ((pc : Int) + o).toNat = q) (k : Wp p e below Q F T (mkF m q Ls st)) : Wp p e below Q F T (mkF m pc Ls (.ref b :: st)) := Wp.st (fun _ z => XS.ifnonnullYes X.here hx rfl rfl hd rfl ho hq z) k
theorem ifNo (X : Stand p l e R s m args below meth c T locs cells slots) (hx : p.tables.exec = Jvm.exec) {cd : ClassFile.Cond} {o : Int} {x : Int32} (hd : decode c.code pc = .ok (.ifCond cd o, 3)) (hq : pc + 3 = q) (hc : ifCond.holds cd x = false) (k : Wp p e below Q F T (mkF m q Ls st)) : Wp p e below Q F T (mkF m pc Ls (.int x :: st)) := by
  subst hq
  exact Wp.st (fun _ z => XS.ifNo X.here hx rfl hd rfl hc z) k
theorem icmpNo (X : Stand p l e R s m args below meth c T locs cells slots) (hx : p.tables.exec = Jvm.exec) {cd : ClassFile.Cond} {o : Int} {x y : Int32} (hd : decode c.code pc = .ok (.if_icmp cd o, 3)) (hq : pc + 3 = q) (hc : if_icmp.holds cd x y = false) (k : Wp p e below Q F T (mkF m q Ls st)) : Wp p e below Q F T (mkF m pc Ls (.int y :: .int x :: st)) := by
  subst hq
  exact Wp.st (fun _ z => XS.icmpNo X.here hx rfl hd rfl hc z) k
theorem ifnullNo (X : Stand p l e R s m args below meth c T locs cells slots) (hx : p.tables.exec = Jvm.exec) {o : Int} {b : Addr} (hd : decode c.code pc = .ok (.ifnull o, 3)) (hq : pc + 3 = q) (k : Wp p e below Q F T (mkF m q Ls st)) : Wp p e below Q F T (mkF m pc Ls (.ref b :: st)) := by
  subst hq
  exact Wp.st (fun _ z => XS.ifnullNo X.here hx rfl hd rfl z) k
theorem ifnonnullNo (X : Stand p l e R s m args below meth c T locs cells slots) (hx : p.tables.exec = Jvm.exec) {o : Int} (hd : decode c.code pc = .ok (.ifnonnull o, 3)) (hq : pc + 3 = q) (k : Wp p e below Q F T (mkF m q Ls st)) : Wp p e below Q F T (mkF m pc Ls (.null :: st)) := by
  subst hq
  exact Wp.st (fun _ z => XS.ifnonnullNo X.here hx rfl hd rfl z) k
theorem acmpEq (X : Stand p l e R s m args below meth c T locs cells slots) (hx : p.tables.exec = Jvm.exec) {cd : ACond} {x y : Value} {o : Int} (hd : decode c.code pc = .ok (.if_acmp cd o, 3)) (h1 : x.isRef = true) (h2 : y.isRef = true) (he : x = y) (ho : 0 ≤ (pc : Int) + o) (hq : q = if acV cd true = true then ((pc : Int) + o).toNat else pc + 3) (k : Wp p e below Q F T (mkF m q Ls st)) : Wp p e below Q F T (mkF m pc Ls (y :: x :: st)) :=
  Wp.st (fun _ z => Jvm.RoadKit.acmp (same := true) X hx rfl h1 h2 rfl hd rfl (decide_eq_true he) ho hq z) k
theorem acmpNe (X : Stand p l e R s m args below meth c T locs cells slots) (hx : p.tables.exec = Jvm.exec) {cd : ACond} {x y : Value} {o : Int} (hd : decode c.code pc = .ok (.if_acmp cd o, 3)) (h1 : x.isRef = true) (h2 : y.isRef = true) (he : ¬ x = y) (ho : 0 ≤ (pc : Int) + o) (hq : q = if acV cd false = true then ((pc : Int) + o).toNat else pc + 3) (k : Wp p e below Q F T (mkF m q Ls st)) : Wp p e below Q F T (mkF m pc Ls (y :: x :: st)) :=
  Wp.st (fun _ z => Jvm.RoadKit.acmp (same := false) X hx rfl h1 h2 rfl hd rfl (decide_eq_false he) ho hq z) k
theorem new (X : Stand p l e R s m args below meth c T locs cells slots) (hx : p.tables.exec = Jvm.exec) (hZ : Z.Warmed39 s.vm) {own C : String} {index n : Nat} (hown : s.vm.findClass own = some m.cls) (w : (Cond.classLink own index C).before a0 Z = true) (wi : (Cond.instantiable C n).before a0 Z = true) (wz : (Cond.initialized C).before a0 Z = true) (eT : T.heap = h) (hd : decode c.code pc = .ok (.new index, 3)) (hq : pc + 3 = q) (hc : cells + 1 ≤ R.cells) (hl : slots + n ≤ R.slots)
    (k : ∀ (T' : State) (h' : Heap) (a : Addr), h.size = a → Stand p l e R s m args below meth c T' locs (cells + 1) (slots + n) → T'.heap = h' → Ext h h' → Exa Z h' a C → (∀ {O nm d : String} {ty : FieldType}, Laid Z a0 C O nm d → parseFieldDescriptor d = some ty → Fld Z h' a O nm d (defaultValue ty)) → Wp p e below Q F T' (mkF m q Ls (.ref a :: st))) : Wp p e below Q F T (mkF m pc Ls st) := by
  subst hq
  obtain ⟨T', h', X', e', E, A, D, -, st'⟩ := newO X hx hZ hown w wi wz eT (g := mkF m pc Ls st) rfl hd hc hl
  exact Wp.st st' (k T' h' _ rfl X' e' E A D)
theorem newarray (X : Stand p l e R s m args below meth c T locs cells slots) (hx : p.tables.exec = Jvm.exec) (hZ : Z.Warmed39 s.vm) {aty : ArrayType} (w : (Cond.arrayClass (newarray.typeOf aty)).before a0 Z = true) (eT : T.heap = h) {n : Int32} (hd : decode c.code pc = .ok (.newarray aty, 2)) (hq : pc + 2 = q) (hn : ¬ n < 0) (cap : Nat) (hcap : n.toNatClampNeg ≤ cap) (hb : cap * 8 ≤ 536870912) (hc : cells + 1 ≤ R.cells) (hl : slots + cap ≤ R.slots)
    (k : ∀ (T' : State) (h' : Heap) (a : Addr) (kA : ClassId), h.size = a → Stand p l e R s m args below meth c T' locs (cells + 1) (slots + cap) → T'.heap = h' → Ext h h' → Arv Z h' a kA (newarray.typeOf aty) n [] (defaultValue (newarray.typeOf aty)) → Wp p e below Q F T' (mkF m q Ls (.ref a :: st))) : Wp p e below Q F T (mkF m pc Ls (.int n :: st)) := by
  subst hq
  obtain ⟨T', h', kA, X', e', E, A, st'⟩ := newP X hx hZ w eT (g := mkF m pc Ls (.int n :: st)) rfl hd rfl hn hcap hb hc hl
  exact Wp.st st' (k T' h' _ kA rfl X' e' E (Arv.new A hn))
theorem anewarray (X : Stand p l e R s m args below meth c T locs cells slots) (hx : p.tables.exec = Jvm.exec) (hZ : Z.Warmed39 s.vm) {own C : String} {index : Nat} (hown : s.vm.findClass own = some m.cls) (w1 : (Cond.classLink own index C).before a0 Z = true) (w2 : (Cond.arrayOver (.object C)).before a0 Z = true) (eT : T.heap = h) {n : Int32} (hd : decode c.code pc = .ok (.anewarray index, 3)) (hq : pc + 3 = q) (hn : ¬ n < 0) (cap : Nat) (hcap : n.toNatClampNeg ≤ cap) (hb : cap * 8 ≤ 536870912) (hc : cells + 1 ≤ R.cells) (hl : slots + cap ≤ R.slots)
    (k : ∀ (T' : State) (h' : Heap) (a : Addr) (kA : ClassId), h.size = a → Stand p l e R s m args below meth c T' locs (cells + 1) (slots + cap) → T'.heap = h' → Ext h h' → Arv Z h' a kA (.object C) n [] .null → Ovr Z kA C → Wp p e below Q F T' (mkF m q Ls (.ref a :: st))) : Wp p e below Q F T (mkF m pc Ls (.int n :: st)) := by
  subst hq
  obtain ⟨T', h', kA, X', e', E, A, O, st'⟩ := newR X hx hZ hown w1 w2 eT (g := mkF m pc Ls (.int n :: st)) rfl hd rfl hn hcap hb hc hl
  exact Wp.st st' (k T' h' _ kA rfl X' e' E (Arv.new A hn) O)
theorem getfield (X : Stand p l e R s m args below meth c T locs cells slots) (hx : p.tables.exec = Jvm.exec) (hZ : Z.Warmed39 s.vm) {own R0 O n d host : String} {index : Nat} (hown : s.vm.findClass own = some m.cls) (w : (Cond.fieldLink own index R0 n d).before a0 Z = true ∨ (Cond.fieldLinkNest own index R0 n d host).before a0 Z = true) (via : Via Z R0 O n d) (eT : T.heap = h) {a : Addr} {v : Value} (hF : Fld Z h a O n d v) (hd : decode c.code pc = .ok (.getfield index, 3)) (hq : pc + 3 = q)
    (k : ∀ (T' : State), Stand p l e R s m args below meth c T' locs cells slots → T'.heap = h → Wp p e below Q F T' (mkF m q Ls (v :: st))) : Wp p e below Q F T (mkF m pc Ls (.ref a :: st)) := by
  subst hq
  obtain ⟨T', X', e', st'⟩ := getF X hx hZ hown w via eT hF (g := mkF m pc Ls (.ref a :: st)) rfl rfl hd
  exact Wp.st st' (k T' X' e')
theorem getstatic (X : Stand p l e R s m args below meth c T locs cells slots) (hx : p.tables.exec = Jvm.exec) (hZ : Z.Warmed39 s.vm) {own R0 O n d host : String} {index : Nat} (hown : s.vm.findClass own = some m.cls) (w : (Cond.fieldLink own index R0 n d).before a0 Z = true ∨ (Cond.fieldLinkNest own index R0 n d host).before a0 Z = true) (via : Via Z R0 O n d) (eT : T.heap = h) {v : Value} (hF : Sta Z h O n d v) (hd : decode c.code pc = .ok (.getstatic index, 3)) (hq : pc + 3 = q)
    (k : ∀ (T' : State), Stand p l e R s m args below meth c T' locs cells slots → T'.heap = h → Wp p e below Q F T' (mkF m q Ls (v :: st))) : Wp p e below Q F T (mkF m pc Ls st) := by
  subst hq
  obtain ⟨T', X', e', st'⟩ := getS2 X hx hZ hown w via eT hF (g := mkF m pc Ls st) rfl hd
  exact Wp.st st' (k T' X' e')
theorem putfield (X : Stand p l e R s m args below meth c T locs cells slots) (hx : p.tables.exec = Jvm.exec) (hZ : Z.Warmed39 s.vm) {own R0 O n d host C : String} {index kk : Nat} {ty : FieldType} (hown : s.vm.findClass own = some m.cls) (w : (Cond.fieldLink own index R0 n d).before a0 Z = true ∨ (Cond.fieldLinkNest own index R0 n d host).before a0 Z = true) (via : Via Z R0 O n d) (eT : T.heap = h) {a : Addr} {v old : Value} (hF : Fld Z h a O n d old) (hE : Exa Z h a C) (hL : (Cond.lays C O n d).before a0 Z = true ∨ ((Cond.laysFinal C O n d).before a0 Z = true ∧ own = O ∧ meth.name = "<init>")) (wi : (Cond.instantiable C kk).before a0 Z = true)
    (hty : parseFieldDescriptor d = some ty) (hn : narrow ty v = v) (hf : fits ty v = true) (hd : decode c.code pc = .ok (.putfield index, 3)) (hq : pc + 3 = q)
    (k : ∀ (T' : State) (h' : Heap) (L' : List Loc), (∀ n0 ws, Fk n0 ws locs → (a ∈ ws ∨ n0 ≤ a) → Fk n0 ws L') → Stand p l e R s m args below meth c T' L' cells slots → T'.heap = h' → Wr h h' a (Jvm.RoadKit.slotOf Z O n d) v → Fld Z h' a O n d v → Wp p e below Q F T' (mkF m q Ls st)) : Wp p e below Q F T (mkF m pc Ls (v :: .ref a :: st)) := by
  subst hq
  obtain ⟨T', h', X', e', W, st'⟩ := putF X hx hZ hown w via eT hF hE hL wi hty hn hf (g := mkF m pc Ls (v :: .ref a :: st)) rfl rfl hd
  exact Wp.st st' (k T' h' _ (fun n0 ws N g => Fk.snoc N g) X' e' W (hF.same W))
theorem putfieldN (X : Stand p l e R s m args below meth c T locs cells slots) (hx : p.tables.exec = Jvm.exec) (hZ : Z.Warmed39 s.vm) {own R0 O n d C : String} {index kk : Nat} {ty : FieldType} (hown : s.vm.findClass own = some m.cls) (w : (Cond.fieldLink own index R0 n d).before a0 Z = true) (via : Via Z R0 O n d) (eT : T.heap = h) {a : Addr} {v v' old : Value} (hF : Fld Z h a O n d old) (hE : Exa Z h a C) (hL : (Cond.lays C O n d).before a0 Z = true ∨ ((Cond.laysFinal C O n d).before a0 Z = true ∧ own = O ∧ meth.name = "<init>")) (wi : (Cond.instantiable C kk).before a0 Z = true)
    (hty : parseFieldDescriptor d = some ty) (hn : narrow ty v = v') (hf : fits ty v' = true) (hd : decode c.code pc = .ok (.putfield index, 3)) (hq : pc + 3 = q)
    (k : ∀ (T' : State) (h' : Heap) (L' : List Loc), (∀ n0 ws, Fk n0 ws locs → (a ∈ ws ∨ n0 ≤ a) → Fk n0 ws L') → Stand p l e R s m args below meth c T' L' cells slots → T'.heap = h' → Wr h h' a (Jvm.RoadKit.slotOf Z O n d) v' → Fld Z h' a O n d v' → Wp p e below Q F T' (mkF m q Ls st)) : Wp p e below Q F T (mkF m pc Ls (v :: .ref a :: st)) := by
  subst hq
  obtain ⟨T', h', X', e', W, st'⟩ := putFN X hx hZ hown w via eT hF hE hL wi hty hn hf (g := mkF m pc Ls (v :: .ref a :: st)) rfl rfl hd
  exact Wp.st st' (k T' h' _ (fun n0 ws N g => Fk.snoc N g) X' e' W (hF.same W))
theorem objinit (X : Stand p l e R s m args below meth c T locs cells slots) (hx : p.tables.exec = Jvm.exec) (hZ : Z.Warmed39 s.vm) {own : String} {idx : Nat} (hown : s.vm.findClass own = some m.cls) (w1 : (Cond.methodLink own idx Lib.objectInit).before a0 Z = true) (w2 : (Cond.instanceMethod Lib.objectInit).before a0 Z = true)
    (w3 : (Cond.code Lib.objectInit ⟨#[0xb1]⟩ 1 none).before a0 Z = true) (eT : T.heap = h) (hsize : Ls.size = c.maxLocals) {a : Addr} (hd : decode c.code pc = .ok (.invokespecial idx, 3)) (hq : pc + 3 = q) (hf : 1 ≤ R.frames) (W : Nat) (hW : (st.map fun v => v.category).sum ≤ W) (hl : W + 12 ≤ R.locals)
    (k : ∀ (T' : State), Stand p l e R s m args below meth c T' locs cells slots → T'.heap = h → Wp p e below Q F T' (mkF m q Ls st)) : Wp p e below Q F T (mkF m pc Ls (.ref a :: st)) := by
  subst hq
  obtain ⟨T', X', e', st'⟩ := initO X hx hZ hown w1 w2 w3 eT (g := mkF m pc Ls (.ref a :: st)) rfl hsize rfl hd hf (W := W) (by show 2 * 0 + _ ≤ _; omega) hl
  exact Wp.st st' (k T' X' e')
theorem castY (X : Stand p l e R s m args below meth c T locs cells slots) (hx : p.tables.exec = Jvm.exec) (hZ : Z.Warmed39 s.vm) {own K : String} {index : Nat} (hown : s.vm.findClass own = some m.cls) (w : (Cond.classLink own index K).before a0 Z = true) (eT : T.heap = h) {a : Addr} (hI : Ins Z h a K true) (hd : decode c.code pc = .ok (.checkcast index, 3)) (hq : pc + 3 = q)
    (k : ∀ (T' : State), Stand p l e R s m args below meth c T' locs cells slots → T'.heap = h → Wp p e below Q F T' (mkF m q Ls (.ref a :: st))) : Wp p e below Q F T (mkF m pc Ls (.ref a :: st)) := by
  subst hq
  obtain ⟨T', X', e', st'⟩ := Jvm.RoadKit.castY X hx hZ hown w eT hI (g := mkF m pc Ls (.ref a :: st)) rfl rfl hd
  exact Wp.st st' (k T' X' e')
theorem instY (X : Stand p l e R s m args below meth c T locs cells slots) (hx : p.tables.exec = Jvm.exec) (hZ : Z.Warmed39 s.vm) {own K : String} {index : Nat} (hown : s.vm.findClass own = some m.cls) (w : (Cond.classLink own index K).before a0 Z = true) (eT : T.heap = h) {a : Addr} (hI : Ins Z h a K true) (hd : decode c.code pc = .ok (.instanceof index, 3)) (hq : pc + 3 = q)
    (k : ∀ (T' : State), Stand p l e R s m args below meth c T' locs cells slots → T'.heap = h → Wp p e below Q F T' (mkF m q Ls (.int 1 :: st))) : Wp p e below Q F T (mkF m pc Ls (.ref a :: st)) := by
  subst hq
  obtain ⟨T', X', e', st'⟩ := Jvm.RoadKit.instY X hx hZ hown w eT hI (g := mkF m pc Ls (.ref a :: st)) rfl rfl hd
  exact Wp.st st' (k T' X' e')
theorem instNo (X : Stand p l e R s m args below meth c T locs cells slots) (hx : p.tables.exec = Jvm.exec) (hZ : Z.Warmed39 s.vm) {own K C : String} {index : Nat} (hown : s.vm.findClass own = some m.cls) (w : (Cond.classLink own index K).before a0 Z = true) (eT : T.heap = h) {a : Addr} (hE : Exa Z h a C) (hF : ∃ c t, Z.vm.findClass C = some c ∧ Z.vm.findClass K = some t ∧ Z.vm.assignable c t = false) (hd : decode c.code pc = .ok (.instanceof index, 3)) (hq : pc + 3 = q)
    (k : ∀ (T' : State), Stand p l e R s m args below meth c T' locs cells slots → T'.heap = h → Wp p e below Q F T' (mkF m q Ls (.int 0 :: st))) : Wp p e below Q F T (mkF m pc Ls (.ref a :: st)) := by
  subst hq
  obtain ⟨T', X', e', st'⟩ := Jvm.RoadKit.instNo X hx hZ hown w eT hE hF (g := mkF m pc Ls (.ref a :: st)) rfl rfl hd
  exact Wp.st st' (k T' X' e')
theorem castNull (X : Stand p l e R s m args below meth c T locs cells slots) (hx : p.tables.exec = Jvm.exec) {index : Nat} (hd : decode c.code pc = .ok (.checkcast index, 3)) (hq : pc + 3 = q) (k : Wp p e below Q F T (mkF m q Ls (.null :: st))) : Wp p e below Q F T (mkF m pc Ls (.null :: st)) := by
  subst hq
  exact Wp.st (X.checkcastNull hx (g := mkF m pc Ls (.null :: st)) rfl rfl hd) k
theorem instNull (X : Stand p l e R s m args below meth c T locs cells slots) (hx : p.tables.exec = Jvm.exec) {index : Nat} (hd : decode c.code pc = .ok (.instanceof index, 3)) (hq : pc + 3 = q) (k : Wp p e below Q F T (mkF m q Ls (.int 0 :: st))) : Wp p e below Q F T (mkF m pc Ls (.null :: st)) := by
  subst hq
  exact Wp.st (X.instanceofNull hx (g := mkF m pc Ls (.null :: st)) rfl rfl hd) k
theorem pop2L (X : Stand p l e R s m args below meth c T locs cells slots) (hx : p.tables.exec = Jvm.exec) {x : Int64} (hd : decode c.code pc = .ok (.pop2, 1)) (hq : pc + 1 = q) (k : Wp p e below Q F T (mkF m q Ls st)) : Wp p e below Q F T (mkF m pc Ls (.long x :: st)) := by
  subst hq
  refine Wp.st (fun t z => ?_) k
  jvm_step X.here [X.here.top, hx, hd, Value.category]
  exact z
theorem ldcInt (X : Stand p l e R s m args below meth c T locs cells slots) (hx : p.tables.exec = Jvm.exec) (hZ : Z.Warmed39 s.vm) {own : String} {index : Nat} {v : Int32} (hown : s.vm.findClass own = some m.cls) (w : (Cond.constant own index v).before a0 Z = true) (hd : decode c.code pc = .ok (.ldc index, 2)) (hq : pc + 2 = q) (k : Wp p e below Q F T (mkF m q Ls (.int v :: st))) : Wp p e below Q F T (mkF m pc Ls st) := by
  subst hq
  exact Wp.st (X.ldcInt hx hown (mvT hZ w) (g := mkF m pc Ls st) rfl hd) k
theorem ldc2Long (X : Stand p l e R s m args below meth c T locs cells slots) (hx : p.tables.exec = Jvm.exec) (hZ : Z.Warmed39 s.vm) {own : String} {index : Nat} {v : Int64} (hown : s.vm.findClass own = some m.cls) (w : (Cond.constantLong own index v).before a0 Z = true) (hd : decode c.code pc = .ok (.ldc2_w index, 3)) (hq : pc + 3 = q) (k : Wp p e below Q F T (mkF m q Ls (.long v :: st))) : Wp p e below Q F T (mkF m pc Ls st) := by
  subst hq
  exact Wp.st (X.ldc2Long hx hown (mvT hZ w) (g := mkF m pc Ls st) rfl hd) k
/-- getfield by an entry that the sheet says resolved -/
theorem getfieldRef (X : Stand p l e R s m args below meth c T locs cells slots) (hx : p.tables.exec = Jvm.exec) (hZ : Z.Warmed39 s.vm) {own O n d : String} {index : Nat} (hown : s.vm.findClass own = some m.cls) (w : (Cond.fieldRef own index O n d).before a0 Z = true) (eT : T.heap = h) {a : Addr} {v : Value} (hF : Fld Z h a O n d v) (hd : decode c.code pc = .ok (.getfield index, 3)) (hq : pc + 3 = q)
    (k : Wp p e below Q F T (mkF m q Ls (v :: st))) : Wp p e below Q F T (mkF m pc Ls (.ref a :: st)) := by
  subst hq
  obtain ⟨cell, cf, kc, i, f, h1, h2, h3, h4, h5, h6, h7⟩ := hF
  have hW : Z.Warmed39 T.vm := wtrans hZ X.warmed
  have w' := Cond.fieldRef_warmed39 hW w
  have hcur : (Z.setVm T.vm).vm.findClass own = some m.cls := by
    show T.vm.findClass own = _
    rw [X.warmed.alike.findClass]; exact hown
  obtain ⟨c', k', i', f', r1, r2⟩ := Cond.fieldRef_spec hcur w'
  obtain ⟨k2, r3, -⟩ := State.fieldFound?_setVm (s := Z) hW.alike h2
  cases r1.symm.trans r3
  subst eT
  refine Wp.st (fun t z => ?_) k
  jvm_step X.here [hx, hd, getfield.wp_ready (e := e) (s := T) (f := mkF m pc Ls (.ref a :: st)) X.here.top r2 h3 rfl h1 h4 h7]
  exact z
/-- arrays -/
theorem arraylength (X : Stand p l e R s m args below meth c T locs cells slots) (hx : p.tables.exec = Jvm.exec) (hZ : Z.Warmed39 s.vm) (eT : T.heap = h) {a : Addr} {kA : ClassId} {ty : FieldType} {n : Int32} {vs : List Value} {dv : Value} (hA : Arv Z h a kA ty n vs dv) (hd : decode c.code pc = .ok (.arraylength, 1)) (hq : pc + 1 = q) (k : Wp p e below Q F T (mkF m q Ls (.int n :: st))) : Wp p e below Q F T (mkF m pc Ls (.ref a :: st)) := by
  subst hq
  obtain ⟨cl, Ar, -, S, M, -, -⟩ := hA
  refine Wp.st (X.arraylength hx (by rw [eT]; exact Ar.1) (State.isArrayOf_alike hZ.alike Ar.2.1) (g := mkF m pc Ls (.ref a :: st)) rfl rfl hd) ?_
  rw [len_of S M]; exact k
theorem setCore {Z : State} {h h' : Heap} {a : Addr} {cl : Cell} {kA : ClassId} {ty : FieldType} {n j : Int32} {vs : List Value} {dv v : Value} (Ar : Arr Z h a cl ty) (q1 : cl.cls = kA) (S : cl.slots.size = n.toNatClampNeg) (M : ¬ n < 0) (H : Has cl vs dv) (G : ∀ i, i < cl.slots.size → fits ty (vs.getD i dv) = true) (hv : fits ty v = true) (W : Wr h h' a j.toNatClampNeg v) (hj : j.toNatClampNeg < vs.length) : Arv Z h' a kA ty n (vs.set j.toNatClampNeg v) dv :=
  Arv.set Ar q1 S M H G hv W _ rfl hj
theorem caload (X : Stand p l e R s m args below meth c T locs cells slots) (hx : p.tables.exec = Jvm.exec) (hZ : Z.Warmed39 s.vm) (eT : T.heap = h) {a : Addr} {kA : ClassId} {n j : Int32} {vs : List Value} {dv : Value} {v : Int32} (hA : Arv Z h a kA .char n vs dv) (hj0 : ¬ j < 0) (hjn : j < n) (hv : vs.getD j.toNatClampNeg dv = .int v) (hd : decode c.code pc = .ok (.caload, 1)) (hq : pc + 1 = q) (k : Wp p e below Q F T (mkF m q Ls ((.int v) :: st))) : Wp p e below Q F T (mkF m pc Ls (.int j :: .ref a :: st)) := by
  subst hq
  obtain ⟨cl, Ar, -, S, M, H, -⟩ := hA
  have hin := inb_of S ⟨hj0, hjn⟩
  exact Wp.st (X.caload hx (j := j) (v := .int v) (by rw [eT]; exact Ar.1) (State.isArrayOf_alike hZ.alike Ar.2.1) Ar.2.2 hin (H.at hin hv) (g := mkF m pc Ls (.int j :: .ref a :: st)) rfl rfl hd) k
theorem iaload (X : Stand p l e R s m args below meth c T locs cells slots) (hx : p.tables.exec = Jvm.exec) (hZ : Z.Warmed39 s.vm) (eT : T.heap = h) {a : Addr} {kA : ClassId} {n j : Int32} {vs : List Value} {dv : Value} {v : Int32} (hA : Arv Z h a kA .int n vs dv) (hj0 : ¬ j < 0) (hjn : j < n) (hv : vs.getD j.toNatClampNeg dv = .int v) (hd : decode c.code pc = .ok (.iaload, 1)) (hq : pc + 1 = q) (k : Wp p e below Q F T (mkF m q Ls ((.int v) :: st))) : Wp p e below Q F T (mkF m pc Ls (.int j :: .ref a :: st)) := by
  subst hq
  obtain ⟨cl, Ar, -, S, M, H, -⟩ := hA
  have hin := inb_of S ⟨hj0, hjn⟩
  exact Wp.st (X.iaload hx (j := j) (v := .int v) (by rw [eT]; exact Ar.1) (State.isArrayOf_alike hZ.alike Ar.2.1) Ar.2.2 hin (H.at hin hv) (g := mkF m pc Ls (.int j :: .ref a :: st)) rfl rfl hd) k
theorem saload (X : Stand p l e R s m args below meth c T locs cells slots) (hx : p.tables.exec = Jvm.exec) (hZ : Z.Warmed39 s.vm) (eT : T.heap = h) {a : Addr} {kA : ClassId} {n j : Int32} {vs : List Value} {dv : Value} {v : Int32} (hA : Arv Z h a kA .short n vs dv) (hj0 : ¬ j < 0) (hjn : j < n) (hv : vs.getD j.toNatClampNeg dv = .int v) (hd : decode c.code pc = .ok (.saload, 1)) (hq : pc + 1 = q) (k : Wp p e below Q F T (mkF m q Ls ((.int v) :: st))) : Wp p e below Q F T (mkF m pc Ls (.int j :: .ref a :: st)) := by
  subst hq
  obtain ⟨cl, Ar, -, S, M, H, -⟩ := hA
  have hin := inb_of S ⟨hj0, hjn⟩
  exact Wp.st (X.saload hx (j := j) (v := .int v) (by rw [eT]; exact Ar.1) (State.isArrayOf_alike hZ.alike Ar.2.1) Ar.2.2 hin (H.at hin hv) (g := mkF m pc Ls (.int j :: .ref a :: st)) rfl rfl hd) k
theorem laload (X : Stand p l e R s m args below meth c T locs cells slots) (hx : p.tables.exec = Jvm.exec) (hZ : Z.Warmed39 s.vm) (eT : T.heap = h) {a : Addr} {kA : ClassId} {n j : Int32} {vs : List Value} {dv : Value} {v : Int64} (hA : Arv Z h a kA .long n vs dv) (hj0 : ¬ j < 0) (hjn : j < n) (hv : vs.getD j.toNatClampNeg dv = .long v) (hd : decode c.code pc = .ok (.laload, 1)) (hq : pc + 1 = q) (k : Wp p e below Q F T (mkF m q Ls ((.long v) :: st))) : Wp p e below Q F T (mkF m pc Ls (.int j :: .ref a :: st)) := by
  subst hq
  obtain ⟨cl, Ar, -, S, M, H, -⟩ := hA
  have hin := inb_of S ⟨hj0, hjn⟩
  exact Wp.st (X.laload hx (j := j) (v := .long v) (by rw [eT]; exact Ar.1) (State.isArrayOf_alike hZ.alike Ar.2.1) Ar.2.2 hin (H.at hin hv) (g := mkF m pc Ls (.int j :: .ref a :: st)) rfl rfl hd) k
theorem baload (X : Stand p l e R s m args below meth c T locs cells slots) (hx : p.tables.exec = Jvm.exec) (hZ : Z.Warmed39 s.vm) (eT : T.heap = h) {a : Addr} {kA : ClassId} {n j : Int32} {vs : List Value} {dv : Value} {v : Int32} (hA : Arv Z h a kA .byte n vs dv) (hj0 : ¬ j < 0) (hjn : j < n) (hv : vs.getD j.toNatClampNeg dv = .int v) (hd : decode c.code pc = .ok (.baload, 1)) (hq : pc + 1 = q) (k : Wp p e below Q F T (mkF m q Ls ((.int v) :: st))) : Wp p e below Q F T (mkF m pc Ls (.int j :: .ref a :: st)) := by
  subst hq
  obtain ⟨cl, Ar, -, S, M, H, -⟩ := hA
  have hin := inb_of S ⟨hj0, hjn⟩
  exact Wp.st (X.baloadBytes hx (j := j) (v := .int v) (by rw [eT]; exact Ar.1) (State.isArrayOf_alike hZ.alike Ar.2.1) Ar.2.2 hin (H.at hin hv) (g := mkF m pc Ls (.int j :: .ref a :: st)) rfl rfl hd) k
theorem aaload (X : Stand p l e R s m args below meth c T locs cells slots) (hx : p.tables.exec = Jvm.exec) (hZ : Z.Warmed39 s.vm) (eT : T.heap = h) {a : Addr} {kA : ClassId} {n j : Int32} {vs : List Value} {dv : Value} {v : Value} {C : FieldType} (hA : Arv Z h a kA C n vs dv) (hj0 : ¬ j < 0) (hjn : j < n) (hv : vs.getD j.toNatClampNeg dv = v) (hC : C.isReference = true) (hd : decode c.code pc = .ok (.aaload, 1)) (hq : pc + 1 = q) (k : Wp p e below Q F T (mkF m q Ls ((v) :: st))) : Wp p e below Q F T (mkF m pc Ls (.int j :: .ref a :: st)) := by
  subst hq
  obtain ⟨cl, Ar, -, S, M, H, -⟩ := hA
  have hin := inb_of S ⟨hj0, hjn⟩
  exact Wp.st (X.aaload hx (j := j) (v := v) (by rw [eT]; exact Ar.1) (State.isArrayOf_alike hZ.alike Ar.2.1) hC Ar.2.2 hin (H.at hin hv) (g := mkF m pc Ls (.int j :: .ref a :: st)) rfl rfl hd) k
theorem castore (X : Stand p l e R s m args below meth c T locs cells slots) (hx : p.tables.exec = Jvm.exec) (hZ : Z.Warmed39 s.vm) (eT : T.heap = h) {a : Addr} {kA : ClassId} {n j : Int32} {vs : List Value} {dv : Value} {v : Int32} (hA : Arv Z h a kA .char n vs dv) (hj0 : ¬ j < 0) (hjn : j < n) (i : Nat) (hi : j.toNatClampNeg = i) (hlen : i < vs.length) {w : Int32} (hw : (nar .char v) = w) (hd : decode c.code pc = .ok (.castore, 1)) (hq : pc + 1 = q)
    (k : ∀ (T' : State) (h' : Heap) (L' : List Loc), (∀ n0 ws, Fk n0 ws locs → (a ∈ ws ∨ n0 ≤ a) → Fk n0 ws L') → Stand p l e R s m args below meth c T' L' cells slots → T'.heap = h' → Wr h h' a i (.int w) → Arv Z h' a kA .char n (vs.set i (.int w)) dv → Wp p e below Q F T' (mkF m q Ls st)) : Wp p e below Q F T (mkF m pc Ls ((.int v) :: .int j :: .ref a :: st)) := by
  subst hq hi hw
  obtain ⟨cl, Ar, q1, S, M, H, G⟩ := hA
  obtain ⟨T', h', X', e', W, st'⟩ := stC X hx hZ eT Ar (j := j) (inb_of S ⟨hj0, hjn⟩) (g := mkF m pc Ls ((.int v) :: .int j :: .ref a :: st)) rfl rfl hd
  exact Wp.st st' (k T' h' _ (fun n0 ws N g => Fk.snoc N g) X' e' W (setCore Ar q1 S M H G (fits_nar_char _) W hlen))
theorem iastore (X : Stand p l e R s m args below meth c T locs cells slots) (hx : p.tables.exec = Jvm.exec) (hZ : Z.Warmed39 s.vm) (eT : T.heap = h) {a : Addr} {kA : ClassId} {n j : Int32} {vs : List Value} {dv : Value} {v : Int32} (hA : Arv Z h a kA .int n vs dv) (hj0 : ¬ j < 0) (hjn : j < n) (i : Nat) (hi : j.toNatClampNeg = i) (hlen : i < vs.length) {w : Int32} (hw : (v) = w) (hd : decode c.code pc = .ok (.iastore, 1)) (hq : pc + 1 = q)
    (k : ∀ (T' : State) (h' : Heap) (L' : List Loc), (∀ n0 ws, Fk n0 ws locs → (a ∈ ws ∨ n0 ≤ a) → Fk n0 ws L') → Stand p l e R s m args below meth c T' L' cells slots → T'.heap = h' → Wr h h' a i (.int w) → Arv Z h' a kA .int n (vs.set i (.int w)) dv → Wp p e below Q F T' (mkF m q Ls st)) : Wp p e below Q F T (mkF m pc Ls ((.int v) :: .int j :: .ref a :: st)) := by
  subst hq hi hw
  obtain ⟨cl, Ar, q1, S, M, H, G⟩ := hA
  obtain ⟨T', h', X', e', W, st'⟩ := stI X hx hZ eT Ar (j := j) (inb_of S ⟨hj0, hjn⟩) (g := mkF m pc Ls ((.int v) :: .int j :: .ref a :: st)) rfl rfl hd
  exact Wp.st st' (k T' h' _ (fun n0 ws N g => Fk.snoc N g) X' e' W (setCore Ar q1 S M H G rfl W hlen))
theorem bastore (X : Stand p l e R s m args below meth c T locs cells slots) (hx : p.tables.exec = Jvm.exec) (hZ : Z.Warmed39 s.vm) (eT : T.heap = h) {a : Addr} {kA : ClassId} {n j : Int32} {vs : List Value} {dv : Value} {v : Int32} (hA : Arv Z h a kA .byte n vs dv) (hj0 : ¬ j < 0) (hjn : j < n) (i : Nat) (hi : j.toNatClampNeg = i) (hlen : i < vs.length) {w : Int32} (hw : (nar .byte v) = w) (hd : decode c.code pc = .ok (.bastore, 1)) (hq : pc + 1 = q)
    (k : ∀ (T' : State) (h' : Heap) (L' : List Loc), (∀ n0 ws, Fk n0 ws locs → (a ∈ ws ∨ n0 ≤ a) → Fk n0 ws L') → Stand p l e R s m args below meth c T' L' cells slots → T'.heap = h' → Wr h h' a i (.int w) → Arv Z h' a kA .byte n (vs.set i (.int w)) dv → Wp p e below Q F T' (mkF m q Ls st)) : Wp p e below Q F T (mkF m pc Ls ((.int v) :: .int j :: .ref a :: st)) := by
  subst hq hi hw
  obtain ⟨cl, Ar, q1, S, M, H, G⟩ := hA
  obtain ⟨T', h', X', e', W, st'⟩ := stB X hx hZ eT Ar (j := j) (inb_of S ⟨hj0, hjn⟩) (g := mkF m pc Ls ((.int v) :: .int j :: .ref a :: st)) rfl rfl hd
  exact Wp.st st' (k T' h' _ (fun n0 ws N g => Fk.snoc N g) X' e' W (setCore Ar q1 S M H G (fits_nar_byte _) W hlen))
theorem lastore (X : Stand p l e R s m args below meth c T locs cells slots) (hx : p.tables.exec = Jvm.exec) (hZ : Z.Warmed39 s.vm) (eT : T.heap = h) {a : Addr} {kA : ClassId} {n j : Int32} {vs : List Value} {dv : Value} {v : Int64} (hA : Arv Z h a kA .long n vs dv) (hj0 : ¬ j < 0) (hjn : j < n) (i : Nat) (hi : j.toNatClampNeg = i) (hlen : i < vs.length) {w : Int64} (hw : (v) = w) (hd : decode c.code pc = .ok (.lastore, 1)) (hq : pc + 1 = q)
    (k : ∀ (T' : State) (h' : Heap) (L' : List Loc), (∀ n0 ws, Fk n0 ws locs → (a ∈ ws ∨ n0 ≤ a) → Fk n0 ws L') → Stand p l e R s m args below meth c T' L' cells slots → T'.heap = h' → Wr h h' a i (.long w) → Arv Z h' a kA .long n (vs.set i (.long w)) dv → Wp p e below Q F T' (mkF m q Ls st)) : Wp p e below Q F T (mkF m pc Ls ((.long v) :: .int j :: .ref a :: st)) := by
  subst hq hi hw
  obtain ⟨cl, Ar, q1, S, M, H, G⟩ := hA
  obtain ⟨T', h', X', e', W, st'⟩ := stJ X hx hZ eT Ar (j := j) (inb_of S ⟨hj0, hjn⟩) (g := mkF m pc Ls ((.long v) :: .int j :: .ref a :: st)) rfl rfl hd
  exact Wp.st st' (k T' h' _ (fun n0 ws N g => Fk.snoc N g) X' e' W (setCore Ar q1 S M H G rfl W hlen))
theorem aastore (X : Stand p l e R s m args below meth c T locs cells slots) (hx : p.tables.exec = Jvm.exec) (hZ : Z.Warmed39 s.vm) (eT : T.heap = h) {a : Addr} {kA : ClassId} {n j : Int32} {vs : List Value} {dv : Value} {v : Value} {ty : FieldType} (hA : Arv Z h a kA ty n vs dv) (hty : ty.isReference = true) (hf : fits ty v = true) (hS : Sto Z h a v) (hj0 : ¬ j < 0) (hjn : j < n) (i : Nat) (hi : j.toNatClampNeg = i) (hlen : i < vs.length) (hd : decode c.code pc = .ok (.aastore, 1)) (hq : pc + 1 = q)
    (k : ∀ (T' : State) (h' : Heap) (L' : List Loc), (∀ n0 ws, Fk n0 ws locs → (a ∈ ws ∨ n0 ≤ a) → Fk n0 ws L') → Stand p l e R s m args below meth c T' L' cells slots → T'.heap = h' → Wr h h' a i v → Arv Z h' a kA ty n (vs.set i v) dv → Wp p e below Q F T' (mkF m q Ls st)) : Wp p e below Q F T (mkF m pc Ls (v :: .int j :: .ref a :: st)) := by
  subst hq hi
  obtain ⟨cl, Ar, q1, S, M, H, G⟩ := hA
  obtain ⟨T', h', X', e', W, st'⟩ := stR X hx hZ eT Ar (j := j) (inb_of S ⟨hj0, hjn⟩) hty hS (g := mkF m pc Ls (v :: .int j :: .ref a :: st)) rfl rfl hd
  exact Wp.st st' (k T' h' _ (fun n0 ws N g => Fk.snoc N g) X' e' W (setCore Ar q1 S M H G hf W hlen))
/-- calls: what comes back, in the continuation -/
abbrev Go (p : Program) (l : Launch) (e : Env) (R : Room) (s : State) (m : MethodId) (args : Array Value) (below : List Frame) (meth : Method) (c : Code) (locs : List Loc) (cells slots : Nat) (Q : Option Value → State → List Loc → Prop) (F : Outcome → State → List Loc → Prop) (q : Nat) (Ls : Array Slot) (rest : List Value) (kc ks : Nat) (Qc : Option Value → Heap → List Loc → Prop) : Prop :=
  ∀ (T' : State) (h' : Heap) (v : Option Value) (L : List Loc), Stand p l e R s m args below meth c T' (locs ++ L) (cells + kc) (slots + ks) → T'.heap = h' → Qc v h' L → Wp p e below Q F T' (mkF m q Ls (v.toList ++ rest))
theorem callS (X : Stand p l e R s m args below meth c T locs cells slots) (hx : p.tables.exec = Jvm.exec) (hZ : Z.Warmed39 s.vm) {own : String} {index : Nat} {y : MethodName} {bytes : ByteArray} {maxL : Nat} {ret : Option FieldType} (hown : s.vm.findClass own = some m.cls) (w1 : (Cond.methodLink own index y).before a0 Z = true) (w2 : (Cond.static y).before a0 Z = true) (w3 : (Cond.initialized y.cls).before a0 Z = true) (w4 : (Cond.code y bytes maxL ret).before a0 Z = true)
    (hy : y.cls ≠ "java/lang/invoke/MethodHandle" ∧ y.cls ≠ "java/lang/invoke/VarHandle") {W : Nat} {as' : List Value} {kc ks : Nat} {Qc : Option Value → Heap → List Loc → Prop} (hK : Pay l R p e below s args y 3 W as'.toArray h kc ks Qc) (eT : T.heap = h) (hsize : Ls.size = c.maxLocals) {rest : List Value} (hlen : ∀ sig, parseMethodDescriptor y.desc = some sig → as'.length = sig.parameters.length)
    (hstack : st = as'.reverse ++ rest) (hW : (rest.map fun v => v.category).sum ≤ W) (hd : decode c.code pc = .ok (.invokestatic index, 3)) (hq : pc + 3 = q) (hc : cells + kc ≤ R.cells) (hs : slots + ks ≤ R.slots)
    (k : Go p l e R s m args below meth c locs cells slots Q F q Ls rest kc ks Qc) : Wp p e below Q F T (mkF m pc Ls st) := by
  subst hq
  obtain ⟨v, vm₁, ⟨T', L', k', n'⟩, -, X', ⟨L, hQ, r1, r2, r3⟩, st'⟩ := Jvm.LawKit.callS X hx (y := y) hown (mvT hZ w1) (mvT hZ w2) (mvT hZ w3) (mvT hZ w4) hy hK (g := mkF m pc Ls st) rfl hsize hlen hstack (by show 2 * 0 + _ ≤ _; omega) hd (fun _ _ => ⟨rfl, eT, hc, hs⟩)
  dsimp only [Pt.U, Pt.locs, Pt.cells, Pt.slots] at X' r1 r2 r3 st' hQ
  subst r1 r2 r3
  exact Wp.st st' (k T' _ v L X' rfl hQ)
theorem callI (X : Stand p l e R s m args below meth c T locs cells slots) (hx : p.tables.exec = Jvm.exec) (hZ : Z.Warmed39 s.vm) {own : String} {index : Nat} {y : MethodName} {bytes : ByteArray} {maxL : Nat} (hy1 : y.name = "<init>") (hown : s.vm.findClass own = some m.cls) (w1 : (Cond.methodLink own index y).before a0 Z = true) (w2 : (Cond.instanceMethod y).before a0 Z = true) (w4 : (Cond.code y bytes maxL none).before a0 Z = true)
    (hy : y.cls ≠ "java/lang/invoke/MethodHandle" ∧ y.cls ≠ "java/lang/invoke/VarHandle") {W : Nat} {a : Addr} {as' : List Value} {kc ks : Nat} {Qc : Option Value → Heap → List Loc → Prop} (hK : Pay l R p e below s args y 3 W (.ref a :: as').toArray h kc ks Qc) (eT : T.heap = h) (hsize : Ls.size = c.maxLocals) {rest : List Value} (hlen : ∀ sig, parseMethodDescriptor y.desc = some sig → as'.length = sig.parameters.length)
    (hstack : st = as'.reverse ++ .ref a :: rest) (hW : (rest.map fun v => v.category).sum ≤ W) (hd : decode c.code pc = .ok (.invokespecial index, 3)) (hq : pc + 3 = q) (hc : cells + kc ≤ R.cells) (hs : slots + ks ≤ R.slots)
    (k : Go p l e R s m args below meth c locs cells slots Q F q Ls rest kc ks Qc) : Wp p e below Q F T (mkF m pc Ls st) := by
  subst hq
  obtain ⟨v, vm₁, ⟨T', L', k', n'⟩, -, X', ⟨L, hQ, r1, r2, r3⟩, st'⟩ := X.specialBack hx (y := y) hy1 hown (mvT hZ w1) (mvT hZ w2) (mvT hZ w4) hy hK (g := mkF m pc Ls st) rfl hsize (Steps.refl _) hlen hstack (by show 2 * 0 + _ ≤ _; omega) hd (fun _ _ => ⟨rfl, eT, hc, hs⟩)
  dsimp only [Pt.U, Pt.locs, Pt.cells, Pt.slots] at X' r1 r2 r3 st' hQ
  subst r1 r2 r3
  exact Wp.tr st' (k T' _ v L X' rfl hQ)
theorem callV (X : Stand p l e R s m args below meth c T locs cells slots) (hx : p.tables.exec = Jvm.exec) (hZ : Z.Warmed39 s.vm) {own C : String} {index : Nat} {y z : MethodName} (hown : s.vm.findClass own = some m.cls) (w1 : (Cond.methodLink own index y).before a0 Z = true) (w2 : (Cond.declares y).before a0 Z = true) (hnf : NotFace s y) (w3 : (Cond.selects C y z).before a0 Z = true) (w4 : (Cond.instanceMethod z).before a0 Z = true)
    (hy : y.cls ≠ "java/lang/invoke/MethodHandle" ∧ y.cls ≠ "java/lang/invoke/VarHandle") {W : Nat} {a : Addr} {as' : List Value} {kc ks : Nat} {Qc : Option Value → Heap → List Loc → Prop} (hK : Pay l R p e below s args z 3 W (.ref a :: as').toArray h kc ks Qc) (eT : T.heap = h) (hE : Exa Z h a C) (hsize : Ls.size = c.maxLocals) {rest : List Value} (hlen : ∀ sig, parseMethodDescriptor y.desc = some sig → as'.length = sig.parameters.length)
    (hstack : st = as'.reverse ++ .ref a :: rest) (hW : (rest.map fun v => v.category).sum ≤ W) (hd : decode c.code pc = .ok (.invokevirtual index, 3)) (hq : pc + 3 = q) (hc : cells + kc ≤ R.cells) (hs : slots + ks ≤ R.slots)
    (k : Go p l e R s m args below meth c locs cells slots Q F q Ls rest kc ks Qc) : Wp p e below Q F T (mkF m pc Ls st) := by
  subst hq
  obtain ⟨cq, kq, qa, qb, qc⟩ := isOf hZ eT hE
  obtain ⟨v, vm₁, ⟨T', L', k', n'⟩, -, X', ⟨L, hQ, r1, r2, r3⟩, st'⟩ := X.virtualBack hx (y := y) (z := z) hown (mvT hZ w1) (mvT hZ w2) hnf (mvT hZ w3) (mvT hZ w4) hy hK qa qc (g := mkF m pc Ls st) rfl hsize (Steps.refl _) hlen hstack (by show 2 * 0 + _ ≤ _; omega) hd (fun _ _ => ⟨rfl, eT, hc, hs⟩)
  dsimp only [Pt.U, Pt.locs, Pt.cells, Pt.slots] at X' r1 r2 r3 st' hQ
  subst r1 r2 r3
  exact Wp.tr st' (k T' _ v L X' rfl hQ)
theorem callP (X : Stand p l e R s m args below meth c T locs cells slots) (hx : p.tables.exec = Jvm.exec) (hZ : Z.Warmed39 s.vm) {own C : String} {index : Nat} {y : MethodName} {bytes : ByteArray} {maxL : Nat} {ret : Option FieldType} (hown : s.vm.findClass own = some m.cls) (w1 : (Cond.methodLink own index y).before a0 Z = true) (w2 : (Cond.instanceMethod y).before a0 Z = true) (w3 : (Cond.selects y.cls y y).before a0 Z = true) (w5 : (Cond.privateMethod y).before a0 Z = true) (w4 : (Cond.code y bytes maxL ret).before a0 Z = true)
    (hy : y.cls ≠ "java/lang/invoke/MethodHandle" ∧ y.cls ≠ "java/lang/invoke/VarHandle") {W : Nat} {a : Addr} {as' : List Value} {kc ks : Nat} {Qc : Option Value → Heap → List Loc → Prop} (hK : Pay l R p e below s args y 3 W (.ref a :: as').toArray h kc ks Qc) (eT : T.heap = h) (hE : Exa Z h a C) (hsize : Ls.size = c.maxLocals) {rest : List Value} (hlen : ∀ sig, parseMethodDescriptor y.desc = some sig → as'.length = sig.parameters.length)
    (hstack : st = as'.reverse ++ .ref a :: rest) (hW : (rest.map fun v => v.category).sum ≤ W) (hd : decode c.code pc = .ok (.invokevirtual index, 3)) (hq : pc + 3 = q) (hc : cells + kc ≤ R.cells) (hs : slots + ks ≤ R.slots)
    (k : Go p l e R s m args below meth c locs cells slots Q F q Ls rest kc ks Qc) : Wp p e below Q F T (mkF m pc Ls st) := by
  subst hq
  obtain ⟨cq, q1, q2⟩ := hE.cell
  obtain ⟨v, vm₁, ⟨T', L', k', n'⟩, -, X', ⟨L, hQ, r1, r2, r3⟩, st'⟩ := X.privateBack hx (y := y) hown (mvT hZ w1) (mvT hZ w2) (mvT hZ w3) (Cond.privateMethod_at (mvP hZ w5 (args := #[]))) (mvT hZ w4) hy hK (g := mkF m pc Ls st) rfl hsize (Steps.refl _) (a := a) (by rw [eT]; exact q1) q2 hlen hstack (by show 2 * 0 + _ ≤ _; omega) hd (fun _ _ => ⟨rfl, eT, hc, hs⟩)
  dsimp only [Pt.U, Pt.locs, Pt.cells, Pt.slots] at X' r1 r2 r3 st' hQ
  subst r1 r2 r3
  exact Wp.tr st' (k T' _ v L X' rfl hQ)
theorem callF (X : Stand p l e R s m args below meth c T locs cells slots) (hx : p.tables.exec = Jvm.exec) (hZ : Z.Warmed39 s.vm) {own C : String} {index count : Nat} {y z : MethodName} (hown : s.vm.findClass own = some m.cls) (w1 : (Cond.methodLink own index y).before a0 Z = true) (w2 : (Cond.declares y).before a0 Z = true) (wf : (Cond.interfaceMethod y.cls y.cls y.name y.desc).before args s = true) (w3 : (Cond.selects C y z).before a0 Z = true) (w4 : (Cond.instanceMethod z).before a0 Z = true) (w5 : (Cond.publicMethod z).before a0 Z = true) (w6 : (Cond.unhidden C y.name y.desc).before a0 Z = true) (w7 : (Cond.castable C y.cls).before a0 Z = true)
    (hy : y.cls ≠ "java/lang/invoke/MethodHandle" ∧ y.cls ≠ "java/lang/invoke/VarHandle") {W : Nat} {a : Addr} {as' : List Value} {kc ks : Nat} {Qc : Option Value → Heap → List Loc → Prop} (hK : Pay l R p e below s args z 5 W (.ref a :: as').toArray h kc ks Qc) (eT : T.heap = h) (hE : Exa Z h a C) (hsize : Ls.size = c.maxLocals) {rest : List Value} (hlen : ∀ sig, parseMethodDescriptor y.desc = some sig → as'.length = sig.parameters.length)
    (hstack : st = as'.reverse ++ .ref a :: rest) (hW : (rest.map fun v => v.category).sum ≤ W) (hd : decode c.code pc = .ok (.invokeinterface index count, 5)) (hq : pc + 5 = q) (hc : cells + kc ≤ R.cells) (hs : slots + ks ≤ R.slots)
    (k : Go p l e R s m args below meth c locs cells slots Q F q Ls rest kc ks Qc) : Wp p e below Q F T (mkF m pc Ls st) := by
  subst hq
  obtain ⟨cq, kq, qa, qb, qc⟩ := isOf hZ eT hE
  obtain ⟨v, vm₁, ⟨T', L', k', n'⟩, -, X', ⟨L, hQ, r1, r2, r3⟩, st'⟩ := X.interfaceBack hx (xi := y) (y := z) hown (mvT hZ w1) (mvT hZ w2) wf (mvT hZ w3) (mvT hZ w4) (mvT hZ w5) (mvT hZ w6) (mvT hZ w7) hy hK qa qb qc (g := mkF m pc Ls st) rfl hsize (Steps.refl _) hlen hstack (by show 2 * 0 + _ ≤ _; omega) hd (fun _ _ => ⟨rfl, eT, hc, hs⟩)
  dsimp only [Pt.U, Pt.locs, Pt.cells, Pt.slots] at X' r1 r2 r3 st' hQ
  subst r1 r2 r3
  exact Wp.tr st' (k T' _ v L X' rfl hQ)

/-- ends, narrow: the body's own frame at the leave -/
theorem retI' (X : Stand p l e R s m args below meth c T locs cells slots) (hx : p.tables.exec = Jvm.exec) (hlk : meth.locks = false) (hr : meth.sig.returnType = some .int) {z : Int32} (hd : decode c.code pc = .ok (.ireturn, 1)) {C S : Nat} (hC : cells ≤ C) (hS : slots ≤ S) {Qc : Option Value → Heap → List Loc → Prop} (eT : T.heap = h) (k : Qc (some (.int z)) h locs) : Wp p e below (fun v t L => Qc v t.heap L) (NF s C S) T (mkF m pc Ls (.int z :: st)) := by
  obtain ⟨fs, h1, h2, h3, hW, hs⟩ := X.leave (v := some (.int z)) (fun h => by rw [hr] at h; cases h)
  refine ⟨_, _, _, ?_, h2, h3, (by subst eT; exact k), ⟨_, rfl⟩, hW, hs.mono hC hS⟩
  exact retOut X hx hr rfl (Or.inl ⟨rfl, Or.inl rfl, _, rfl⟩) hd h1
theorem retZ' (X : Stand p l e R s m args below meth c T locs cells slots) (hx : p.tables.exec = Jvm.exec) (hlk : meth.locks = false) {t : FieldType} (hr : meth.sig.returnType = some t) (ht : t = .boolean ∨ t = .byte ∨ t = .char ∨ t = .short) {z : Int32} (hd : decode c.code pc = .ok (.ireturn, 1)) {C S : Nat} (hC : cells ≤ C) (hS : slots ≤ S) {Qc : Option Value → Heap → List Loc → Prop} (eT : T.heap = h) (k : Qc (some (.int (nar t z))) h locs) : Wp p e below (fun v t L => Qc v t.heap L) (NF s C S) T (mkF m pc Ls (.int z :: st)) := by
  obtain ⟨fs, h1, h2, h3, hW, hs⟩ := X.leave (v := some (.int (nar t z))) (fun h => by rw [hr] at h; cases h)
  refine ⟨_, _, _, ?_, h2, h3, (by subst eT; exact k), ⟨_, rfl⟩, hW, hs.mono hC hS⟩
  exact retN X hx (t := t) hr ht hd h1
theorem retJ' (X : Stand p l e R s m args below meth c T locs cells slots) (hx : p.tables.exec = Jvm.exec) (hlk : meth.locks = false) (hr : meth.sig.returnType = some .long) {z : Int64} (hd : decode c.code pc = .ok (.lreturn, 1)) {C S : Nat} (hC : cells ≤ C) (hS : slots ≤ S) {Qc : Option Value → Heap → List Loc → Prop} (eT : T.heap = h) (k : Qc (some (.long z)) h locs) : Wp p e below (fun v t L => Qc v t.heap L) (NF s C S) T (mkF m pc Ls (.long z :: st)) := by
  obtain ⟨fs, h1, h2, h3, hW, hs⟩ := X.leave (v := some (.long z)) (fun h => by rw [hr] at h; cases h)
  refine ⟨_, _, _, ?_, h2, h3, (by subst eT; exact k), ⟨_, rfl⟩, hW, hs.mono hC hS⟩
  exact retOut X hx hr rfl (Or.inr (Or.inl ⟨rfl, rfl, _, rfl⟩)) hd h1
theorem retA' (X : Stand p l e R s m args below meth c T locs cells slots) (hx : p.tables.exec = Jvm.exec) (hlk : meth.locks = false) {t : FieldType} (hr : meth.sig.returnType = some t) (ht : t.isReference = true) {w : Value} (hw : w.isRef = true) (hd : decode c.code pc = .ok (.areturn, 1)) {C S : Nat} (hC : cells ≤ C) (hS : slots ≤ S) {Qc : Option Value → Heap → List Loc → Prop} (eT : T.heap = h) (k : Qc (some w) h locs) : Wp p e below (fun v t L => Qc v t.heap L) (NF s C S) T (mkF m pc Ls (w :: st)) := by
  obtain ⟨fs, h1, h2, h3, hW, hs⟩ := X.leave (v := some w) (fun h => by rw [hr] at h; cases h)
  refine ⟨_, _, _, ?_, h2, h3, (by subst eT; exact k), ⟨_, rfl⟩, hW, hs.mono hC hS⟩
  exact retOut X hx hr (narR ht) (Or.inr (Or.inr (Or.inr (Or.inr ⟨rfl, ht, hw⟩)))) hd h1
theorem ret0' (X : Stand p l e R s m args below meth c T locs cells slots) (hx : p.tables.exec = Jvm.exec) (hlk : meth.locks = false) (hr : meth.sig.returnType = none) (hd : decode c.code pc = .ok (.return_, 1)) {C S : Nat} (hC : cells ≤ C) (hS : slots ≤ S) {Qc : Option Value → Heap → List Loc → Prop} (eT : T.heap = h) (k : Qc none h locs) : Wp p e below (fun v t L => Qc v t.heap L) (NF s C S) T (mkF m pc Ls []) := by
  obtain ⟨fs, h1, h2, h3, hW, hs⟩ := X.leave (v := none) (fun _ => rfl)
  refine ⟨_, _, _, ?_, h2, h3, (by subst eT; exact k), ⟨_, rfl⟩, hW, hs.mono hC hS⟩
  exact X.returnOut hx hr hd h1
end B
end Wk
end Jvm.OwnW
namespace Jvm.OwnW
open Sem ClassFile Op Lib Jvm.Stand Jvm.Free Jvm.LawKit Jvm.RoadKit
section C
variable {p : Program} {l : Launch} {e : Env} {R : Room} {s : State} {m : MethodId} {args : Array Value} {below : List Frame} {meth : Method} {c : Code} {T : State} {locs : List Loc} {cells slots : Nat} {Z : State} {a0 : Array Value} {h : Heap} {vm0 : Vm}
/-- the constant's entry is booked in the tables vm -/
def LitV (Z : State) (vm : Vm) (own : String) (i : Nat) (a : Addr) : Prop := Lit (Z.setVm vm) own i a
theorem LitV.warm {vm1 : Vm} {own : String} {i : Nat} {a : Addr} (L : LitV Z vm0 own i a) (hW : (s.setVm vm0).Warmed39 vm1) : LitV Z vm1 own i a := by
  have L' : Lit (s.setVm vm0) own i a := L
  have q := Lit.stays L' hW
  exact q
theorem ibWarm {vm1 : Vm} {Ts : List String} (I : IB Z vm0 Ts) (hW : (s.setVm vm0).WarmedH vm1) : IB Z vm1 Ts := by
  obtain ⟨more, e, q⟩ := I
  exact ⟨more, hW.interned_eq.trans e, q⟩
theorem ibMono {Ts Ts' : List String} (I : IB Z vm0 Ts) (q : ∀ t ∈ Ts, t ∈ Ts') : IB Z vm0 Ts' := by
  obtain ⟨more, e, r⟩ := I
  exact ⟨more, e, fun x hx => by obtain ⟨t, h1, h2⟩ := r x hx; exact ⟨t, q t h1, h2⟩⟩
theorem sinceMono {vm1 : Vm} {n n' : Nat} (h : s.Since vm1 n) (q : n ≤ n') : s.Since vm1 n' := ⟨h.1, fun j p a b => ⟨(h.2 j p a b).1, Nat.lt_of_lt_of_le (h.2 j p a b).2 q⟩⟩
/-- a body's contract: wide (it may load String constants) -/
abbrev CtrW (l : Launch) (Z : State) (y : MethodName) (bytes : ByteArray) (maxL : Nat) (ret : Option FieldType) (ws : List Jvm.Cond) (rm : Room) (as' : Array Value) (h0 : Heap) (P : Vm → Prop) (Q : Option Value → Vm → Heap → List Loc → Prop) : Prop :=
  MetFree l y (head1 (Jvm.Cond.code y bytes maxL ret :: ws) rm) (fun a U => a = as' ∧ Z.Warmed39 U.vm ∧ U.heap = h0 ∧ P U.vm) (fun _ _ _ _ _ => True) (fun _ U o U' => ∃ v L, o = .returned v ∧ Q v U'.vm U'.heap L ∧ ReturnedEndW U o U' L rm.cells rm.slots)
theorem CtrW.intro {y : MethodName} {bytes : ByteArray} {maxL : Nat} {ret : Option FieldType} {ws : List Jvm.Cond} {rm : Room} {as' : Array Value} {h0 : Heap} {P : Vm → Prop} {Q : Option Value → Vm → Heap → List Loc → Prop} {Ls : MethodId → Array Slot} (hn : plainFor y = true) (hef : ∀ m, entryFrame m as' maxL = mkF m 0 (Ls m) [])
    (body : ∀ (p : Program) (e : Env) (s : State) (m : MethodId) (below : List Frame) (meth : Method) (c : Code) (s₁ : State) (vm : Vm), p.tables.exec = Jvm.exec → c.code = bytes → c.maxLocals = maxL → meth.sig.returnType = ret → meth.locks = false → Z.Warmed39 vm → vm.findClass y.cls = some m.cls → meth.name = y.name → s.heap = h0 → Stand p l e rm (s.setVm vm) m as' below meth c s₁ [] 0 0 → s₁.heap = h0 → s.Since vm h0.size → P vm →
      Wp p e below (fun v t L => Q v t.vm t.heap L) (WF s rm.cells rm.slots) s₁ (mkF m 0 (Ls m) [])) : CtrW l Z y bytes maxL ret ws rm as' h0 P Q := by
  refine MetFree.of_bodySF hn hisR ?_
  intro p e s m args below meth c s₁ Bd hml0 hP hK
  obtain ⟨rfl, hZ, hh, hPv⟩ := hP
  obtain ⟨t, v, L, h1, h2, h3, h4, h5⟩ := body p e s m below meth c s₁ s.vm Bd.exec Bd.bytes hml0 Bd.returns Bd.notSynchronized hZ (findClass_of_methodNamed Bd.named) (name_of_methodNamed Bd.named Bd.method).1 hh (Stand.of_body Bd) (by rw [← hh, Bd.state]; rfl) ((State.WarmedH.refl s).since _) hPv
  exact ⟨t, _, castTop (hef m) h1, h2, h3, v, L, rfl, h4, h5⟩
abbrev PayW (l : Launch) (R : Room) (p : Program) (e : Env) (below : List Frame) (s : State) (args : Array Value) (y : MethodName) (len W : Nat) (as' : Array Value) (h : Heap) (kc ks : Nat) (Q : Option Value → Vm → Heap → List Loc → Prop) : Prop :=
  BackS l R p e below s args y len W (fun A a => a = as' ∧ A.U.heap = h ∧ A.cells + kc ≤ R.cells ∧ A.slots + ks ≤ R.slots) (fun A _ v B => ∃ L, Q v B.U.vm B.U.heap L ∧ B.locs = A.locs ++ L ∧ B.cells = A.cells + kc ∧ B.slots = A.slots + ks)
theorem payW {y : MethodName} {bytes : ByteArray} {maxL : Nat} {ret : Option FieldType} {rm : Room} {len W : Nat} {as' : Array Value} {P : Vm → Prop} {Q : Option Value → Vm → Heap → List Loc → Prop}
    (hM : CtrW l Z y bytes maxL ret [] rm as' h P Q) (hZ : Z.Warmed39 s.vm) (wc : (Cond.code y bytes maxL ret).before a0 Z = true) (wz : (Cond.initialized y.cls).before a0 Z = true) (hf : rm.frames + 1 ≤ R.frames) (hl : W + (maxL + 11) + rm.locals ≤ R.locals) (hP : ∀ vm, s.WarmedH vm → P vm) :
    PayW l R p e below s args y len W as' h rm.cells rm.slots Q :=
  BackS.of_freeW (bytes := bytes) (maxL := maxL) (ret := ret) (E := fun _ _ o t L k n => k = rm.cells ∧ n = rm.slots ∧ ∃ v, o = .returned v ∧ Q v t.vm t.heap L) hM hf hl
    (fun m meth c A a Y hp => have hU : Z.Warmed39 A.U.vm := wtrans hZ Y.warmed
      ⟨by show (Cond.and _ .tt).before a A.U = true; rw [Cond.before_and, mv hU wc]; rfl, mv hU wc, mv hU wz, hp.2.2.1, hp.2.2.2⟩)
    (fun m meth c A a g mk Y hp => ⟨hp.1, wtrans hZ Y.warmed, hp.2.1, hP _ Y.warmed⟩) (fun _ _ _ _ _ _ _ _ _ => trivial)
    (fun _ _ _ _ ⟨v, L, h1, h2, h3⟩ => ⟨L, _, _, h3, rfl, rfl, v, h1, h2⟩)
    (fun m meth c A a g mk v t L k n Y hp _ _ ⟨e1, e2, v', e3, e4⟩ => by cases e3; subst e1 e2; exact ⟨L, e4, rfl, rfl, rfl⟩)
end C
namespace Wk
section D
variable {p : Program} {l : Launch} {e : Env} {R : Room} {s : State} {m : MethodId} {args : Array Value} {below : List Frame} {meth : Method} {c : Code} {T : State} {locs : List Loc} {cells slots : Nat} {Z : State} {a0 : Array Value} {h : Heap} {Q : Option Value → State → List Loc → Prop} {F : Outcome → State → List Loc → Prop} {pc q : Nat} {Ls : Array Slot} {st : List Value} {vm0 : Vm}
/-- behind a call that may have interned -/
abbrev GoW (p : Program) (l : Launch) (e : Env) (R : Room) (s : State) (m : MethodId) (args : Array Value) (below : List Frame) (meth : Method) (c : Code) (locs : List Loc) (cells slots : Nat) (Q : Option Value → State → List Loc → Prop) (F : Outcome → State → List Loc → Prop) (q : Nat) (Ls : Array Slot) (rest : List Value) (Z : State) (vm0 : Vm) (own : String) (kc ks : Nat) (Qc : Option Value → Vm → Heap → List Loc → Prop) : Prop :=
  ∀ (T' : State) (h' : Heap) (v : Option Value) (L : List Loc) (vm1 : Vm), Stand p l e R (s.setVm vm1) m args below meth c T' (locs ++ L) (cells + kc) (slots + ks) → T'.heap = h' → s.Since vm1 h'.size → Z.Warmed39 vm1 → vm1.findClass own = some m.cls → (s.setVm vm0).Warmed39 vm1 → Qc v vm1 h' L → Wp p e below Q F T' (mkF m q Ls (v.toList ++ rest))
theorem callSW (X : Stand p l e R (s.setVm vm0) m args below meth c T locs cells slots) (hx : p.tables.exec = Jvm.exec) {k0 : Nat} (hS : s.Since vm0 k0) (hk : k0 ≤ h.size) (hZ : Z.Warmed39 vm0) {own : String} {index : Nat} {y : MethodName} {bytes : ByteArray} {maxL : Nat} {ret : Option FieldType} (hown : vm0.findClass own = some m.cls) (w1 : (Cond.methodLink own index y).before a0 Z = true) (w2 : (Cond.static y).before a0 Z = true) (w3 : (Cond.initialized y.cls).before a0 Z = true) (w4 : (Cond.code y bytes maxL ret).before a0 Z = true)
    (hy : y.cls ≠ "java/lang/invoke/MethodHandle" ∧ y.cls ≠ "java/lang/invoke/VarHandle") {W : Nat} {as' : List Value} {kc ks : Nat} {Qc : Option Value → Vm → Heap → List Loc → Prop} (hK : PayW l R p e below (s.setVm vm0) args y 3 W as'.toArray h kc ks Qc) (eT : T.heap = h) (hsize : Ls.size = c.maxLocals) {rest : List Value} (hlen : ∀ sig, parseMethodDescriptor y.desc = some sig → as'.length = sig.parameters.length)
    (hstack : st = as'.reverse ++ rest) (hW : (rest.map fun v => v.category).sum ≤ W) (hd : decode c.code pc = .ok (.invokestatic index, 3)) (hq : pc + 3 = q) (hc : cells + kc ≤ R.cells) (hs : slots + ks ≤ R.slots)
    (k : GoW p l e R s m args below meth c locs cells slots Q F q Ls rest Z vm0 own kc ks Qc) : Wp p e below Q F T (mkF m pc Ls st) := by
  subst hq
  have hZ' : Z.Warmed39 (s.setVm vm0).vm := hZ
  have hown' : (s.setVm vm0).vm.findClass own = some m.cls := hown
  obtain ⟨v, vm₁, ⟨T', L', k', n'⟩, -, X', h2, g2, ⟨L, hQ, r1, r2, r3⟩, st'⟩ := callSS X hx (y := y) hown' (mvT hZ' w1) (mvT hZ' w2) (mvT hZ' w3) (mvT hZ' w4) hy hK (g := mkF m pc Ls st) rfl hsize hlen hstack (by show 2 * 0 + _ ≤ _; omega) hd (fun _ _ => ⟨rfl, eT, hc, hs⟩)
  dsimp only [Pt.U, Pt.locs, Pt.cells, Pt.slots] at X' r1 r2 r3 st' hQ h2 g2
  subst r1 r2 r3
  obtain ⟨X2, hS2, hZ2, ho2⟩ := rebS hS (by rw [eT]; exact hk : k0 ≤ T.heap.size) X' h2 g2 hZ' hown'
  exact Wp.tr st' (k T' _ v L T'.vm X2 rfl hS2 hZ2 ho2 h2.1 hQ)
theorem callIW (X : Stand p l e R (s.setVm vm0) m args below meth c T locs cells slots) (hx : p.tables.exec = Jvm.exec) {k0 : Nat} (hS : s.Since vm0 k0) (hk : k0 ≤ h.size) (hZ : Z.Warmed39 vm0) {own : String} {index : Nat} {y : MethodName} {bytes : ByteArray} {maxL : Nat} (hy1 : y.name = "<init>") (hown : vm0.findClass own = some m.cls) (w1 : (Cond.methodLink own index y).before a0 Z = true) (w2 : (Cond.instanceMethod y).before a0 Z = true) (w4 : (Cond.code y bytes maxL none).before a0 Z = true)
    (hy : y.cls ≠ "java/lang/invoke/MethodHandle" ∧ y.cls ≠ "java/lang/invoke/VarHandle") {W : Nat} {a : Addr} {as' : List Value} {kc ks : Nat} {Qc : Option Value → Vm → Heap → List Loc → Prop} (hK : PayW l R p e below (s.setVm vm0) args y 3 W (.ref a :: as').toArray h kc ks Qc) (eT : T.heap = h) (hsize : Ls.size = c.maxLocals) {rest : List Value} (hlen : ∀ sig, parseMethodDescriptor y.desc = some sig → as'.length = sig.parameters.length)
    (hstack : st = as'.reverse ++ .ref a :: rest) (hW : (rest.map fun v => v.category).sum ≤ W) (hd : decode c.code pc = .ok (.invokespecial index, 3)) (hq : pc + 3 = q) (hc : cells + kc ≤ R.cells) (hs : slots + ks ≤ R.slots)
    (k : GoW p l e R s m args below meth c locs cells slots Q F q Ls rest Z vm0 own kc ks Qc) : Wp p e below Q F T (mkF m pc Ls st) := by
  subst hq
  have hZ' : Z.Warmed39 (s.setVm vm0).vm := hZ
  have hown' : (s.setVm vm0).vm.findClass own = some m.cls := hown
  obtain ⟨v, vm₁, ⟨T', L', k', n'⟩, -, X', h2, g2, ⟨L, hQ, r1, r2, r3⟩, st'⟩ := X.specialBackS hx (y := y) hy1 hown' (mvT hZ' w1) (mvT hZ' w2) (mvT hZ' w4) hy hK (g := mkF m pc Ls st) rfl hsize (Steps.refl _) hlen hstack (by show 2 * 0 + _ ≤ _; omega) hd (fun _ _ => ⟨rfl, eT, hc, hs⟩)
  dsimp only [Pt.U, Pt.locs, Pt.cells, Pt.slots] at X' r1 r2 r3 st' hQ h2 g2
  subst r1 r2 r3
  obtain ⟨X2, hS2, hZ2, ho2⟩ := rebS hS (by rw [eT]; exact hk : k0 ≤ T.heap.size) X' h2 g2 hZ' hown'
  exact Wp.tr st' (k T' _ v L T'.vm X2 rfl hS2 hZ2 ho2 h2.1 hQ)
theorem callVW (X : Stand p l e R (s.setVm vm0) m args below meth c T locs cells slots) (hx : p.tables.exec = Jvm.exec) {k0 : Nat} (hS : s.Since vm0 k0) (hk : k0 ≤ h.size) (hZ : Z.Warmed39 vm0) {own C : String} {index : Nat} {y z : MethodName} (hown : vm0.findClass own = some m.cls) (w1 : (Cond.methodLink own index y).before a0 Z = true) (w2 : (Cond.declares y).before a0 Z = true) (hnf : NotFace (s.setVm vm0) y) (w3 : (Cond.selects C y z).before a0 Z = true) (w4 : (Cond.instanceMethod z).before a0 Z = true)
    (hy : y.cls ≠ "java/lang/invoke/MethodHandle" ∧ y.cls ≠ "java/lang/invoke/VarHandle") {W : Nat} {a : Addr} {as' : List Value} {kc ks : Nat} {Qc : Option Value → Vm → Heap → List Loc → Prop} (hK : PayW l R p e below (s.setVm vm0) args z 3 W (.ref a :: as').toArray h kc ks Qc) (eT : T.heap = h) (hE : Exa Z h a C) (hsize : Ls.size = c.maxLocals) {rest : List Value} (hlen : ∀ sig, parseMethodDescriptor y.desc = some sig → as'.length = sig.parameters.length)
    (hstack : st = as'.reverse ++ .ref a :: rest) (hW : (rest.map fun v => v.category).sum ≤ W) (hd : decode c.code pc = .ok (.invokevirtual index, 3)) (hq : pc + 3 = q) (hc : cells + kc ≤ R.cells) (hs : slots + ks ≤ R.slots)
    (k : GoW p l e R s m args below meth c locs cells slots Q F q Ls rest Z vm0 own kc ks Qc) : Wp p e below Q F T (mkF m pc Ls st) := by
  subst hq
  have hZ' : Z.Warmed39 (s.setVm vm0).vm := hZ
  have hown' : (s.setVm vm0).vm.findClass own = some m.cls := hown
  obtain ⟨cq, kq, qa, qb, qc⟩ := isOf hZ' eT hE
  obtain ⟨v, vm₁, ⟨T', L', k', n'⟩, -, X', h2, g2, ⟨L, hQ, r1, r2, r3⟩, st'⟩ := X.virtualBackS hx (y := y) (z := z) hown' (mvT hZ' w1) (mvT hZ' w2) hnf (mvT hZ' w3) (mvT hZ' w4) hy hK qa qc (g := mkF m pc Ls st) rfl hsize (Steps.refl _) hlen hstack (by show 2 * 0 + _ ≤ _; omega) hd (fun _ _ => ⟨rfl, eT, hc, hs⟩)
  dsimp only [Pt.U, Pt.locs, Pt.cells, Pt.slots] at X' r1 r2 r3 st' hQ h2 g2
  subst r1 r2 r3
  obtain ⟨X2, hS2, hZ2, ho2⟩ := rebS hS (by rw [eT]; exact hk : k0 ≤ T.heap.size) X' h2 g2 hZ' hown'
  exact Wp.tr st' (k T' _ v L T'.vm X2 rfl hS2 hZ2 ho2 h2.1 hQ)
/-- a String constant, its text not yet loaded since the case's start -/
theorem ldcNew (X : Stand p l e R (s.setVm vm0) m args below meth c T locs cells slots) (hx : p.tables.exec = Jvm.exec) (hZ : Z.Warmed39 vm0) {own text : String} {index : Nat} (hown : vm0.findClass own = some m.cls) (w : (Cond.stringLink own index text).before a0 Z = true) (wS : ∀ a ∈ Bundle.stringAtoms, a.before a0 Z = true) (eT : T.heap = h) {k0 : Nat} (hS : s.Since vm0 k0) (hk : k0 ≤ h.size) (N : Fr s.heap.size locs) (O : Old Z Z.heap.size s.heap) {Ts : List String} (I : IB Z vm0 Ts) (hnot : text ∉ Ts) (hh : Jvm.Lit.constHeld Z own index) (hcw : Jvm.Lit.compactW.before a0 Z = true)
    {vs : List Value} {z : Int32} (ht : (∀ c ∈ text.toList, c.toNat < 256) ∧ text.toList.map (fun c => Value.int (Jvm.Lit.byteI c.toNat.toUInt16)) = vs) (hz : ¬ z < 0) (hl : z.toNatClampNeg = vs.length) (hd : decode c.code pc = .ok (.ldc index, 2)) (hq : pc + 2 = q) (n : Nat) (hn : 4 * text.toList.length ≤ n) (hbig : n ≤ 536870912) (hc : cells + 2 ≤ R.cells) (hl' : slots + (n + 4) ≤ R.slots)
    (k : ∀ (T' : State) (h' : Heap) (a b : Addr) (kb : ClassId) (vm1 : Vm), Stand p l e R (s.setVm vm1) m args below meth c T' locs (cells + 2) (slots + (n + 4)) → T'.heap = h' → Ext h h' → s.Since vm1 h'.size → Z.Warmed39 vm1 → vm1.findClass own = some m.cls → (s.setVm vm0).Warmed39 vm1 → Exa Z h' a "java/lang/String" → Fld Z h' a "java/lang/String" "coder" "B" (.int 0) → Fld Z h' a "java/lang/String" "value" "[B" (.ref b) → Arv Z h' b kb .byte z vs (.int 0) → IB Z vm1 (text :: Ts) → LitV Z vm1 own index a → Wp p e below Q F T' (mkF m q Ls (.ref a :: st))) : Wp p e below Q F T (mkF m pc Ls st) := by
  subst hq
  have h00 : (s.setVm vm0).Since vm0 h.size := (State.WarmedH.refl (s.setVm vm0)).since _
  obtain ⟨a, T', h', k1, b, kb, X', e', E, hS', hk', hZ', ho', A1, A2, A3, A4, -, -, I', L', st'⟩ := ldcSVL (s := s.setVm vm0) (vm0 := vm0) X hx hZ hown w wS eT h00 (Nat.le_refl _) N (fun b cl q => O.2.2 b cl q) I hnot hh hcw ht hz hl (g := mkF m pc Ls st) rfl hd hn hbig hc hl'
  exact Wp.st st' (k T' h' a b kb T'.vm X' e' E (hS.trans (sinceMono hS' hk') (Nat.le_trans hk E.1)) hZ' ho' hS'.1 A1 A2 A3 A4 I' L')
/-- .. loaded already -/
theorem ldcOld (X : Stand p l e R (s.setVm vm0) m args below meth c T locs cells slots) (hx : p.tables.exec = Jvm.exec) (hZ : Z.Warmed39 vm0) {own text : String} {index : Nat} (hown : vm0.findClass own = some m.cls) (w : (Cond.stringLink own index text).before a0 Z = true) {a : Addr} (L : LitV Z vm0 own index a) (hd : decode c.code pc = .ok (.ldc index, 2)) (hq : pc + 2 = q) (k : Wp p e below Q F T (mkF m q Ls (.ref a :: st))) : Wp p e below Q F T (mkF m pc Ls st) := by
  subst hq
  exact Wp.st (ldcAgain X hx hZ hown w (L : Lit (s.setVm vm0) own index a) (g := mkF m pc Ls st) rfl hd) k
/-- .. what it holds doesn't matter -/
theorem ldcAny (X : Stand p l e R (s.setVm vm0) m args below meth c T locs cells slots) (hx : p.tables.exec = Jvm.exec) (hZ : Z.Warmed39 vm0) {own text : String} {index : Nat} (hown : vm0.findClass own = some m.cls) (w : (Cond.stringLink own index text).before a0 Z = true) (wS : ∀ a ∈ Bundle.stringAtoms, a.before a0 Z = true) (eT : T.heap = h) {k0 : Nat} (hS : s.Since vm0 k0) (hk : k0 ≤ h.size) (hd : decode c.code pc = .ok (.ldc index, 2)) (hq : pc + 2 = q) (n : Nat) (hn : 4 * text.toList.length ≤ n) (hbig : n ≤ 536870912) (hc : cells + 2 ≤ R.cells) (hl' : slots + (n + 4) ≤ R.slots)
    (k : ∀ (T' : State) (h' : Heap) (a : Addr) (vm1 : Vm), Stand p l e R (s.setVm vm1) m args below meth c T' locs (cells + 2) (slots + (n + 4)) → T'.heap = h' → Ext h h' → s.Since vm1 h'.size → Z.Warmed39 vm1 → vm1.findClass own = some m.cls → (s.setVm vm0).Warmed39 vm1 → Wp p e below Q F T' (mkF m q Ls (.ref a :: st))) : Wp p e below Q F T (mkF m pc Ls st) := by
  subst hq
  have h00 : (s.setVm vm0).Since vm0 h.size := (State.WarmedH.refl (s.setVm vm0)).since _
  obtain ⟨a, T', h', k1, X', e', E, hS', hk', hZ', ho', st'⟩ := ldcS (s := s.setVm vm0) (vm0 := vm0) X hx hZ hown w wS eT h00 (Nat.le_refl _) (g := mkF m pc Ls st) rfl hd hn hbig hc hl'
  exact Wp.st st' (k T' h' a T'.vm X' e' E (hS.trans (sinceMono hS' hk') (Nat.le_trans hk E.1)) hZ' ho' hS'.1)
/-- ends, wide -/
theorem retIW (X : Stand p l e R (s.setVm vm0) m args below meth c T locs cells slots) (hx : p.tables.exec = Jvm.exec) {k0 : Nat} (hS : s.Since vm0 k0) (hk : k0 ≤ h.size) (hlk : meth.locks = false) (hr : meth.sig.returnType = some .int) {z : Int32} (hd : decode c.code pc = .ok (.ireturn, 1)) {C S : Nat} (hC : cells ≤ C) (hSl : slots ≤ S) {Qc : Option Value → Vm → Heap → List Loc → Prop} (eT : T.heap = h) (k : ∀ vm, (s.setVm vm0).WarmedH vm → Qc (some (.int z)) vm h locs) : Wp p e below (fun v t L => Qc v t.vm t.heap L) (WF s C S) T (mkF m pc Ls (.int z :: st)) := by
  obtain ⟨fs, h1, h2, h3, hs⟩ := X.leaveW hS (by rw [eT]; exact hk) (v := some (.int z)) (fun h => by rw [hr] at h; cases h)
  refine ⟨_, _, _, ?_, h2, h3, (by subst eT; exact k _ X.warmed), hs.1, hs.2.1, hs.2.2.1, hs.2.2.2.mono hC hSl⟩
  exact retOut X hx hr rfl (Or.inl ⟨rfl, Or.inl rfl, _, rfl⟩) hd h1
theorem retZW (X : Stand p l e R (s.setVm vm0) m args below meth c T locs cells slots) (hx : p.tables.exec = Jvm.exec) {k0 : Nat} (hS : s.Since vm0 k0) (hk : k0 ≤ h.size) (hlk : meth.locks = false) {t : FieldType} (hr : meth.sig.returnType = some t) (ht : t = .boolean ∨ t = .byte ∨ t = .char ∨ t = .short) {z : Int32} (hd : decode c.code pc = .ok (.ireturn, 1)) {C S : Nat} (hC : cells ≤ C) (hSl : slots ≤ S) {Qc : Option Value → Vm → Heap → List Loc → Prop} (eT : T.heap = h) (k : ∀ vm, (s.setVm vm0).WarmedH vm → Qc (some (.int (nar t z))) vm h locs) : Wp p e below (fun v t L => Qc v t.vm t.heap L) (WF s C S) T (mkF m pc Ls (.int z :: st)) := by
  obtain ⟨fs, h1, h2, h3, hs⟩ := X.leaveW hS (by rw [eT]; exact hk) (v := some (.int (nar t z))) (fun h => by rw [hr] at h; cases h)
  refine ⟨_, _, _, ?_, h2, h3, (by subst eT; exact k _ X.warmed), hs.1, hs.2.1, hs.2.2.1, hs.2.2.2.mono hC hSl⟩
  exact retN X hx (t := t) hr ht hd h1
theorem retAW (X : Stand p l e R (s.setVm vm0) m args below meth c T locs cells slots) (hx : p.tables.exec = Jvm.exec) {k0 : Nat} (hS : s.Since vm0 k0) (hk : k0 ≤ h.size) (hlk : meth.locks = false) {t : FieldType} (hr : meth.sig.returnType = some t) (ht : t.isReference = true) {w : Value} (hw : w.isRef = true) (hd : decode c.code pc = .ok (.areturn, 1)) {C S : Nat} (hC : cells ≤ C) (hSl : slots ≤ S) {Qc : Option Value → Vm → Heap → List Loc → Prop} (eT : T.heap = h) (k : ∀ vm, (s.setVm vm0).WarmedH vm → Qc (some w) vm h locs) : Wp p e below (fun v t L => Qc v t.vm t.heap L) (WF s C S) T (mkF m pc Ls (w :: st)) := by
  obtain ⟨fs, h1, h2, h3, hs⟩ := X.leaveW hS (by rw [eT]; exact hk) (v := some w) (fun h => by rw [hr] at h; cases h)
  refine ⟨_, _, _, ?_, h2, h3, (by subst eT; exact k _ X.warmed), hs.1, hs.2.1, hs.2.2.1, hs.2.2.2.mono hC hSl⟩
  exact retOut X hx hr (narR ht) (Or.inr (Or.inr (Or.inr (Or.inr ⟨rfl, ht, hw⟩)))) hd h1
theorem ret0W (X : Stand p l e R (s.setVm vm0) m args below meth c T locs cells slots) (hx : p.tables.exec = Jvm.exec) {k0 : Nat} (hS : s.Since vm0 k0) (hk : k0 ≤ h.size) (hlk : meth.locks = false) (hr : meth.sig.returnType = none) (hd : decode c.code pc = .ok (.return_, 1)) {C S : Nat} (hC : cells ≤ C) (hSl : slots ≤ S) {Qc : Option Value → Vm → Heap → List Loc → Prop} (eT : T.heap = h) (k : ∀ vm, (s.setVm vm0).WarmedH vm → Qc none vm h locs) : Wp p e below (fun v t L => Qc v t.vm t.heap L) (WF s C S) T (mkF m pc Ls []) := by
  obtain ⟨fs, h1, h2, h3, hs⟩ := X.leaveW hS (by rw [eT]; exact hk) (v := none) (fun _ => rfl)
  refine ⟨_, _, _, ?_, h2, h3, (by subst eT; exact k _ X.warmed), hs.1, hs.2.1, hs.2.2.1, hs.2.2.2.mono hC hSl⟩
  exact X.returnOut hx hr hd h1
end D
end Wk
end Jvm.OwnW
namespace Jvm.OwnW
open Jvm Jvm.ClassFile Sem Op Lib Jvm.Free Jvm.Stand Jvm.LawKit Jvm.RoadKit Bundle
/-- what lies in the target behind a copy of n places -/
def cpF (vs : List Value) (dv : Value) (sp : Nat) (vd : List Value) (dd : Value) (dp n z : Nat) : List Value := (List.range z).map fun j => if dp ≤ j ∧ j < dp + n then vs.getD (sp + (j - dp)) dv else vd.getD j dd
theorem cpF_at {vs : List Value} {dv : Value} {sp : Nat} {vd : List Value} {dd : Value} {dp n z j : Nat} (h : j < z) : (cpF vs dv sp vd dd dp n z).getD j dd = if dp ≤ j ∧ j < dp + n then vs.getD (sp + (j - dp)) dv else vd.getD j dd := by
  simp [cpF, List.getD_eq_getElem?_getD, h]
theorem natOf {x : Int32} (q : ¬ x < 0) : x.toInt = (x.toNatClampNeg : Int) := by
  rw [Int32.lt_iff_toInt_lt] at q
  have z0 : (0 : Int32).toInt = 0 := rfl
  simp only [Int32.toNatClampNeg]
  omega
theorem Fk.cp {n : Nat} {ws : List Addr} {L : List Loc} {b : Addr} {p q : Nat} (N : Fk n ws L) (g : b ∈ ws ∨ n ≤ b) : Fk n ws (L ++ copyLocs b p q) := fun y hy => (List.mem_append.mp hy).elim (N y) fun z => by rw [copyLocs_base z]; exact g
/-- a class that declares a selected method is no interface: her own methods are found in her -/
theorem sameSelf {Z : State} {a0 : Array Value} {y y2 : MethodName} {C : String} (sel : (Cond.selects C y2 y2).before a0 Z = true) (hy : y2.cls = y.cls) (ins : (Cond.instanceMethod y).before a0 Z = true) (hmh : y.cls ≠ "java/lang/invoke/MethodHandle" ∧ y.cls ≠ "java/lang/invoke/VarHandle") : (Cond.sameMethod y.cls y.cls y.name y.desc).before a0 Z = true := by
  obtain ⟨m, meth, hn, -, -, -⟩ := Cond.instanceMethod_spec ins
  obtain ⟨c2, r2, m2, -, -, q3, -, kP, hkP, hkPi⟩ := Cond.selects_spec sel
  have f1 := findClass_of_methodNamed hn
  have f2 := findClass_of_methodNamed q3
  rw [hy, f1] at f2
  have em : m2.cls = m.cls := (Option.some.inj f2).symm
  have hf := State.methodFound?_of_named hn hmh
  have hn' : Z.methodNamed? ⟨y.cls, y.name, y.desc⟩ = some m := hn
  simp [Cond.before, Cond.holds, Cond.value, f1, hf, hn', ← em, hkP, hkPi]
theorem declOf {Z : State} {a0 : Array Value} {y : MethodName} {bytes : ByteArray} {ml : Nat} {ret : Option FieldType} (ins : (Cond.instanceMethod y).before a0 Z = true) (code : (Cond.code y bytes ml ret).before a0 Z = true) : (Cond.declares y).before a0 Z = true := by
  obtain ⟨m, meth, hn, hm, hs, -⟩ := Cond.instanceMethod_spec ins
  obtain ⟨m2, cM, q1, -, -, -, -, -, -, hsig⟩ := Cond.code_spec hn code
  cases hm.symm.trans q1
  simp [Cond.before, Cond.holds, Cond.value, hn, hm, hs, hsig]
theorem nfSib {s : State} {args : Array Value} {C : String} {y y2 : MethodName} (sel : (Cond.selects C y2 y2).before args s = true) (hy : y2.cls = y.cls) : NotFace s y := fun r0 h0 => by
  obtain ⟨c2, r2, m2, -, -, q3, -, kP, hkP, hkPi⟩ := Cond.selects_spec sel
  have f1 := findClass_of_methodNamed h0
  have f2 := findClass_of_methodNamed q3
  rw [hy, f1] at f2
  have em : m2.cls = r0.cls := (Option.some.inj f2).symm
  exact ⟨kP, em ▸ hkP, hkPi⟩
namespace Wk
variable {p : Program} {l : Launch} {e : Env} {R : Room} {s : State} {m : MethodId} {args : Array Value} {below : List Frame} {meth : Method} {c : Code} {T : State} {locs : List Loc} {cells slots : Nat} {Z : State} {a0 : Array Value} {h : Heap} {Q : Option Value → State → List Loc → Prop} {F : Outcome → State → List Loc → Prop} {pc q : Nat} {Ls : Array Slot} {st : List Value}
theorem cpB (X : Stand p l e R s m args below meth c T locs cells slots) (hx : p.tables.exec = Jvm.exec) (hZ : Z.Warmed39 s.vm) {own : String} {index : Nat} (hown : s.vm.findClass own = some m.cls)
    (w1 : (Cond.methodLink own index Jvm.Stand.acN).before a0 Z = true) (w2 : (Cond.native Jvm.Stand.acN).before a0 Z = true) (w3 : (Cond.static Jvm.Stand.acN).before a0 Z = true) (w4 : (Cond.initialized "java/lang/System").before a0 Z = true) (eT : T.heap = h)
    {a b : Addr} {k1 k2 : ClassId} {z1 z2 sp dp nn : Int32} {vs vd : List Value} {dv dd : Value} (A : Arv Z h a k1 .byte z1 vs dv) (B : Arv Z h b k2 .byte z2 vd dd)
    (h1 : ¬ sp < 0) (h2 : ¬ dp < 0) (h3 : ¬ nn < 0) (h4 : sp.toNatClampNeg + nn.toNatClampNeg ≤ z1.toNatClampNeg) (h5 : dp.toNatClampNeg + nn.toNatClampNeg ≤ z2.toNatClampNeg)
    (hsize : Ls.size = c.maxLocals) (hd : decode c.code pc = .ok (.invokestatic index, 3)) (hq : pc + 3 = q) (hf : 1 ≤ R.frames) (W : Nat) (hW : (st.map fun v => v.category).sum ≤ W) (hl : W + (nativeFrameWords "java/lang/System" "arraycopy" 5 + 11) ≤ R.locals)
    (kk : ∀ (T' : State) (h' : Heap) (L' : List Loc), (∀ n0 ws, Fk n0 ws locs → (b ∈ ws ∨ n0 ≤ b) → Fk n0 ws L') → Stand p l e R s m args below meth c T' L' cells slots → T'.heap = h' → Keep h h' [b] →
      Arv Z h' b k2 .byte z2 (cpF vs dv sp.toNatClampNeg vd dd dp.toNatClampNeg nn.toNatClampNeg z2.toNatClampNeg) dd → Wp p e below Q F T' (mkF m q Ls st)) :
    Wp p e below Q F T (mkF m pc Ls (.int nn :: .int dp :: .ref b :: .int sp :: .ref a :: st)) := by
  subst hq
  obtain ⟨cs, As, -, Ss, -, Hs, Gs⟩ := A
  obtain ⟨cd, Ad, qd, Sd, Nd, Hd, Gd⟩ := B
  obtain ⟨os, ks, hks, sc, hsk⟩ := State.isArrayOf_alike hZ.alike As.2.1
  obtain ⟨od, kd, hkd, dc, hdk⟩ := State.isArrayOf_alike hZ.alike Ad.2.1
  have src : ∀ i, i < nn.toNatClampNeg → cs.slots.getD (sp.toNatClampNeg + i) .null = vs.getD (sp.toNatClampNeg + i) dv := fun i hi => by
    rw [Array.getD_eq_getD_getElem?, Hs _ (by omega)]
    rfl
  obtain ⟨vm₁, hW₁, X', st'⟩ := X.arraycopyK hx hown (mvT hZ w1) (mvT hZ w2) (mvT hZ w3) (mvT hZ w4) (by rw [eT]; exact As.1) (by rw [eT]; exact Ad.1) os od As.2.2 Ad.2.2 hks hkd hsk hdk (by decide) h1 h2 h3 (by rw [natOf h1, natOf h3, Ss]; omega) (by rw [natOf h2, natOf h3, Sd]; omega)
    (fun vm₁ _ i hi => by
      rw [src i hi]
      have q := Gs (sp.toNatClampNeg + i) (by omega)
      refine ⟨q, ?_⟩
      generalize vs.getD (sp.toNatClampNeg + i) dv = u at q
      cases u <;> first | trivial | (simp [fits] at q)) (g := mkF m pc Ls (.int nn :: .int dp :: .ref b :: .int sp :: .ref a :: st)) rfl hsize rfl hd hf (by show 2 * 0 + _ + _ ≤ _; omega)
  have hb : b < h.size := Ad.lt
  have eh : ((T.setVm vm₁).setCell b (copied cs cd sp dp nn)).heap = h.setIfInBounds b (copied cs cd sp dp nn) := by rw [← eT]; rfl
  have fc := cd.storeRun_facts dp.toNatClampNeg (cs.stretch sp.toNatClampNeg nn.toNatClampNeg)
  have f1 : (copied cs cd sp dp nn).cls = cd.cls := fc.1
  have f2 : (copied cs cd sp dp nn).vm = cd.vm := fc.2.1
  have f3 : (copied cs cd sp dp nn).slots.size = cd.slots.size := fc.2.2.1
  have ln : (cs.stretch sp.toNatClampNeg nn.toNatClampNeg).length = nn.toNatClampNeg := by simp [Cell.stretch]
  have val : ∀ j, j < cd.slots.size → (copied cs cd sp dp nn).slots[j]? = some ((cpF vs dv sp.toNatClampNeg vd dd dp.toNatClampNeg nn.toNatClampNeg z2.toNatClampNeg).getD j dd) ∧ fits .byte ((cpF vs dv sp.toNatClampNeg vd dd dp.toNatClampNeg nn.toNatClampNeg z2.toNatClampNeg).getD j dd) = true := fun j hj => by
    rw [cpF_at (by omega)]
    have g := Cell.storeRun_get cd dp.toNatClampNeg (cs.stretch sp.toNatClampNeg nn.toNatClampNeg) j (by omega)
    rw [ln] at g
    by_cases cc : dp.toNatClampNeg ≤ j ∧ j < dp.toNatClampNeg + nn.toNatClampNeg
    · rw [if_pos cc] at g ⊢
      have e2 : (cs.stretch sp.toNatClampNeg nn.toNatClampNeg)[j - dp.toNatClampNeg]? = some (vs.getD (sp.toNatClampNeg + (j - dp.toNatClampNeg)) dv) := by
        rw [← src _ (by omega)]
        simp [Cell.stretch, show j - dp.toNatClampNeg < nn.toNatClampNeg by omega]
      exact ⟨g.trans e2, Gs _ (by omega)⟩
    · rw [if_neg cc] at g ⊢
      exact ⟨g.trans (Hd j hj), Gd j hj⟩
  refine Wp.st st' (kk _ _ _ (fun n0 ws N g => Fk.cp N g) X' eh ⟨by simp, fun x c q r => ?_, fun x c q => ?_⟩ ⟨copied cs cd sp dp nn, ⟨Array.getElem?_setIfInBounds_self_of_lt hb, ?_, by rw [f2]; exact Ad.2.2⟩, f1.trans qd, f3.trans Sd, Nd, fun j hj => (val j (f3 ▸ hj)).1, fun j hj => (val j (f3 ▸ hj)).2⟩)
  · rw [Array.getElem?_setIfInBounds_ne fun z => r (by simp [z])]
    exact q
  · by_cases u : b = x
    · subst u
      cases Ad.1.symm.trans q
      exact ⟨_, Array.getElem?_setIfInBounds_self_of_lt hb, f1, f2, f3⟩
    · exact ⟨c, by rw [Array.getElem?_setIfInBounds_ne u]; exact q, rfl, rfl, rfl⟩
  · have t := Ad.2.1
    unfold State.isArrayOf at t ⊢
    rw [f1, f2]
    exact t
theorem callU (X : Stand p l e R s m args below meth c T locs cells slots) (hx : p.tables.exec = Jvm.exec) (hZ : Z.Warmed39 s.vm) {own C : String} {index : Nat} {y : MethodName} {bytes : ByteArray} {maxL : Nat} {ret : Option FieldType} (hown : s.vm.findClass own = some m.cls) (w1 : (Cond.methodLink own index y).before a0 Z = true) (w2 : (Cond.sameMethod y.cls y.cls y.name y.desc).before a0 Z = true) (w3 : (Cond.instanceMethod y).before a0 Z = true) (w5 : (Cond.superclass own y.cls).before a0 Z = true) (w4 : (Cond.code y bytes maxL ret).before a0 Z = true)
    (hn : y.name ≠ "<init>") {W : Nat} {a : Addr} {as' : List Value} {kc ks : Nat} {Qc : Option Value → Heap → List Loc → Prop} (hK : Pay l R p e below s args y 3 W (.ref a :: as').toArray h kc ks Qc) (eT : T.heap = h) (hE : Exa Z h a C) (hsize : Ls.size = c.maxLocals) {rest : List Value} (hlen : ∀ sig, parseMethodDescriptor y.desc = some sig → as'.length = sig.parameters.length)
    (hstack : st = as'.reverse ++ .ref a :: rest) (hW : (rest.map fun v => v.category).sum ≤ W) (hd : decode c.code pc = .ok (.invokespecial index, 3)) (hq : pc + 3 = q) (hc : cells + kc ≤ R.cells) (hs : slots + ks ≤ R.slots)
    (k : Go p l e R s m args below meth c locs cells slots Q F q Ls rest kc ks Qc) : Wp p e below Q F T (mkF m pc Ls st) := by
  subst hq
  obtain ⟨v, vm₁, ⟨T', L', k', n'⟩, -, X', ⟨L, hQ, r1, r2, r3⟩, st'⟩ := superBack X hx hZ hown w1 w2 w3 w5 hn hK eT (Ins.self hE) (g := mkF m pc Ls st) rfl hsize w4 hlen hstack (by show 2 * 0 + _ ≤ _; omega) hd (fun _ _ => ⟨rfl, eT, hc, hs⟩)
  dsimp only [Pt.U, Pt.locs, Pt.cells, Pt.slots] at X' r1 r2 r3 st' hQ
  subst r1 r2 r3
  exact Wp.tr st' (k T' _ v L X' rfl hQ)
theorem clone (X : Stand p l e R s m args below meth c T locs cells slots) (hx : p.tables.exec = Jvm.exec) (hZ : Z.Warmed39 s.vm) {own ad : String} {index : Nat} (hown : s.vm.findClass own = some m.cls)
    (w1 : (Cond.methodLink own index ⟨ad, "clone", "()Ljava/lang/Object;"⟩).before a0 Z = true) (w2 : (Cond.sameMethod ad "java/lang/Object" "clone" "()Ljava/lang/Object;").before a0 Z = true) (w3 : (Cond.native ⟨"java/lang/Object", "clone", "()Ljava/lang/Object;"⟩).before a0 Z = true)
    (w4 : (Cond.instanceMethod ⟨"java/lang/Object", "clone", "()Ljava/lang/Object;"⟩).before a0 Z = true) (w5 : (Cond.selects ad ⟨ad, "clone", "()Ljava/lang/Object;"⟩ ⟨"java/lang/Object", "clone", "()Ljava/lang/Object;"⟩).before a0 Z = true) (w6 : (Cond.castable ad "java/lang/Cloneable").before a0 Z = true)
    (eT : T.heap = h) {a : Addr} {k : ClassId} {ty : FieldType} {z : Int32} {vs : List Value} {dv : Value} (B : Arv Z h a k ty z vs dv) (E : Exa Z h a ad) (hsize : Ls.size = c.maxLocals) (hd : decode c.code pc = .ok (.invokevirtual index, 3)) (hq : pc + 3 = q)
    (hf : 1 ≤ R.frames) (W cap : Nat) (hW : (st.map fun v => v.category).sum ≤ W) (hl : W + 14 ≤ R.locals) (hcap : z.toNatClampNeg ≤ cap) (hc : cells + 1 ≤ R.cells) (hsl : slots + cap ≤ R.slots)
    (kk : ∀ (T' : State) (h' : Heap) (a' : Addr), h.size = a' → Stand p l e R s m args below meth c T' locs (cells + 1) (slots + cap) → T'.heap = h' → Ext h h' → Arv Z h' a' k ty z vs dv → Exa Z h' a' ad → Wp p e below Q F T' (mkF m q Ls (.ref a' :: st))) : Wp p e below Q F T (mkF m pc Ls (.ref a :: st)) := by
  subst hq
  obtain ⟨cl, A, q1, S, q3, H, G⟩ := B
  have FC : FitC Z cl := fitC_of A fun i hi v hv => by
    rw [H i hi] at hv
    cases hv
    exact G i hi
  obtain ⟨T', h', X', e', ex, A', E', st'⟩ := cloneA X hx hZ hown w1 w2 w3 w4 w5 w6 eT A E FC (g := mkF m pc Ls (.ref a :: st)) rfl hsize rfl hd hf (W := W) (cap := cap) (by show 2 * 0 + _ ≤ _; omega) hl (by rw [S]; exact hcap) hc hsl
  exact Wp.st st' (kk T' h' _ rfl X' e' ex ⟨cloneOf cl, A', q1, S, q3, H, G⟩ E')
end Wk
theorem own_shl0 (x : Int32) : x <<< ((0 : Int32) &&& 31) = x := by
  have h0 : ((0 : Int32) &&& 31) = 0 := by decide
  rw [h0]
  simp
theorem own_latb {v c : Int32} (h : Lat c) (hv : v = (c.toInt8.toInt32 &&& (255 : Int32)).toUInt32.toUInt16.toUInt32.toInt32) : c = v := by
  have key : c.toInt8.toInt32 &&& (255 : Int32) = c &&& (255 : Int32) := by
    apply Int32.toBitVec_inj.mp
    have hb : (c.toInt8.toInt32).toBitVec = (c.toBitVec.signExtend 8).signExtend 32 := by simp
    have k255 : ∀ j, j < 32 → ((255 : Int32).toBitVec).getLsbD j = decide (j < 8) := by decide
    apply BitVec.eq_of_getLsbD_eq
    intro i hi
    simp only [Int32.toBitVec_and, hb, BitVec.getLsbD_and, k255 i hi]
    by_cases hi8 : i < 8
    · simp [BitVec.getLsbD_signExtend, hi8, hi, -BitVec.getLsbD_eq_getElem]
    · simp [hi8]
  rw [key] at hv
  have e2 := eq255 hv
  have id : c &&& (255 : Int32) = c := by
    have r := h.chr.rng
    have r2 := h.2
    rw [Int32.lt_iff_toInt_lt] at r2
    have e1 : (255 : Int32).toInt = 255 := rfl
    apply Int32.toBitVec_inj.mp
    apply BitVec.eq_of_toNat_eq
    have hn : c.toBitVec.toNat < 256 := by
      obtain ⟨e, -⟩ := toNat_of_toInt r.1
      omega
    rw [Int32.toBitVec_and, BitVec.toNat_and]
    show c.toBitVec.toNat &&& (2 ^ 8 - 1) = _
    rw [Nat.and_two_pow_sub_one_eq_mod]
    omega
  rw [e2, id]
end Jvm.OwnW
namespace Jvm.OwnW
open Jvm Jvm.ClassFile Sem Op Lib Jvm.Free Jvm.Stand Jvm.LawKit Jvm.RoadKit Bundle
/-- two terms with one reference -/
theorem fieldR {args : Array Value} {s : State} {t u : Term} {a : Addr} (h : (Cond.eq t u).value args s none s [] = some true) (hu : u.eval args s none [] s = some (.ref a)) : t.eval args s none [] s = some (.ref a) := by
  cases ht : t.eval args s none [] s with
  | none => simp [Cond.value, ht] at h
  | some x => cases x <;> simp [Cond.value, ht, hu] at h ⊢; exact h
/-- an array of the start, by its words -/
theorem lenStart {args : Array Value} {s : State} {t : Term} {n : Int32} {a : Addr} {cl : Cell} {ty : FieldType} (hA : Arr s s.heap a cl ty) (ev : t.eval args s none [] s = some (.ref a)) (hL : (Cond.eq (Term.length t) (.int n)).value args s none s [] = some true) : cl.slots.size < 2 ^ 31 ∧ cl.slots.size.toInt32 = n := by
  have q := fieldI hL
  have fin : s.arrayAt? a = some cl := IntBox.arrayAt_of hA.1 hA.2.1 hA.2.2
  simp only [Term.eval, ev, fin, Option.bind_eq_bind, Option.bind_some] at q
  by_cases hs : cl.slots.size < 2 ^ 31
  · exact ⟨hs, by simpa [hs] using q⟩
  · simp [hs] at q
end Jvm.OwnW
/- laws to paste: Road.backV (cut by pick.py; bodies as the Statement names them) -/
namespace Jvm.Pilot.@@N@@
namespace StrChars
open Jvm Sem ClassFile Op Lib Jvm.Stand Jvm.Free.XT Jvm.Free.ALB Jvm.Free.JM Jvm.Free
open Jvm.Lib.Cold (StaticIs)
/-- a char array whose places are chars -/
def Ch (a : Addr) (A : Cell) (U : State) : Prop := Arr .char a A U ∧ Typed .char A
theorem Ch.mv {a : Addr} {A : Cell} {U U' : State} (h : Ch a A U) (hal : U.vm.Alike U'.vm) (hh : U'.heap = U.heap) : Ch a A U' := ⟨h.1.mv hal hh, h.2⟩
theorem Ch.keep {a : Addr} {A : Cell} {U U' : State} (h : Ch a A U) (hal : U.vm.Alike U'.vm) (hk : U'.heap[a]? = some A) : Ch a A U' := ⟨h.1.keep hal hk, h.2⟩
/-- what place i of a char[]'s cell holds -/
def cv (A : Cell) (i : Nat) : Int32 := match A.slots[i]? with | some (.int x) => x | _ => 0
theorem Ch.get {a : Addr} {A : Cell} {U : State} (h : Ch a A U) {i : Nat} (hi : i < A.slots.size) : A.slots[i]? = some (.int (cv A i)) := by
  have e := Array.getElem?_eq_getElem hi
  have f := h.2 i _ e
  unfold cv; rw [e]
  generalize A.slots[i] = v at f
  cases v <;> simp [fits] at f ⊢
/-- the byte that i2b leaves of a char -/
def lo8 (x : Int32) : Int32 := x.toInt8.toInt32
theorem fits_lo8 (y : Int32) : fits .byte (.int (lo8 y)) = true := by
  have h1 := y.toInt8.le_toInt
  have h2 := y.toInt8.toInt_lt
  simp only [lo8, fits, Bool.and_eq_true, decide_eq_true_eq, Int32.le_iff_toInt_le, Int8.toInt_toInt32, show (-128 : Int32).toInt = -128 from by decide, show (127 : Int32).toInt = 127 from by decide]
  omega
/-- A' is A but that each place j of lo .. hi - 1 holds f j -/
def Laid (A A' : Cell) (lo hi : Nat) (f : Nat → Value) : Prop := A'.cls = A.cls ∧ A'.vm = A.vm ∧ A'.slots.size = A.slots.size ∧ ∀ i, A'.slots[i]? = if lo ≤ i ∧ i < hi then some (f i) else A.slots[i]?
theorem Laid.zero (A : Cell) (lo : Nat) (f : Nat → Value) : Laid A A lo (lo + 0) f := ⟨rfl, rfl, rfl, fun i => by rw [if_neg (by omega)]⟩
theorem Laid.step {A Ak : Cell} {lo k : Nat} {f : Nat → Value} {v : Value} (h : Laid A Ak lo k f) (hlo : lo ≤ k) (hk : k < Ak.slots.size) (hv : v = f k) : Laid A (Ak.setSlot k v) lo (k + 1) f := by
  refine ⟨h.1, h.2.1, by simpa [Cell.setSlot] using h.2.2.1, fun i => ?_⟩
  by_cases e : k = i
  · subst e; rw [Cell.slots_setSlot_self v hk, if_pos (by omega), hv]
  · rw [Cell.slots_setSlot_ne v e, h.2.2.2 i]
    by_cases q : lo ≤ i ∧ i < k
    · rw [if_pos q, if_pos (by omega)]
    · rw [if_neg q, if_neg (by omega)]
def U16 : String := "java/lang/StringUTF16"
namespace Cmp5
def yN : MethodName := ⟨"java/lang/StringUTF16", "compress", "([CI[BII)I"⟩
abbrev yB : ByteArray := jdk_52_method_21_code
theorem d0 : decode yB 0 = .ok (.iconst 0, 1) := by decide +kernel
theorem d1 : decode yB 1 = .ok (.istore 5, 2) := by decide +kernel
theorem d3 : decode yB 3 = .ok (.iload 5, 2) := by decide +kernel
theorem d5 : decode yB 5 = .ok (.iload 4, 2) := by decide +kernel
theorem d7 : decode yB 7 = .ok (.if_icmp (.ge) 37, 3) := by decide +kernel
theorem d10 : decode yB 10 = .ok (.aload_n 0, 1) := by decide +kernel
theorem d11 : decode yB 11 = .ok (.iload_n 1, 1) := by decide +kernel
theorem d12 : decode yB 12 = .ok (.caload, 1) := by decide +kernel
theorem d13 : decode yB 13 = .ok (.istore 6, 2) := by decide +kernel
theorem d15 : decode yB 15 = .ok (.iload 6, 2) := by decide +kernel
theorem d17 : decode yB 17 = .ok (.sipush 255, 3) := by decide +kernel
theorem d20 : decode yB 20 = .ok (.if_icmp (.le) 6, 3) := by decide +kernel
theorem d26 : decode yB 26 = .ok (.aload_n 2, 1) := by decide +kernel
theorem d27 : decode yB 27 = .ok (.iload_n 3, 1) := by decide +kernel
theorem d28 : decode yB 28 = .ok (.iload 6, 2) := by decide +kernel
theorem d30 : decode yB 30 = .ok (.i2b, 1) := by decide +kernel
theorem d31 : decode yB 31 = .ok (.bastore, 1) := by decide +kernel
theorem d32 : decode yB 32 = .ok (.iinc 1 1, 3) := by decide +kernel
theorem d35 : decode yB 35 = .ok (.iinc 3 1, 3) := by decide +kernel
theorem d38 : decode yB 38 = .ok (.iinc 5 1, 3) := by decide +kernel
theorem d41 : decode yB 41 = .ok (.goto (-38), 3) := by decide +kernel
theorem d44 : decode yB 44 = .ok (.iload 4, 2) := by decide +kernel
theorem d46 : decode yB 46 = .ok (.ireturn, 1) := by decide +kernel
def site : List Cond := []
def tab : Cond := tabOf yN yB 7 (some .int) site
def P (b : Addr) (A : Cell) (d : Addr) (B : Cell) (o q len : Nat) (args : Array Value) (s : State) : Prop := args = #[.ref b, .int (Int32.ofNat o), .ref d, .int (Int32.ofNat q), .int (Int32.ofNat len)] ∧ Ch b A s ∧ Arr .byte d B s ∧ b ≠ d ∧ o + len ≤ A.slots.size ∧ q + len ≤ B.slots.size ∧ ∀ i, i < len → ¬ 255 < cv A (o + i)
def E (b : Addr) (A : Cell) (d : Addr) (B : Cell) (o q len : Nat) (r : Option Value) (s u : State) : Prop := r = some (.int (Int32.ofNat len)) ∧ ∃ B', Put d B' s u ∧ Laid B B' q (q + len) (fun j => Value.int (lo8 (cv A (o + (j - q)))))
/-- no char of the range above 255: len; the places written hold each char's low byte -/
theorem law (l : Launch) (b : Addr) (A : Cell) (d : Addr) (B : Cell) (o q len : Nat) : Law l yN 5 5 0 0 yB 7 (some .int) site (P b A d B o q len) (E b A d B o q len) (copyLocs d q len) 0 0 := by
  refine Law.of_walk (plainFor_of_name (by decide +kernel)) (by decide +kernel) (by decide +kernel) (by decide) (fun _ _ h => by rw [h.1]; rfl) (fun _ U U' hal hh h => ⟨h.1, h.2.1.mv hal hh, h.2.2.1.mv hal hh, h.2.2.2⟩) (fun r U U' V V' h1 hal h2 h => ⟨h.1, h.2.elim fun B' q => ⟨B', q.1.mv h1 h2, q.2⟩⟩) ?_
  intro p e s m args below meth c s₁ X0 hexec hbytes hml hret hlk hnm hown hh0 W hP
  obtain ⟨rfl, hA, hB, hne, l1, l2, hp⟩ := hP
  have c1 : Steps p.tables e below (s₁.setTop (entryFrame m #[.ref b, .int (Int32.ofNat o), .ref d, .int (Int32.ofNat q), .int (Int32.ofNat len)] 7)) (s₁.setTop (mkF m 0 #[.val (.ref b), .val (.int (Int32.ofNat o)), .val (.ref d), .val (.int (Int32.ofNat q)), .val (.int (Int32.ofNat len)), .unset, .unset] [])) := entry rfl
  have hA0 := hA.1.mv X0.warmed.alike hh0
  have hB0 := hB.mv X0.warmed.alike hh0
  have a31 := hA.1.2.2.2
  have c2 : Steps p.tables e below (s₁.setTop (entryFrame m #[.ref b, .int (Int32.ofNat o), .ref d, .int (Int32.ofNat q), .int (Int32.ofNat len)] 7)) (s₁.setTop (mkF m 3 #[.val (.ref b), .val (.int (Int32.ofNat o)), .val (.ref d), .val (.int (Int32.ofNat q)), .val (.int (Int32.ofNat len)), .val (.int 0), .unset] [])) := c1.trans (by
    refine iconstV X0.here hexec rfl 0 (hb hbytes d0) (by decide) ?_
    refine XS.istore X0.here hexec rfl (hb hbytes d1) rfl rfl ?_
    exact Steps.refl _)
  have loop : ∀ (r i : Nat), i + r = len → ∀ (z : Slot), (z = .unset ∨ ∃ w, z = .val w ∧ w.category = 1) → ∀ (Tl : State) (Bk : Cell), Stand p l e { frames := 0, locals := 0, cells := 0, slots := 0 } s m #[.ref b, .int (Int32.ofNat o), .ref d, .int (Int32.ofNat q), .int (Int32.ofNat len)] below meth c Tl ([] ++ copyLocs d q i) 0 0 → Put d Bk s₁ Tl → Laid B Bk q (q + i) (fun j => Value.int (lo8 (cv A (o + (j - q))))) →
      Steps p.tables e below (s₁.setTop (entryFrame m #[.ref b, .int (Int32.ofNat o), .ref d, .int (Int32.ofNat q), .int (Int32.ofNat len)] 7)) (Tl.setTop (mkF m 3 #[.val (.ref b), .val (.int (Int32.ofNat (o + i))), .val (.ref d), .val (.int (Int32.ofNat (q + i))), .val (.int (Int32.ofNat len)), .val (.int (Int32.ofNat i)), z] [])) → ∃ (T' : State) (B' : Cell) (z' : Slot), Stand p l e { frames := 0, locals := 0, cells := 0, slots := 0 } s m #[.ref b, .int (Int32.ofNat o), .ref d, .int (Int32.ofNat q), .int (Int32.ofNat len)] below meth c T' ([] ++ copyLocs d q len) 0 0 ∧ Put d B' s₁ T' ∧ Laid B B' q (q + len) (fun j => Value.int (lo8 (cv A (o + (j - q))))) ∧
      Steps p.tables e below (s₁.setTop (entryFrame m #[.ref b, .int (Int32.ofNat o), .ref d, .int (Int32.ofNat q), .int (Int32.ofNat len)] 7)) (T'.setTop (mkF m 3 #[.val (.ref b), .val (.int (Int32.ofNat (o + len))), .val (.ref d), .val (.int (Int32.ofNat (q + len))), .val (.int (Int32.ofNat len)), .val (.int (Int32.ofNat len)), z'] [])) := by
    intro r
    induction r with
    | zero =>
      intro i hi z hz Tl Bk Xl pl fl cl
      have hil : i = len := by omega
      rw [hil] at Xl fl cl
      exact ⟨Tl, Bk, z, Xl, pl, fl, cl⟩
    | succ r ih =>
      intro i hi z hz Tl Bk Xl pl fl cl
      have all := X0.warmed.alike.symm.trans Xl.warmed.alike
      have hAl := hA0.keep all (pl.other hne hA0.1)
      have hBk := hB0.like all pl.1 fl.1 fl.2.1 fl.2.2.1
      have hlt : q + i < Bk.slots.size := by rw [fl.2.2.1]; omega
      have c3 : Steps p.tables e below (s₁.setTop (entryFrame m #[.ref b, .int (Int32.ofNat o), .ref d, .int (Int32.ofNat q), .int (Int32.ofNat len)] 7)) (Tl.setTop (mkF m 12 #[.val (.ref b), .val (.int (Int32.ofNat (o + i))), .val (.ref d), .val (.int (Int32.ofNat (q + i))), .val (.int (Int32.ofNat len)), .val (.int (Int32.ofNat i)), z] [.int (Int32.ofNat (o + i)), .ref b])) := cl.trans (by
        refine XS.iload Xl.here hexec rfl (hb hbytes d3) rfl ?_
        refine XS.iload Xl.here hexec rfl (hb hbytes d5) rfl ?_
        refine XS.icmpNo Xl.here hexec rfl (hb hbytes d7) rfl (ii_ge_f (lt32 (by omega) (by omega))) ?_
        refine XS.aloadN Xl.here hexec rfl (hb hbytes d10) rfl rfl ?_
        refine XS.iloadN Xl.here hexec rfl (hb hbytes d11) rfl ?_
        exact Steps.refl _)
      have c4 : Steps p.tables e below (s₁.setTop (entryFrame m #[.ref b, .int (Int32.ofNat o), .ref d, .int (Int32.ofNat q), .int (Int32.ofNat len)] 7)) (Tl.setTop (mkF m 13 #[.val (.ref b), .val (.int (Int32.ofNat (o + i))), .val (.ref d), .val (.int (Int32.ofNat (q + i))), .val (.int (Int32.ofNat len)), .val (.int (Int32.ofNat i)), z] [.int (cv A (o + i))])) := c3.trans (by
        refine Xl.aget hexec hAl rfl (hA.get (i := o + i) (by omega)) rfl rfl (hb hbytes d12) ?_
        exact Steps.refl _)
      have c5 : Steps p.tables e below (s₁.setTop (entryFrame m #[.ref b, .int (Int32.ofNat o), .ref d, .int (Int32.ofNat q), .int (Int32.ofNat len)] 7)) (Tl.setTop (mkF m 15 #[.val (.ref b), .val (.int (Int32.ofNat (o + i))), .val (.ref d), .val (.int (Int32.ofNat (q + i))), .val (.int (Int32.ofNat len)), .val (.int (Int32.ofNat i)), .val (.int (cv A (o + i)))] [])) := c4.trans (by
        refine XS.istoreS Xl.here hexec rfl (hb hbytes d13) rfl rfl hz ?_
        exact Steps.refl _)
      have c6 : Steps p.tables e below (s₁.setTop (entryFrame m #[.ref b, .int (Int32.ofNat o), .ref d, .int (Int32.ofNat q), .int (Int32.ofNat len)] 7)) (Tl.setTop (mkF m 31 #[.val (.ref b), .val (.int (Int32.ofNat (o + i))), .val (.ref d), .val (.int (Int32.ofNat (q + i))), .val (.int (Int32.ofNat len)), .val (.int (Int32.ofNat i)), .val (.int (cv A (o + i)))] [.int (lo8 (cv A (o + i))), .int (Int32.ofNat (q + i)), .ref d])) := c5.trans (by
        refine XS.iload Xl.here hexec rfl (hb hbytes d15) rfl ?_
        refine sipushV Xl.here hexec rfl 255 (hb hbytes d17) (by decide) ?_
        refine XS.icmpYes Xl.here hexec rfl (pc0 := 20) rfl (hb hbytes d20) rfl (ii_le_t (hp i (by omega))) (by decide) rfl ?_
        refine XS.aloadN Xl.here hexec rfl (hb hbytes d26) rfl rfl ?_
        refine XS.iloadN Xl.here hexec rfl (hb hbytes d27) rfl ?_
        refine XS.iload Xl.here hexec rfl (hb hbytes d28) rfl ?_
        refine i2b Xl.here hexec rfl (hb hbytes d30) rfl ?_
        exact Steps.refl _)
      obtain ⟨T7, X7, p7, st7⟩ := Xl.aput hexec hBk rfl hlt rfl (fits_lo8 (cv A (o + i))) (g := (mkF m 31 #[.val (.ref b), .val (.int (Int32.ofNat (o + i))), .val (.ref d), .val (.int (Int32.ofNat (q + i))), .val (.int (Int32.ofNat len)), .val (.int (Int32.ofNat i)), .val (.int (cv A (o + i)))] [.int (lo8 (cv A (o + i))), .int (Int32.ofNat (q + i)), .ref d])) rfl (rest := []) rfl (hb hbytes d31)
      have c8 : Steps p.tables e below (s₁.setTop (entryFrame m #[.ref b, .int (Int32.ofNat o), .ref d, .int (Int32.ofNat q), .int (Int32.ofNat len)] 7)) (T7.setTop (mkF m 32 #[.val (.ref b), .val (.int (Int32.ofNat (o + i))), .val (.ref d), .val (.int (Int32.ofNat (q + i))), .val (.int (Int32.ofNat len)), .val (.int (Int32.ofNat i)), .val (.int (cv A (o + i)))] [])) := c6.trans (st7 _ (Steps.refl _))
      have c9 : Steps p.tables e below (s₁.setTop (entryFrame m #[.ref b, .int (Int32.ofNat o), .ref d, .int (Int32.ofNat q), .int (Int32.ofNat len)] 7)) (T7.setTop (mkF m 3 #[.val (.ref b), .val (.int (Int32.ofNat (o + i) + 1)), .val (.ref d), .val (.int (Int32.ofNat (q + i) + 1)), .val (.int (Int32.ofNat len)), .val (.int (Int32.ofNat i + 1)), .val (.int (cv A (o + i)))] [])) := c8.trans (by
        refine iincV X7.here hexec rfl 1 (hb hbytes d32) (by decide) rfl rfl ?_
        refine iincV X7.here hexec rfl 1 (hb hbytes d35) (by decide) rfl rfl ?_
        refine iincV X7.here hexec rfl 1 (hb hbytes d38) (by decide) rfl rfl ?_
        refine XS.goto X7.here hexec rfl (pc0 := 41) rfl (hb hbytes d41) (by decide) rfl ?_
        exact Steps.refl _)
      have c10 : Steps p.tables e below (s₁.setTop (entryFrame m #[.ref b, .int (Int32.ofNat o), .ref d, .int (Int32.ofNat q), .int (Int32.ofNat len)] 7)) (T7.setTop (mkF m 3 #[.val (.ref b), .val (.int (Int32.ofNat (o + (i + 1)))), .val (.ref d), .val (.int (Int32.ofNat (q + (i + 1)))), .val (.int (Int32.ofNat len)), .val (.int (Int32.ofNat (i + 1))), .val (.int (cv A (o + i)))] [])) := by
        have := c9
        rw [succ32, succ32, succ32] at this
        exact this
      exact ih (i + 1) (by omega) _ (Or.inr ⟨_, rfl, rfl⟩) T7 _ (by rw [copyLocs_step, ← List.append_assoc]; exact X7) (pl.trans p7) (fl.step (by omega) hlt (by simp)) c10
  obtain ⟨T9, B9, z9, X9, p9, f9, g9⟩ := loop len 0 (by omega) .unset (Or.inl rfl) s₁ B (by simpa [copyLocs] using X0) ⟨hB0.1, fun _ _ => rfl, rfl⟩ (Laid.zero _ _ _) c2
  have c11 : Steps p.tables e below (s₁.setTop (entryFrame m #[.ref b, .int (Int32.ofNat o), .ref d, .int (Int32.ofNat q), .int (Int32.ofNat len)] 7)) (T9.setTop (mkF m 46 #[.val (.ref b), .val (.int (Int32.ofNat (o + len))), .val (.ref d), .val (.int (Int32.ofNat (q + len))), .val (.int (Int32.ofNat len)), .val (.int (Int32.ofNat len)), z9] [.int (Int32.ofNat len)])) := g9.trans (by
    refine XS.iload X9.here hexec rfl (hb hbytes d3) rfl ?_
    refine XS.iload X9.here hexec rfl (hb hbytes d5) rfl ?_
    refine XS.icmpYes X9.here hexec rfl (pc0 := 7) rfl (hb hbytes d7) rfl (ii_ge_t (nlt32 (by omega) (Nat.le_refl _))) (by decide) rfl ?_
    refine XS.iload X9.here hexec rfl (hb hbytes d44) rfl ?_
    exact Steps.refl _)
  exact ⟨T9, some (.int (Int32.ofNat len)), _, _, _, X9, by simp, rfl, rfl, (fun h => by cases h), ⟨rfl, B9, p9.from hh0, f9⟩, fun fs hl => c11.trans (X9.ireturnOut hexec hret rfl (Or.inl rfl) (hb hbytes d46) hl)⟩
end Cmp5
namespace Cmp3
def yN : MethodName := ⟨"java/lang/StringUTF16", "compress", "([CII)[B"⟩
abbrev yB : ByteArray := jdk_52_method_16_code
theorem d0 : decode yB 0 = .ok (.iload_n 2, 1) := by decide +kernel
theorem d1 : decode yB 1 = .ok (.newarray .byte, 2) := by decide +kernel
theorem d3 : decode yB 3 = .ok (.astore_n 3, 1) := by decide +kernel
theorem d4 : decode yB 4 = .ok (.aload_n 0, 1) := by decide +kernel
theorem d5 : decode yB 5 = .ok (.iload_n 1, 1) := by decide +kernel
theorem d6 : decode yB 6 = .ok (.aload_n 3, 1) := by decide +kernel
theorem d7 : decode yB 7 = .ok (.iconst 0, 1) := by decide +kernel
theorem d8 : decode yB 8 = .ok (.iload_n 2, 1) := by decide +kernel
theorem d9 : decode yB 9 = .ok (.invokestatic 115, 3) := by decide +kernel
theorem d12 : decode yB 12 = .ok (.istore 4, 2) := by decide +kernel
theorem d14 : decode yB 14 = .ok (.iload 4, 2) := by decide +kernel
theorem d16 : decode yB 16 = .ok (.iload_n 2, 1) := by decide +kernel
theorem d17 : decode yB 17 = .ok (.if_icmp (.eq) 40, 3) := by decide +kernel
theorem d57 : decode yB 57 = .ok (.aload_n 3, 1) := by decide +kernel
theorem d58 : decode yB 58 = .ok (.areturn, 1) := by decide +kernel
def site : List Cond := [.arrayClass .byte, Cmp5.tab] ++ staticW U16 115 Cmp5.yN
def tab : Cond := tabOf yN yB 6 (some (.array .byte)) site
def P (b : Addr) (A : Cell) (o len : Nat) (args : Array Value) (s : State) : Prop := args = #[.ref b, .int (Int32.ofNat o), .int (Int32.ofNat len)] ∧ Ch b A s ∧ o + len ≤ A.slots.size ∧ len ≤ 536870912 ∧ ∀ i, i < len → ¬ 255 < cv A (o + i)
def E (b : Addr) (A : Cell) (o len : Nat) (r : Option Value) (s u : State) : Prop := NewArr .byte "[B" len (fun j => .int (lo8 (cv A (o + j)))) r s u ∧ u.heap.size = s.heap.size + 1
/-- no char of the range above 255: a new byte[] of their low bytes -/
theorem law (l : Launch) (b : Addr) (A : Cell) (o len : Nat) : Law l yN 3 3 1 18 yB 6 (some (.array .byte)) site (P b A o len) (E b A o len) [] 1 len := by
  refine Law.of_walk (plainFor_of_name (by decide +kernel)) (by decide +kernel) (by decide +kernel) (by decide) (fun _ _ h => by rw [h.1]; rfl) (fun _ U U' hal hh h => ⟨h.1, h.2.1.mv hal hh, h.2.2⟩) (fun r U U' V V' h1 hal h2 h => ⟨NewArr.mv r U U' V V' h1 hal h2 h.1, by rw [h1, h2]; exact h.2⟩) ?_
  intro p e s m args below meth c s₁ X0 hexec hbytes hml hret hlk hnm hown hh0 W hP
  obtain ⟨rfl, hA, l1, l2, hp⟩ := hP
  have a31 := hA.1.2.2.2
  have c1 : Steps p.tables e below (s₁.setTop (entryFrame m #[.ref b, .int (Int32.ofNat o), .int (Int32.ofNat len)] 6)) (s₁.setTop (mkF m 0 #[.val (.ref b), .val (.int (Int32.ofNat o)), .val (.int (Int32.ofNat len)), .unset, .unset, .unset] [])) := entry rfl
  have c2 : Steps p.tables e below (s₁.setTop (entryFrame m #[.ref b, .int (Int32.ofNat o), .int (Int32.ofNat len)] 6)) (s₁.setTop (mkF m 1 #[.val (.ref b), .val (.int (Int32.ofNat o)), .val (.int (Int32.ofNat len)), .unset, .unset, .unset] [.int (Int32.ofNat len)])) := c1.trans (by
    refine XS.iloadN X0.here hexec rfl (hb hbytes d0) rfl ?_
    exact Steps.refl _)
  obtain ⟨T3, B3, X3, ba3, bs3, bv3, bh3, bf3, st3⟩ := X0.anew hexec (atype := .byte) (wk W (.arrayClass .byte)) rfl (by show len * 1 ≤ _; omega) (by omega) (g := (mkF m 1 #[.val (.ref b), .val (.int (Int32.ofNat o)), .val (.int (Int32.ofNat len)), .unset, .unset, .unset] [.int (Int32.ofNat len)])) rfl (hb hbytes d1) (rest := []) rfl (Nat.le_refl _) (by show 0 + len ≤ len; omega)
  rw [hh0] at ba3 st3
  have kp3 : XT.Kept s T3 := (XT.Kept.of_eq hh0).push bh3
  have hA3 := hA.keep X3.warmed.alike (kp3 _ _ hA.1.1)
  have hne : b ≠ s.heap.size := hA.1.ne
  have c4 : Steps p.tables e below (s₁.setTop (entryFrame m #[.ref b, .int (Int32.ofNat o), .int (Int32.ofNat len)] 6)) (T3.setTop (mkF m 3 #[.val (.ref b), .val (.int (Int32.ofNat o)), .val (.int (Int32.ofNat len)), .unset, .unset, .unset] [.ref s.heap.size])) := c2.trans (st3 _ (Steps.refl _))
  have c5 : Steps p.tables e below (s₁.setTop (entryFrame m #[.ref b, .int (Int32.ofNat o), .int (Int32.ofNat len)] 6)) (T3.setTop (mkF m 9 #[.val (.ref b), .val (.int (Int32.ofNat o)), .val (.int (Int32.ofNat len)), .val (.ref s.heap.size), .unset, .unset] [.int (Int32.ofNat len), .int 0, .ref s.heap.size, .int (Int32.ofNat o), .ref b])) := c4.trans (by
    refine XS.astoreN X3.here hexec rfl (hb hbytes d3) rfl rfl rfl ?_
    refine XS.aloadN X3.here hexec rfl (hb hbytes d4) rfl rfl ?_
    refine XS.iloadN X3.here hexec rfl (hb hbytes d5) rfl ?_
    refine XS.aloadN X3.here hexec rfl (hb hbytes d6) rfl rfl ?_
    refine iconstV X3.here hexec rfl 0 (hb hbytes d7) (by decide) ?_
    refine XS.iloadN X3.here hexec rfl (hb hbytes d8) rfl ?_
    exact Steps.refl _)
  obtain ⟨v6, T6, X6, E6, g6⟩ := X3.callS hexec (Cmp5.law l b A s.heap.size B3 o 0 len) hown (wks W (staticW U16 115 Cmp5.yN)) (wk W Cmp5.tab) (W := 0) (Nat.le_of_ble_eq_true rfl) (Nat.le_of_ble_eq_true rfl) (Nat.le_refl _) (by show 0 + len + 0 ≤ len; omega) (g := (mkF m 9 #[.val (.ref b), .val (.int (Int32.ofNat o)), .val (.int (Int32.ofNat len)), .val (.ref s.heap.size), .unset, .unset] [.int (Int32.ofNat len), .int (Int32.ofNat 0), .ref s.heap.size, .int (Int32.ofNat o), .ref b])) rfl (by rw [hml]; rfl) c5 (argsL := [.ref b, .int (Int32.ofNat o), .ref s.heap.size, .int (Int32.ofNat 0), .int (Int32.ofNat len)]) (rest := []) rfl rfl (by show 2 * 0 + 0 ≤ _; decide) (hb hbytes d9) (⟨rfl, hA3, ba3, hne, l1, by rw [bs3]; simp, hp⟩)
  obtain ⟨rfl, B6, p6, f6⟩ := E6
  have c7 : Steps p.tables e below (s₁.setTop (entryFrame m #[.ref b, .int (Int32.ofNat o), .int (Int32.ofNat len)] 6)) (T6.setTop (mkF m 12 #[.val (.ref b), .val (.int (Int32.ofNat o)), .val (.int (Int32.ofNat len)), .val (.ref s.heap.size), .unset, .unset] [.int (Int32.ofNat len)])) := g6
  have c8 : Steps p.tables e below (s₁.setTop (entryFrame m #[.ref b, .int (Int32.ofNat o), .int (Int32.ofNat len)] 6)) (T6.setTop (mkF m 58 #[.val (.ref b), .val (.int (Int32.ofNat o)), .val (.int (Int32.ofNat len)), .val (.ref s.heap.size), .val (.int (Int32.ofNat len)), .unset] [.ref s.heap.size])) := c7.trans (by
    refine XS.istore X6.here hexec rfl (hb hbytes d12) rfl rfl ?_
    refine XS.iload X6.here hexec rfl (hb hbytes d14) rfl ?_
    refine XS.iloadN X6.here hexec rfl (hb hbytes d16) rfl ?_
    refine XS.icmpYes X6.here hexec rfl (pc0 := 17) rfl (hb hbytes d17) rfl (ii_eq_t rfl) (by decide) rfl ?_
    refine XS.aloadN X6.here hexec rfl (hb hbytes d57) rfl rfl ?_
    exact Steps.refl _)
  have X8 := X6.wide (L' := []) (cells' := 1) (slots' := len) (fun x hx hlt => by
    simp only [List.nil_append, copyLocs, List.mem_map, List.mem_range] at hx
    obtain ⟨i, -, rfl⟩ := hx
    exact absurd hlt (Nat.lt_irrefl _)) (Nat.le_refl _) (by omega)
  exact ⟨T6, some (.ref s.heap.size), _, _, _, X8, rfl, rfl, rfl, (fun h => by cases h), ⟨⟨rfl, B6, ba3.like (X3.warmed.alike.symm.trans X6.warmed.alike) p6.1 f6.1 f6.2.1 f6.2.2.1, f6.2.1.trans bv3, by rw [X6.warmed.alike.findClass, f6.1]; exact bf3, by rw [f6.2.2.1, bs3]; simp, fun j hj => by rw [f6.2.2.2 j, if_pos (by omega)]; rfl, kp3.put p6 (Nat.le_refl _)⟩, by rw [p6.2.2, bh3, hh0]; simp⟩, fun fs hl => c8.trans (X8.areturnOut hexec rfl hret rfl (hb hbytes d58) hl)⟩
end Cmp3
namespace CodL
def yN : MethodName := ⟨"java/lang/StringUTF16", "coderFromArrayLen", "([BI)B"⟩
abbrev yB : ByteArray := jdk_52_method_15_code
theorem d0 : decode yB 0 = .ok (.iload_n 1, 1) := by decide +kernel
theorem d1 : decode yB 1 = .ok (.aload_n 0, 1) := by decide +kernel
theorem d2 : decode yB 2 = .ok (.arraylength, 1) := by decide +kernel
theorem d3 : decode yB 3 = .ok (.isub, 1) := by decide +kernel
theorem d4 : decode yB 4 = .ok (.bipush 31, 2) := by decide +kernel
theorem d6 : decode yB 6 = .ok (.iushr, 1) := by decide +kernel
theorem d7 : decode yB 7 = .ok (.i2b, 1) := by decide +kernel
theorem d8 : decode yB 8 = .ok (.ireturn, 1) := by decide +kernel
def site : List Cond := []
def tab : Cond := tabOf yN yB 2 (some .byte) site
def P (d : Addr) (B : Cell) (args : Array Value) (s : State) : Prop := args = #[.ref d, .int (Int32.ofNat B.slots.size)] ∧ Arr .byte d B s
def E (r : Option Value) (s u : State) : Prop := XT.PureE (some (.int 0)) r s u
/-- an array as long as the number of chars: LATIN1 -/
theorem law (l : Launch) (d : Addr) (B : Cell) : Law l yN 2 2 0 0 yB 2 (some .byte) site (P d B) E [] 0 0 := by
  refine Law.of_walk (plainFor_of_name (by decide +kernel)) (by decide +kernel) (by decide +kernel) (by decide) (fun _ _ h => by rw [h.1]; rfl) (fun _ U U' hal hh h => ⟨h.1, h.2.mv hal hh⟩) (fun r U U' V V' h1 hal h2 h => XT.PureE.mv r U U' V V' h1 hal h2 h) ?_
  intro p e s m args below meth c s₁ X0 hexec hbytes hml hret hlk hnm hown hh0 W hP
  obtain ⟨rfl, hB⟩ := hP
  have hB0 := hB.mv X0.warmed.alike hh0
  have c1 : Steps p.tables e below (s₁.setTop (entryFrame m #[.ref d, .int (Int32.ofNat B.slots.size)] 2)) (s₁.setTop (mkF m 0 #[.val (.ref d), .val (.int (Int32.ofNat B.slots.size))] [])) := entry rfl
  have c2 : Steps p.tables e below (s₁.setTop (entryFrame m #[.ref d, .int (Int32.ofNat B.slots.size)] 2)) (s₁.setTop (mkF m 2 #[.val (.ref d), .val (.int (Int32.ofNat B.slots.size))] [.ref d, .int (Int32.ofNat B.slots.size)])) := c1.trans (by
    refine XS.iloadN X0.here hexec rfl (hb hbytes d0) rfl ?_
    refine XS.aloadN X0.here hexec rfl (hb hbytes d1) rfl rfl ?_
    exact Steps.refl _)
  have c3 : Steps p.tables e below (s₁.setTop (entryFrame m #[.ref d, .int (Int32.ofNat B.slots.size)] 2)) (s₁.setTop (mkF m 8 #[.val (.ref d), .val (.int (Int32.ofNat B.slots.size))] [.int (lo8 (ushr (Int32.ofNat B.slots.size - Int32.ofNat B.slots.size) 31))])) := c2.trans (by
    refine X0.alen hexec hB0 rfl rfl (hb hbytes d2) ?_
    refine XS.isub X0.here hexec rfl (hb hbytes d3) rfl ?_
    refine bipushV X0.here hexec rfl 31 (hb hbytes d4) (by decide) ?_
    refine iushr X0.here hexec rfl (hb hbytes d6) rfl ?_
    refine i2b X0.here hexec rfl (hb hbytes d7) rfl ?_
    exact Steps.refl _)
  have e0 : lo8 (ushr (Int32.ofNat B.slots.size - Int32.ofNat B.slots.size) 31) = 0 := by rw [Int32.sub_self]; decide
  rw [e0] at c3
  exact ⟨s₁, some (.int 0), _, _, _, X0, rfl, rfl, rfl, (fun h => by cases h), ⟨rfl, hh0⟩, fun fs hl => c3.trans (X0.ireturnOut hexec hret rfl (Or.inr (Or.inr (Or.inl rfl))) (hb hbytes d8) hl)⟩
end CodL
/-- the String at a is Latin-1 over a new byte[] (the heap's one new cell): the low bytes of the len chars of A from o on; every cell but a is kept -/
def Got (a : Addr) (D : Cell) (fV fC : Field) (A : Cell) (o len : Nat) (r : Option Value) (s u : State) : Prop := r = none ∧ ∃ D' V : Cell, Blank "java/lang/String" a D' u ∧ Same D D' [fV.slot, fC.slot] ∧ D'.slots[fV.slot]? = some (.ref s.heap.size) ∧ D'.slots[fC.slot]? = some (.int 0) ∧ Arr .byte s.heap.size V u ∧ V.vm = .none ∧ u.vm.findClass "[B" = some V.cls ∧ V.slots.size = len ∧ (∀ j, j < len → V.slots[j]? = some (.int (lo8 (cv A (o + j))))) ∧ (∀ (y : Addr) (c : Cell), y ≠ a → s.heap[y]? = some c → u.heap[y]? = some c) ∧ u.heap.size = s.heap.size + 1
theorem Got.mv {a : Addr} {D A : Cell} {fV fC : Field} {o len : Nat} : ∀ r (U U' V V' : State), U'.heap = U.heap → V.vm.Alike V'.vm → V'.heap = V.heap → Got a D fV fC A o len r U V → Got a D fV fC A o len r U' V' :=
  fun r U U' V V' h1 hal h2 ⟨e0, D', X, a1, a2, a3, a4, a5, a6, a7, a8, a9, a10, a11⟩ => ⟨e0, D', X, a1.mv hal h2, a2, by rw [h1]; exact a3, a4, by rw [h1]; exact a5.mv hal h2, a6, by rw [hal.findClass]; exact a7, a8, a9, by rw [h1, h2]; exact a10, by rw [h1, h2]; exact a11⟩
namespace New4
def yN : MethodName := ⟨"java/lang/String", "<init>", "([CIILjava/lang/Void;)V"⟩
abbrev yB : ByteArray := jdk_42_method_149_code
theorem d0 : decode yB 0 = .ok (.aload_n 0, 1) := by decide +kernel
theorem d1 : decode yB 1 = .ok (.invokespecial 1, 3) := by decide +kernel
theorem d4 : decode yB 4 = .ok (.iload_n 3, 1) := by decide +kernel
theorem d5 : decode yB 5 = .ok (.ifCond (.ne) 22, 3) := by decide +kernel
theorem d27 : decode yB 27 = .ok (.getstatic 38, 3) := by decide +kernel
theorem d30 : decode yB 30 = .ok (.ifCond (.eq) 28, 3) := by decide +kernel
theorem d33 : decode yB 33 = .ok (.aload_n 1, 1) := by decide +kernel
theorem d34 : decode yB 34 = .ok (.iload_n 2, 1) := by decide +kernel
theorem d35 : decode yB 35 = .ok (.iload_n 3, 1) := by decide +kernel
theorem d36 : decode yB 36 = .ok (.invokestatic 177, 3) := by decide +kernel
theorem d39 : decode yB 39 = .ok (.astore 5, 2) := by decide +kernel
theorem d41 : decode yB 41 = .ok (.aload_n 0, 1) := by decide +kernel
theorem d42 : decode yB 42 = .ok (.aload 5, 2) := by decide +kernel
theorem d44 : decode yB 44 = .ok (.iload_n 3, 1) := by decide +kernel
theorem d45 : decode yB 45 = .ok (.invokestatic 47, 3) := by decide +kernel
theorem d48 : decode yB 48 = .ok (.putfield 15, 3) := by decide +kernel
theorem d51 : decode yB 51 = .ok (.aload_n 0, 1) := by decide +kernel
theorem d52 : decode yB 52 = .ok (.aload 5, 2) := by decide +kernel
theorem d54 : decode yB 54 = .ok (.putfield 9, 3) := by decide +kernel
theorem d57 : decode yB 57 = .ok (.return_, 1) := by decide +kernel
def site : List Cond := [.fieldLink "java/lang/String" 38 "java/lang/String" "COMPACT_STRINGS" "Z", Cmp3.tab, CodL.tab, .laysFinal "java/lang/String" "java/lang/String" "value" "[B", .fieldLink "java/lang/String" 9 "java/lang/String" "value" "[B", .laysFinal "java/lang/String" "java/lang/String" "coder" "B", .fieldLink "java/lang/String" 15 "java/lang/String" "coder" "B"] ++ objW "java/lang/String" 1 ++ staticW "java/lang/String" 177 Cmp3.yN ++ staticW "java/lang/String" 47 CodL.yN
def tab : Cond := tabOf yN yB 6 none site
def P (a : Addr) (D : Cell) (fV fC : Field) (b : Addr) (A : Cell) (z : Int32) (o len : Nat) (args : Array Value) (s : State) : Prop := args = #[.ref a, .ref b, .int (Int32.ofNat o), .int (Int32.ofNat len), .null] ∧ Blank "java/lang/String" a D s ∧ Found "java/lang/String" "value" "[B" fV s ∧ Found "java/lang/String" "coder" "B" fC s ∧ Ch b A s ∧ StaticIs s "java/lang/String" "COMPACT_STRINGS" "Z" (.int z) ∧ ¬ z = 0 ∧ 0 < len ∧ o + len ≤ A.slots.size ∧ len ≤ 536870912 ∧ ∀ i, i < len → ¬ 255 < cv A (o + i)
def E (a : Addr) (D : Cell) (fV fC : Field) (A : Cell) (o len : Nat) (r : Option Value) (s u : State) : Prop := Got a D fV fC A o len r s u
/-- len > 0, no char of the range above 255: a Latin-1 String of their low bytes -/
theorem law (l : Launch) (a : Addr) (D : Cell) (fV fC : Field) (b : Addr) (A : Cell) (z : Int32) (o len : Nat) : Law l yN 5 4 2 35 yB 6 none site (P a D fV fC b A z o len) (E a D fV fC A o len) [⟨a, fC.slot⟩, ⟨a, fV.slot⟩] 1 len := by
  refine Law.of_walk (plainFor_of_name (by decide +kernel)) (by decide +kernel) (by decide +kernel) (by decide) (fun _ _ h => by rw [h.1]; rfl) (fun _ U U' hal hh h => ⟨h.1, h.2.1.mv hal hh, h.2.2.1.al hal, h.2.2.2.1.al hal, h.2.2.2.2.1.mv hal hh, h.2.2.2.2.2.1.there hal hh, h.2.2.2.2.2.2⟩) (fun r U U' V V' h1 hal h2 h => Got.mv r U U' V V' h1 hal h2 h) ?_
  intro p e s m args below meth c s₁ X0 hexec hbytes hml hret hlk hnm hown hh0 W hP
  obtain ⟨rfl, hB, f1, f2, hA, s1, hz, l0, l1, l2, hp⟩ := hP
  have a31 := hA.1.2.2.2
  have c1 : Steps p.tables e below (s₁.setTop (entryFrame m #[.ref a, .ref b, .int (Int32.ofNat o), .int (Int32.ofNat len), .null] 6)) (s₁.setTop (mkF m 0 #[.val (.ref a), .val (.ref b), .val (.int (Int32.ofNat o)), .val (.int (Int32.ofNat len)), .val .null, .unset] [])) := entry rfl
  have c2 : Steps p.tables e below (s₁.setTop (entryFrame m #[.ref a, .ref b, .int (Int32.ofNat o), .int (Int32.ofNat len), .null] 6)) (s₁.setTop (mkF m 1 #[.val (.ref a), .val (.ref b), .val (.int (Int32.ofNat o)), .val (.int (Int32.ofNat len)), .val .null, .unset] [.ref a])) := c1.trans (by
    refine XS.aloadN X0.here hexec rfl (hb hbytes d0) rfl rfl ?_
    exact Steps.refl _)
  obtain ⟨T3, X3, q3, st3⟩ := X0.oinit hexec hown (wks W (objW "java/lang/String" 1)) (g := (mkF m 1 #[.val (.ref a), .val (.ref b), .val (.int (Int32.ofNat o)), .val (.int (Int32.ofNat len)), .val .null, .unset] [.ref a])) rfl (by rw [hml]; rfl) (rest := []) rfl (hb hbytes d1) (W := 0) (by show 2 * 0 + 0 ≤ _; decide) (Nat.le_of_ble_eq_true rfl) (Nat.le_of_ble_eq_true rfl)
  have hh3 := q3.trans hh0
  have c4 : Steps p.tables e below (s₁.setTop (entryFrame m #[.ref a, .ref b, .int (Int32.ofNat o), .int (Int32.ofNat len), .null] 6)) (T3.setTop (mkF m 27 #[.val (.ref a), .val (.ref b), .val (.int (Int32.ofNat o)), .val (.int (Int32.ofNat len)), .val .null, .unset] [])) := (c2.trans (st3 _ (Steps.refl _))).trans (by
    refine XS.iloadN X3.here hexec rfl (hb hbytes d4) rfl ?_
    refine XS.ifYes X3.here hexec rfl (pc0 := 5) rfl (hb hbytes d5) rfl (i0_ne_t (nz32 (by omega) l0)) (by decide) rfl ?_
    exact Steps.refl _)
  obtain ⟨T5, X5, q5, st5⟩ := X3.sget hexec hown (wk W (.fieldLink "java/lang/String" 38 "java/lang/String" "COMPACT_STRINGS" "Z")) s1 (fun _ _ h => by rw [hh3]; exact h) (g := (mkF m 27 #[.val (.ref a), .val (.ref b), .val (.int (Int32.ofNat o)), .val (.int (Int32.ofNat len)), .val .null, .unset] [])) rfl (hb hbytes d27)
  have hh5 := q5.trans hh3
  have c6 : Steps p.tables e below (s₁.setTop (entryFrame m #[.ref a, .ref b, .int (Int32.ofNat o), .int (Int32.ofNat len), .null] 6)) (T5.setTop (mkF m 30 #[.val (.ref a), .val (.ref b), .val (.int (Int32.ofNat o)), .val (.int (Int32.ofNat len)), .val .null, .unset] [.int z])) := c4.trans (st5 _ (Steps.refl _))
  have c7 : Steps p.tables e below (s₁.setTop (entryFrame m #[.ref a, .ref b, .int (Int32.ofNat o), .int (Int32.ofNat len), .null] 6)) (T5.setTop (mkF m 36 #[.val (.ref a), .val (.ref b), .val (.int (Int32.ofNat o)), .val (.int (Int32.ofNat len)), .val .null, .unset] [.int (Int32.ofNat len), .int (Int32.ofNat o), .ref b])) := c6.trans (by
    refine XS.ifNo X5.here hexec rfl (hb hbytes d30) rfl (i0_eq_f hz) ?_
    refine XS.aloadN X5.here hexec rfl (hb hbytes d33) rfl rfl ?_
    refine XS.iloadN X5.here hexec rfl (hb hbytes d34) rfl ?_
    refine XS.iloadN X5.here hexec rfl (hb hbytes d35) rfl ?_
    exact Steps.refl _)
  obtain ⟨v8, T8, X8, E8, g8⟩ := X5.callS hexec (Cmp3.law l b A o len) hown (wks W (staticW "java/lang/String" 177 Cmp3.yN)) (wk W Cmp3.tab) (W := 0) (Nat.le_of_ble_eq_true rfl) (Nat.le_of_ble_eq_true rfl) (Nat.le_refl _) (by show 0 + len ≤ len; omega) (g := (mkF m 36 #[.val (.ref a), .val (.ref b), .val (.int (Int32.ofNat o)), .val (.int (Int32.ofNat len)), .val .null, .unset] [.int (Int32.ofNat len), .int (Int32.ofNat o), .ref b])) rfl (by rw [hml]; rfl) c7 (argsL := [.ref b, .int (Int32.ofNat o), .int (Int32.ofNat len)]) (rest := []) rfl rfl (by show 2 * 0 + 0 ≤ _; decide) (hb hbytes d36) (⟨rfl, hA.mv X5.warmed.alike hh5, l1, l2, hp⟩)
  obtain ⟨e8, z8⟩ := E8
  obtain ⟨rfl, N, n1, n2, n3, n4, n5, n6⟩ := NewArr.mv _ T5 s _ _ hh5.symm (Vm.Alike.refl _) rfl e8
  rw [hh5] at z8
  have hB1 := hB.keep X8.warmed.alike (n6 _ _ hB.1)
  have hne : s.heap.size ≠ a := (Nat.ne_of_lt (Array.getElem?_eq_some_iff.mp hB.1).1).symm
  have c9 : Steps p.tables e below (s₁.setTop (entryFrame m #[.ref a, .ref b, .int (Int32.ofNat o), .int (Int32.ofNat len), .null] 6)) (T8.setTop (mkF m 39 #[.val (.ref a), .val (.ref b), .val (.int (Int32.ofNat o)), .val (.int (Int32.ofNat len)), .val .null, .unset] [.ref s.heap.size])) := g8
  have c10 : Steps p.tables e below (s₁.setTop (entryFrame m #[.ref a, .ref b, .int (Int32.ofNat o), .int (Int32.ofNat len), .null] 6)) (T8.setTop (mkF m 45 #[.val (.ref a), .val (.ref b), .val (.int (Int32.ofNat o)), .val (.int (Int32.ofNat len)), .val .null, .val (.ref s.heap.size)] [.int (Int32.ofNat N.slots.size), .ref s.heap.size, .ref a])) := by
    have hc : Steps p.tables e below (s₁.setTop (entryFrame m #[.ref a, .ref b, .int (Int32.ofNat o), .int (Int32.ofNat len), .null] 6)) (T8.setTop (mkF m 45 #[.val (.ref a), .val (.ref b), .val (.int (Int32.ofNat o)), .val (.int (Int32.ofNat len)), .val .null, .val (.ref s.heap.size)] [.int (Int32.ofNat len), .ref s.heap.size, .ref a])) := c9.trans (by
      refine XS.astore X8.here hexec rfl (hb hbytes d39) rfl rfl rfl ?_
      refine XS.aloadN X8.here hexec rfl (hb hbytes d41) rfl rfl ?_
      refine XS.aload X8.here hexec rfl (hb hbytes d42) rfl rfl ?_
      refine XS.iloadN X8.here hexec rfl (hb hbytes d44) rfl ?_
      exact Steps.refl _)
    rw [n4]; exact hc
  obtain ⟨v11, T11, X11, E11, g11⟩ := X8.callS hexec (CodL.law l s.heap.size N) hown (wks W (staticW "java/lang/String" 47 CodL.yN)) (wk W CodL.tab) (W := 1) (Nat.le_of_ble_eq_true rfl) (Nat.le_of_ble_eq_true rfl) (Nat.le_refl _) (by show 0 + len + 0 ≤ len; omega) (g := (mkF m 45 #[.val (.ref a), .val (.ref b), .val (.int (Int32.ofNat o)), .val (.int (Int32.ofNat len)), .val .null, .val (.ref s.heap.size)] [.int (Int32.ofNat N.slots.size), .ref s.heap.size, .ref a])) rfl (by rw [hml]; rfl) c10 (argsL := [.ref s.heap.size, .int (Int32.ofNat N.slots.size)]) (rest := [.ref a]) rfl rfl (by show 2 * 0 + (1 + 0) ≤ _; decide) (hb hbytes d45) (⟨rfl, n1⟩)
  obtain ⟨rfl, q11⟩ := E11
  have hB11 := hB1.mv (X8.warmed.alike.symm.trans X11.warmed.alike) q11
  have c12 : Steps p.tables e below (s₁.setTop (entryFrame m #[.ref a, .ref b, .int (Int32.ofNat o), .int (Int32.ofNat len), .null] 6)) (T11.setTop (mkF m 48 #[.val (.ref a), .val (.ref b), .val (.int (Int32.ofNat o)), .val (.int (Int32.ofNat len)), .val .null, .val (.ref s.heap.size)] [.int 0, .ref a])) := g11
  obtain ⟨T13, X13, p13, bl13, sl13, st13⟩ := X11.finit hexec hown (wk W (.fieldLink "java/lang/String" 15 "java/lang/String" "coder" "B")) (Or.inr ⟨_, (wk W (.laysFinal "java/lang/String" "java/lang/String" "coder" "B"))⟩) (Or.inl ⟨rfl, hnm⟩) f2 (Or.inl rfl) hB11 (t := .byte) (by decide +kernel) rfl (g := (mkF m 48 #[.val (.ref a), .val (.ref b), .val (.int (Int32.ofNat o)), .val (.int (Int32.ofNat len)), .val .null, .val (.ref s.heap.size)] [.int 0, .ref a])) rfl (rest := []) rfl (hb hbytes d48)
  have c14 : Steps p.tables e below (s₁.setTop (entryFrame m #[.ref a, .ref b, .int (Int32.ofNat o), .int (Int32.ofNat len), .null] 6)) (T13.setTop (mkF m 54 #[.val (.ref a), .val (.ref b), .val (.int (Int32.ofNat o)), .val (.int (Int32.ofNat len)), .val .null, .val (.ref s.heap.size)] [.ref s.heap.size, .ref a])) := (c12.trans (st13 _ (Steps.refl _))).trans (by
    refine XS.aloadN X13.here hexec rfl (hb hbytes d51) rfl rfl ?_
    refine XS.aload X13.here hexec rfl (hb hbytes d52) rfl rfl ?_
    exact Steps.refl _)
  obtain ⟨T15, X15, p15, bl15, sl15, st15⟩ := X13.finit hexec hown (wk W (.fieldLink "java/lang/String" 9 "java/lang/String" "value" "[B")) (Or.inr ⟨_, (wk W (.laysFinal "java/lang/String" "java/lang/String" "value" "[B"))⟩) (Or.inl ⟨rfl, hnm⟩) f1 (Or.inl rfl) bl13 (t := (.array .byte)) (by decide +kernel) rfl (g := (mkF m 54 #[.val (.ref a), .val (.ref b), .val (.int (Int32.ofNat o)), .val (.int (Int32.ofNat len)), .val .null, .val (.ref s.heap.size)] [.ref s.heap.size, .ref a])) rfl (rest := []) rfl (hb hbytes d54)
  have c16 : Steps p.tables e below (s₁.setTop (entryFrame m #[.ref a, .ref b, .int (Int32.ofNat o), .int (Int32.ofNat len), .null] 6)) (T15.setTop (mkF m 57 #[.val (.ref a), .val (.ref b), .val (.int (Int32.ofNat o)), .val (.int (Int32.ofNat len)), .val .null, .val (.ref s.heap.size)] [])) := c14.trans (st15 _ (Steps.refl _))
  have ap := apart (Or.inr ⟨_, (wk W (.laysFinal "java/lang/String" "java/lang/String" "value" "[B"))⟩) (Or.inr ⟨_, (wk W (.laysFinal "java/lang/String" "java/lang/String" "coder" "B"))⟩) f1 f2 (t₁ := .array .byte) (t₂ := .byte) (by decide +kernel) (by decide +kernel) (by decide)
  have al := X8.warmed.alike.symm.trans X15.warmed.alike
  have n7 : T11.heap[s.heap.size]? = some N := by rw [q11]; exact n1.1
  exact ⟨T15, none, _, _, _, X15, by simp, rfl, by omega, (fun _ => rfl), ⟨rfl, _, N, bl15, ((Same.refl D _).set _ (by simp)).set _ (by simp), sl15, (Cell.slots_setSlot_ne _ ap).trans sl13, n1.keep al (p15.other hne (p13.other hne n7)), n2, by rw [al.findClass]; exact n3, n4, n5, fun y c h1 h2 => p15.other h1 (p13.other h1 (by rw [q11]; exact n6 y c h2)), by rw [p15.2.2, p13.2.2, q11]; exact z8⟩, fun fs hl => c16.trans (X15.returnOut hexec hret (hb hbytes d57) hl)⟩
end New4
namespace New1
def yN : MethodName := ⟨"java/lang/String", "<init>", "([C)V"⟩
abbrev yB : ByteArray := jdk_42_method_3_code
theorem d0 : decode yB 0 = .ok (.aload_n 0, 1) := by decide +kernel
theorem d1 : decode yB 1 = .ok (.aload_n 1, 1) := by decide +kernel
theorem d2 : decode yB 2 = .ok (.iconst 0, 1) := by decide +kernel
theorem d3 : decode yB 3 = .ok (.aload_n 1, 1) := by decide +kernel
theorem d4 : decode yB 4 = .ok (.arraylength, 1) := by decide +kernel
theorem d5 : decode yB 5 = .ok (.aconst_null, 1) := by decide +kernel
theorem d6 : decode yB 6 = .ok (.invokespecial 27, 3) := by decide +kernel
theorem d9 : decode yB 9 = .ok (.return_, 1) := by decide +kernel
def site : List Cond := [New4.tab] ++ initW "java/lang/String" 27 New4.yN
def tab : Cond := tabOf yN yB 2 none site
def P (a : Addr) (D : Cell) (fV fC : Field) (b : Addr) (A : Cell) (z : Int32) (args : Array Value) (s : State) : Prop := args = #[.ref a, .ref b] ∧ Blank "java/lang/String" a D s ∧ Found "java/lang/String" "value" "[B" fV s ∧ Found "java/lang/String" "coder" "B" fC s ∧ Ch b A s ∧ StaticIs s "java/lang/String" "COMPACT_STRINGS" "Z" (.int z) ∧ ¬ z = 0 ∧ 0 < A.slots.size ∧ A.slots.size ≤ 536870912 ∧ ∀ i, i < A.slots.size → ¬ 255 < cv A i
def E (a : Addr) (D : Cell) (fV fC : Field) (A : Cell) (r : Option Value) (s u : State) : Prop := Got a D fV fC A 0 A.slots.size r s u
/-- new String(chars), not empty, no char above 255: a Latin-1 String of their low bytes -/
theorem law (l : Launch) (a : Addr) (D : Cell) (fV fC : Field) (b : Addr) (A : Cell) (z : Int32) : Law l yN 2 1 3 52 yB 2 none site (P a D fV fC b A z) (E a D fV fC A) [⟨a, fC.slot⟩, ⟨a, fV.slot⟩] 1 A.slots.size := by
  refine Law.of_walk (plainFor_of_name (by decide +kernel)) (by decide +kernel) (by decide +kernel) (by decide) (fun _ _ h => by rw [h.1]; rfl) (fun _ U U' hal hh h => ⟨h.1, h.2.1.mv hal hh, h.2.2.1.al hal, h.2.2.2.1.al hal, h.2.2.2.2.1.mv hal hh, h.2.2.2.2.2.1.there hal hh, h.2.2.2.2.2.2⟩) (fun r U U' V V' h1 hal h2 h => Got.mv r U U' V V' h1 hal h2 h) ?_
  intro p e s m args below meth c s₁ X0 hexec hbytes hml hret hlk hnm hown hh0 W hP
  obtain ⟨rfl, hB, f1, f2, hA, s1, hz, l0, l2, hp⟩ := hP
  have c1 : Steps p.tables e below (s₁.setTop (entryFrame m #[.ref a, .ref b] 2)) (s₁.setTop (mkF m 0 #[.val (.ref a), .val (.ref b)] [])) := entry rfl
  have c2 : Steps p.tables e below (s₁.setTop (entryFrame m #[.ref a, .ref b] 2)) (s₁.setTop (mkF m 6 #[.val (.ref a), .val (.ref b)] [.null, .int (Int32.ofNat A.slots.size), .int 0, .ref b, .ref a])) := c1.trans (by
    refine XS.aloadN X0.here hexec rfl (hb hbytes d0) rfl rfl ?_
    refine XS.aloadN X0.here hexec rfl (hb hbytes d1) rfl rfl ?_
    refine iconstV X0.here hexec rfl 0 (hb hbytes d2) (by decide) ?_
    refine XS.aloadN X0.here hexec rfl (hb hbytes d3) rfl rfl ?_
    refine X0.alen hexec (hA.1.mv X0.warmed.alike hh0) rfl rfl (hb hbytes d4) ?_
    refine XS.aconstNull X0.here hexec rfl (hb hbytes d5) ?_
    exact Steps.refl _)
  obtain ⟨v3, T3, X3, E3, g3⟩ := X0.callN hexec (New4.law l a D fV fC b A z 0 A.slots.size) rfl hown (wks W (initW "java/lang/String" 27 New4.yN)) (W New4.tab (by simp only [site, List.mem_cons, List.mem_append, true_or, or_true])) (W := 0) (Nat.le_of_ble_eq_true rfl) (Nat.le_of_ble_eq_true rfl) (Nat.le_refl _) (by show 0 + A.slots.size ≤ A.slots.size; omega) (g := (mkF m 6 #[.val (.ref a), .val (.ref b)] [.null, .int (Int32.ofNat A.slots.size), .int (Int32.ofNat 0), .ref b, .ref a])) rfl (by rw [hml]; rfl) c2 (argsL := [.ref b, .int (Int32.ofNat 0), .int (Int32.ofNat A.slots.size), .null]) (rest := []) rfl rfl (by show 2 * 0 + 0 ≤ _; decide) (hb hbytes d6) (⟨rfl, hB.mv X0.warmed.alike hh0, f1.al X0.warmed.alike, f2.al X0.warmed.alike, hA.mv X0.warmed.alike hh0, s1.there X0.warmed.alike hh0, hz, l0, by omega, l2, fun i hi => by rw [Nat.zero_add]; exact hp i hi⟩)
  have e0 := Got.mv _ s₁ s _ _ hh0.symm (Vm.Alike.refl _) rfl E3
  obtain rfl := e0.1
  have c4 : Steps p.tables e below (s₁.setTop (entryFrame m #[.ref a, .ref b] 2)) (T3.setTop (mkF m 9 #[.val (.ref a), .val (.ref b)] [])) := g3
  exact ⟨T3, none, _, _, _, X3, by simp, rfl, by omega, (fun _ => rfl), e0, fun fs hl => c4.trans (X3.returnOut hexec hret (hb hbytes d9) hl)⟩
theorem pays {l : Launch} {R : Room} {p : Program} {e : Env} {below : List Frame} {s : State} {sargs : Array Value} {len W : Nat} (a : Addr) (D : Cell) (fV fC : Field) (b : Addr) (A : Cell) (z : Int32) (htab : tab.before sargs s = true) (hfr : 4 ≤ R.frames) (hlo : W + 65 ≤ R.locals) :
    Back l R p e below s sargs yN len W (fun A₁ a₁ => A₁.cells + 1 ≤ R.cells ∧ A₁.slots + A.slots.size ≤ R.slots ∧ P a D fV fC b A z a₁ A₁.U) (fun A₁ _ v₁ B₁ => E a D fV fC A v₁ A₁.U B₁.U ∧ B₁.locs = A₁.locs ++ [⟨a, fC.slot⟩, ⟨a, fV.slot⟩] ∧ B₁.cells = A₁.cells + 1 ∧ B₁.slots = A₁.slots + A.slots.size) :=
  (law l a D fV fC b A z).pays htab hfr (by omega)
end New1
end StrChars
namespace StrChars.Road
open Jvm Sem ClassFile Op Lib Jvm.Stand Jvm.Free Jvm.Free.XT
open Jvm.Lib.Cold (StaticIs)
abbrev ST : String := "java/lang/String"
/-- every table word that New1's law asks, flat -/
abbrev words : List Jvm.Cond := [.code New1.yN New1.yB 2 none, .initialized ST, .methodLink ST 27 New4.yN, .instanceMethod New4.yN,
  .code New4.yN New4.yB 6 none, .fieldLink ST 38 ST "COMPACT_STRINGS" "Z", .laysFinal ST ST "value" "[B", .fieldLink ST 9 ST "value" "[B", .laysFinal ST ST "coder" "B", .fieldLink ST 15 ST "coder" "B",
  .methodLink ST 1 Lib.objectInit, .instanceMethod Lib.objectInit, .code Lib.objectInit ⟨#[0xb1]⟩ 1 none, .methodLink ST 177 Cmp3.yN, .static Cmp3.yN, .methodLink ST 47 CodL.yN, .static CodL.yN,
  .code Cmp3.yN Cmp3.yB 6 (some (.array .byte)), .initialized U16, .arrayClass .byte, .methodLink U16 115 Cmp5.yN, .static Cmp5.yN, .code Cmp5.yN Cmp5.yB 7 (some .int), .code CodL.yN CodL.yB 2 (some .byte)]
theorem tab_of {a : Array Value} {s : State} (h : ∀ w ∈ words, w.before a s = true) : New1.tab.before a s = true := by
  have h5 : Cmp5.tab.before a s = true := unparts (wk h (.code Cmp5.yN Cmp5.yB 7 (some .int))) (wks h (.initialized Cmp5.yN.cls :: Cmp5.site))
  have hc : CodL.tab.before a s = true := unparts (wk h (.code CodL.yN CodL.yB 2 (some .byte))) (wks h (.initialized CodL.yN.cls :: CodL.site))
  have q5 : ∀ w ∈ Cmp5.tab :: words, w.before a s = true := fun w hw => (List.mem_cons.mp hw).elim (fun e => e ▸ h5) (h w)
  have h3 : Cmp3.tab.before a s = true := unparts (wk q5 (.code Cmp3.yN Cmp3.yB 6 (some (.array .byte)))) (wks q5 (.initialized Cmp3.yN.cls :: Cmp3.site))
  have q3 : ∀ w ∈ Cmp3.tab :: CodL.tab :: words, w.before a s = true := fun w hw => (List.mem_cons.mp hw).elim (fun e => e ▸ h3) fun hw => (List.mem_cons.mp hw).elim (fun e => e ▸ hc) (h w)
  have h4 : New4.tab.before a s = true := unparts (wk q3 (.code New4.yN New4.yB 6 none)) (wks q3 (.initialized New4.yN.cls :: New4.site))
  have q4 : ∀ w ∈ New4.tab :: words, w.before a s = true := fun w hw => (List.mem_cons.mp hw).elim (fun e => e ▸ h4) (h w)
  exact unparts (wk q4 (.code New1.yN New1.yB 2 none)) (wks q4 (.initialized New1.yN.cls :: New1.site))
/-- the words ride from the start Z to the walk's own state -/
theorem moved {Z s : State} {a0 args : Array Value} (hZ : Z.Warmed39 s.vm) (hw : ∀ d ∈ words, d.before a0 Z = true) : ∀ d ∈ words, d.before args s = true := fun d hd => by
  have q := hw d hd
  have t : ∀ d ∈ words, d = .arrayClass .byte ∨ (d.onTables && d.keepsFace) = true := by decide +kernel
  rcases t d hd with rfl | t
  · exact RoadKit.mvA hZ q
  · exact RoadKit.mv hZ q t
/-- WHAT COMES BACK, over the tables of the start Z: h the heap at the call, h' behind it -/
def Q (Z : State) (x : Addr) (A : Cell) (h : Heap) (v : Option Value) (h' : Heap) (L : List Loc) : Prop := v = none ∧ (∀ y ∈ L, y.base = x) ∧ RoadKit.Keep h h' [x] ∧ h'.size = h.size + 1 ∧ RoadKit.Exa Z h' x ST ∧ RoadKit.Fld Z h' x ST "value" "[B" (.ref h.size) ∧ RoadKit.Fld Z h' x ST "coder" "B" (.int 0) ∧
  (∃ V : Cell, RoadKit.Arr Z h' h.size V .byte ∧ V.vm = .none ∧ Z.vm.findClass "[B" = some V.cls ∧ V.slots.size = A.slots.size ∧ ∀ j, j < A.slots.size → V.slots[j]? = some (.int (lo8 (cv A j)))) ∧
  ∀ (O n d : String) (w : Value), RoadKit.Fld Z h x O n d w → RoadKit.slotOf Z O n d ≠ RoadKit.slotOf Z ST "value" "[B" → RoadKit.slotOf Z O n d ≠ RoadKit.slotOf Z ST "coder" "B" → RoadKit.Fld Z h' x O n d w
/-- **new String(chars) AT A CALL, IN THE ROAD'S FORM**: for specialBack behind newO: x the fresh String, b the char[] with the cell A -/
theorem back {p : Program} {l : Launch} {e : Env} {R : Room} {s : State} {args : Array Value} {below : List Frame} {len W : Nat} {Z : State} {a0 : Array Value} {h : Heap} (hZ : Z.Warmed39 s.vm) (hw : ∀ d ∈ words, d.before a0 Z = true) {kI : Nat} (wi : (Jvm.Cond.instantiable ST kI).before a0 Z = true)
    {x b : Addr} {A : Cell} {z : Int32} {v0 c0 : Value} (E : RoadKit.Exa Z h x ST) (V : RoadKit.Fld Z h x ST "value" "[B" v0) (C : RoadKit.Fld Z h x ST "coder" "B" c0) (K : RoadKit.Arr Z h b A .char) (hty : Typed .char A) (S : RoadKit.Sta Z h ST "COMPACT_STRINGS" "Z" (.int z)) (hz : ¬ z = 0)
    (l0 : 0 < A.slots.size) (l2 : A.slots.size ≤ 536870912) (hp : ∀ i, i < A.slots.size → ¬ 255 < cv A i) (hfr : 4 ≤ R.frames) (hlo : W + 65 ≤ R.locals) :
    Back l R p e below s args New1.yN len W (fun P a => a = #[.ref x, .ref b] ∧ P.U.heap = h ∧ P.cells + 1 ≤ R.cells ∧ P.slots + A.slots.size ≤ R.slots)
      (fun P _ v B => ∃ L, Q Z x A h v B.U.heap L ∧ B.locs = P.locs ++ L ∧ B.cells = P.cells + 1 ∧ B.slots = P.slots + A.slots.size) := by
  intro m meth c P g ig mk a X hg hsize hdg hW hn hp'
  obtain ⟨rfl, rfl, r1, r2⟩ := hp'
  have al : Z.vm.Alike P.U.vm := hZ.alike.trans X.warmed.alike
  obtain ⟨D, cfV, kV, iV, fV, hD, gV, stV, knV, obV, asV, slV⟩ := id V
  obtain ⟨D', cfC, kC, iC, fC, hD', gC, stC, -, -, asC, slC⟩ := id C
  cases hD.symm.trans hD'
  obtain ⟨D2, kD, e1, e2, e3, e4, e5⟩ := id E
  cases hD.symm.trans e1
  obtain ⟨c2, k2, i1, i2, i3, -⟩ := Cond.instantiable_spec wi
  cases e2.symm.trans i1
  cases e3.symm.trans i2
  obtain ⟨kU, u1, u2⟩ := al.2.2 _ _ e3
  have hB : Blank ST x D P.U := ⟨hD, ⟨knV, fun q hq => by rw [hq] at obV; cases obV⟩, by rw [al.findClass]; exact e2, kU, u1, by rw [u2]; exact i3, by rw [u2]; exact e5 i3⟩
  have F1 : Found ST "value" "[B" fV P.U := ⟨SBG.found_only al ⟨cfV, kV, iV, gV⟩, stV⟩
  have F2 : Found ST "coder" "B" fC P.U := ⟨SBG.found_only al ⟨cfC, kC, iC, gC⟩, stC⟩
  have hA : Ch b A P.U := ⟨⟨K.1, State.isArrayOf_alike al K.2.1, K.2.2, by omega⟩, hty⟩
  have hS : StaticIs P.U ST "COMPACT_STRINGS" "Z" (.int z) := by
    obtain ⟨cfS, iS, kS, fS, st, cS, t1, t2, t3, t4, t5, t6, t7⟩ := S
    exact StaticIs.there (s := { Z with heap := P.U.heap }) ⟨cfS, iS, kS, fS, st, cS, t1, t2, t3, t4, t5, (fun q => by rw [q] at t6; cases t6), t7⟩ al rfl
  obtain ⟨v, B, X', ⟨⟨hv, E', V', q1, q2, q3, q4, q5, q6, q7, q8, q9, q10, q11⟩, hl, hc, hs⟩, st⟩ := New1.pays x D fV fC b A z (tab_of (moved hZ hw)) hfr hlo m meth c P g ig mk _ X hg hsize hdg hW hn ⟨r1, r2, rfl, hB, F1, F2, hA, hS, hz, l0, l2, hp⟩
  have al' : Z.vm.Alike B.U.vm := hZ.alike.trans X'.warmed.alike
  have hsz : E'.slots.size = D.slots.size := by
    obtain ⟨-, -, -, kB, w1, w2, w3⟩ := q1
    obtain ⟨kB', y1, y2⟩ := al'.2.2 _ _ e3
    rw [q2.2.1] at w1
    cases w1.symm.trans y1
    rw [w3, e5 i3, y2]
  refine ⟨v, B, X', ⟨_, ⟨hv, ?_, ⟨by omega, fun y cy hy hn' => q10 y cy (by simpa using hn') hy, fun y cy hy => ?_⟩, q11, ⟨E', _, q1.1, by rw [q2.2.1]; exact e2, by rw [q2.2.1]; exact e3, by rw [q2.1]; exact obV, fun _ => by rw [hsz]; exact e5 i3⟩,
    ⟨E', cfV, kV, iV, fV, q1.1, gV, stV, by rw [q2.1]; exact knV, by rw [q2.1]; exact obV, by rw [q2.2.1]; exact asV, q3⟩, ⟨E', cfC, kC, iC, fC, q1.1, gC, stC, by rw [q2.1]; exact knV, by rw [q2.1]; exact obV, by rw [q2.2.1]; exact asC, q4⟩,
    ⟨V', ⟨q5.1, State.isArrayOf_alike al'.symm q5.2.1, q5.2.2.1⟩, q6, by rw [← al'.findClass]; exact q7, q8, fun j hj => by have := q9 j hj; rwa [Nat.zero_add] at this⟩, fun O n d w F n1 n2 => ?_⟩, hl, hc, hs⟩, st⟩
  · intro y hy
    simp only [List.mem_cons, List.not_mem_nil, or_false] at hy
    rcases hy with rfl | rfl <;> rfl
  · by_cases q : y = x
    · subst q
      cases hD.symm.trans hy
      exact ⟨E', q1.1, q2.2.1, q2.1, hsz⟩
    · exact ⟨cy, q10 y cy q hy, rfl, rfl, rfl⟩
  · obtain ⟨D3, cf, k, i, f, g1, g2, g3, g4, g5, g6, g7⟩ := F
    cases hD.symm.trans g1
    simp only [RoadKit.slotOf, g2, gV, gC, Option.map_some, Option.getD_some] at n1 n2
    exact ⟨E', cf, k, i, f, q1.1, g2, g3, by rw [q2.1]; exact g4, by rw [q2.1]; exact g5, by rw [q2.2.1]; exact g6, by rw [q2.2.2 f.slot (by simp [n1, n2])]; exact g7⟩
end StrChars.Road
namespace StrChars.Road
open Jvm Sem ClassFile Op Lib Jvm.Stand Jvm.Free Jvm.Free.XT
/-- WHAT COMES BACK, the byte[] as a list of values -/
def QA (Z : State) (x : Addr) (zn : Int32) (cs : List Int32) (h : Heap) (v : Option Value) (h' : Heap) (L : List Loc) : Prop := v = none ∧ (∀ y ∈ L, y.base = x) ∧ RoadKit.Keep h h' [x] ∧ h'.size = h.size + 1 ∧ RoadKit.Exa Z h' x ST ∧ RoadKit.Fld Z h' x ST "value" "[B" (.ref h.size) ∧ RoadKit.Fld Z h' x ST "coder" "B" (.int 0) ∧
  (∃ kb, Z.vm.findClass "[B" = some kb ∧ RoadKit.Arv Z h' h.size kb .byte zn (cs.map fun c => .int (lo8 c)) (.int 0)) ∧
  ∀ (O n d : String) (w : Value), RoadKit.Fld Z h x O n d w → RoadKit.slotOf Z O n d ≠ RoadKit.slotOf Z ST "value" "[B" → RoadKit.slotOf Z O n d ≠ RoadKit.slotOf Z ST "coder" "B" → RoadKit.Fld Z h' x O n d w
/-- **new String(chars) AT A CALL, THE ARRAYS AS LISTS**: the char[] at b holds cs, not empty, no char above 255 -/
theorem backArv {p : Program} {l : Launch} {e : Env} {R : Room} {s : State} {args : Array Value} {below : List Frame} {len W : Nat} {Z : State} {a0 : Array Value} {h : Heap} (hZ : Z.Warmed39 s.vm) (hw : ∀ d ∈ words, d.before a0 Z = true) {kI : Nat} (wi : (Jvm.Cond.instantiable ST kI).before a0 Z = true)
    {x b : Addr} {k : ClassId} {zn z : Int32} {cs : List Int32} {dv v0 c0 : Value} (E : RoadKit.Exa Z h x ST) (V : RoadKit.Fld Z h x ST "value" "[B" v0) (C : RoadKit.Fld Z h x ST "coder" "B" c0) (K : RoadKit.Arv Z h b k .char zn (cs.map Value.int) dv) (S : RoadKit.Sta Z h ST "COMPACT_STRINGS" "Z" (.int z)) (hz : ¬ z = 0)
    (hlen : zn.toNatClampNeg = cs.length) (h0 : 0 < cs.length) (hbig : cs.length ≤ 536870912) (hall : ∀ c ∈ cs, ¬ 255 < c) (hfr : 4 ≤ R.frames) (hlo : W + 65 ≤ R.locals) :
    Back l R p e below s args New1.yN len W (fun P a => a = #[.ref x, .ref b] ∧ P.U.heap = h ∧ P.cells + 1 ≤ R.cells ∧ P.slots + cs.length ≤ R.slots)
      (fun P _ v B => ∃ L, QA Z x zn cs h v B.U.heap L ∧ B.locs = P.locs ++ L ∧ B.cells = P.cells + 1 ∧ B.slots = P.slots + cs.length) := by
  obtain ⟨A, K1, K2, K3, K4, K5, K6⟩ := K
  have e : A.slots.size = cs.length := K3.trans hlen
  have hat : ∀ (i : Nat) (hi : i < cs.length), A.slots[i]? = some (.int cs[i]) := fun i hi => by rw [K5 i (by omega)]; simp [List.getD_eq_getElem?_getD, hi]
  have hcv : ∀ (i : Nat) (hi : i < cs.length), cv A i = cs[i] := fun i hi => by unfold cv; rw [hat i hi]
  have hty : Typed .char A := fun i v hv => by
    have hi : i < A.slots.size := (Array.getElem?_eq_some_iff.mp hv).1
    have q := K5 i hi
    rw [hv] at q
    rw [Option.some.inj q]
    exact K6 i hi
  refine Back.mono (back hZ hw wi E V C K1 hty S hz (by omega) (by omega) (fun i hi => by rw [hcv i (by omega)]; exact hall _ (List.getElem_mem _)) hfr hlo) (fun P a hp => ⟨hp.1, hp.2.1, hp.2.2.1, by rw [e]; exact hp.2.2.2⟩) (fun P a v B hp hq => ?_)
  obtain ⟨L, ⟨q1, q2, q3, q4, q5, q6, q7, ⟨V', v1, v2, v3, v4, v5⟩, q9⟩, hl, hc, hs⟩ := hq
  refine ⟨L, ⟨q1, q2, q3, q4, q5, q6, q7, ⟨V'.cls, v3, V', v1, rfl, by rw [v4, e, hlen], K4, fun i hi => ?_, fun i hi => ?_⟩, q9⟩, hl, hc, by rw [hs, e]⟩
  · have hi' : i < cs.length := by omega
    rw [v5 i (by omega), hcv i hi']; simp [List.getD_eq_getElem?_getD, hi']
  · have hi' : i < cs.length := by omega
    simp only [List.getD_eq_getElem?_getD, List.getElem?_map, List.getElem?_eq_getElem hi', Option.map_some, Option.getD_some]
    exact fits_lo8 _
end StrChars.Road
namespace StrChars.Road
open Jvm Sem ClassFile Op Lib Jvm.Stand Jvm.Free Jvm.Free.XT
/-- WHAT COMES BACK, in the writer's own shape -/
def QV (Z : State) (x : Addr) (N : Int32) (bs : List Int32) (h : Heap) (n0 : Nat) (v : Option Value) (h' : Heap) (L : List Loc) : Prop := v = none ∧ RoadKit.Fr n0 L ∧ RoadKit.Keep h h' [x] ∧ RoadKit.Exa Z h' x ST ∧ RoadKit.Fld Z h' x ST "coder" "B" (.int 0) ∧
  ∃ (t : Addr) (kb : ClassId), n0 ≤ t ∧ h.size ≤ t ∧ ¬ t = x ∧ RoadKit.Fld Z h' x ST "value" "[B" (.ref t) ∧ RoadKit.Arv Z h' t kb .byte N (bs.map Value.int) (.int 0)
/-- **new String(chars) AT A CALL, FOR THE WRITER**: a char[] of n known ints, each 0 to 255 -/
theorem backV {p : Program} {l : Launch} {e : Env} {R : Room} {s : State} {args : Array Value} {below : List Frame} {len W : Nat} {Z : State} {a0 : Array Value} {h : Heap} (hZ : Z.Warmed39 s.vm) (hw : ∀ d ∈ words, d.before a0 Z = true) {kI : Nat} (wi : (Jvm.Cond.instantiable ST kI).before a0 Z = true)
    {x b : Addr} {kC : ClassId} {cs bs : List Int32} {d v0 c0 : Value} {z N : Int32} {n n0 : Nat} (hx0 : n0 ≤ x) (hh0 : n0 ≤ h.size) (E : RoadKit.Exa Z h x ST) (V : RoadKit.Fld Z h x ST "value" "[B" v0) (C : RoadKit.Fld Z h x ST "coder" "B" c0) (K : RoadKit.Arv Z h b kC .char N (cs.map Value.int) d) (S : RoadKit.Sta Z h ST "COMPACT_STRINGS" "Z" (.int z)) (hz : ¬ z = 0)
    (hn : cs.length = n) (hN : N = Int32.ofNat n) (l0 : 0 < n) (l2 : n ≤ 4000) (hp : ∀ c ∈ cs, ¬ c < 0 ∧ ¬ (255 : Int32) < c) (hb : bs = cs.map (fun c => c.toInt8.toInt32)) (hfr : 4 ≤ R.frames) (hlo : W + 65 ≤ R.locals) :
    Back l R p e below s args (⟨"java/lang/String", "<init>", "([C)V"⟩ : MethodName) len W (fun P a => a = #[.ref x, .ref b] ∧ P.U.heap = h ∧ P.cells + 1 ≤ R.cells ∧ P.slots + n ≤ R.slots)
      (fun P _ v B => ∃ L, QV Z x N bs h n0 v B.U.heap L ∧ B.locs = P.locs ++ L ∧ B.cells = P.cells + 1 ∧ B.slots = P.slots + n) := by
  subst hn hN hb
  refine Back.mono (backArv hZ hw wi E V C K S hz (n32 (by omega)) l0 (by omega) (fun c hc => (hp c hc).2) hfr hlo) (fun P a hp => hp) (fun P a v B hp hq => ?_)
  obtain ⟨L, ⟨q1, q2, q3, q4, q5, q6, q7, ⟨kb, v1, v2⟩, q9⟩, hl, hc, hs⟩ := hq
  exact ⟨L, ⟨q1, fun y hy => by rw [q2 y hy]; exact hx0, q3, q5, q7, h.size, kb, hh0, Nat.le_refl _, Nat.ne_of_gt E.lt, q6, by rw [List.map_map]; exact v2⟩, hl, hc, hs⟩
end StrChars.Road
end Jvm.Pilot.@@N@@
namespace Jvm.Pilot.@@N@@
open Jvm Jvm.ClassFile Sem Op Lib Jvm.Free Jvm.Stand Jvm.LawKit Jvm.RoadKit Jvm.OwnW Bundle Jvm.Pilot.@@N@@.Jvm.D
theorem pn0 : plainName "java/lang/String" = true := by first | (simp [plainName, overriddenIn]; done) | decide +kernel
theorem d2_0 : decode jdk_42_method_154_code 0 = .ok (.getstatic 38, 3) := by decide +kernel
theorem d2_3 : decode jdk_42_method_154_code 3 = .ok (.ifCond .eq 14, 3) := by decide +kernel
theorem d2_6 : decode jdk_42_method_154_code 6 = .ok (.aload_n 0, 1) := by decide +kernel
theorem d2_7 : decode jdk_42_method_154_code 7 = .ok (.getfield 15, 3) := by decide +kernel
theorem d2_10 : decode jdk_42_method_154_code 10 = .ok (.ifCond .ne 7, 3) := by decide +kernel
theorem d2_13 : decode jdk_42_method_154_code 13 = .ok (.iconst 1, 1) := by decide +kernel
theorem d2_14 : decode jdk_42_method_154_code 14 = .ok (.goto 4, 3) := by decide +kernel
theorem d2_18 : decode jdk_42_method_154_code 18 = .ok (.ireturn, 1) := by decide +kernel
def Q_rm_isl (Z : State) (x : Addr) (G1 : Int32) (h0 : Heap) (v : Option Value) (h : Heap) (L : List Loc) : Prop := v = some (.int (1 : Int32)) ∧ Fk h0.size [] L ∧ h = h0
set_option maxRecDepth 65536 in
set_option maxHeartbeats 40000000 in
theorem rm_isl (l : Launch) (Z : State) (a0 : Array Value) (hw : ∀ d ∈ tables_1, d.before a0 Z = true) (ws : List Jvm.Cond) (x : Addr) (G1 : Int32) (h0 : Heap) (O0 : Old Z Z.heap.size h0) (SG1 : Sta Z Z.heap "java/lang/String" "COMPACT_STRINGS" "Z" (.int G1)) (nG1 : ¬ G1 = 0) (pC : Fld Z h0 x "java/lang/String" "coder" "B" (.int (0 : Int32))) :
    Ctr l Z (⟨"java/lang/String", "isLatin1", "()Z"⟩ : MethodName) jdk_42_method_154_code 1 (some .boolean) ws ({ frames := 0, cells := 0, slots := 0, locals := 0 } : Room) #[(.ref x)] h0 (Q_rm_isl Z x G1 h0) := by
  refine Ctr.intro (Ls := fun _ => #[.val (.ref x)]) (plainFor_of_name pn0) (fun m => by first | rfl | (simp [entryFrame, mkF, argsToLocals, Value.category]; done)) ?_
  intro p e s m below meth c s₁ hx hby hml hr hlk hZ hown hnm hs0 X0 e0
  have w : ∀ (k : Nat) (d : Jvm.Cond), tables_1[k]? = some d → d.before a0 Z = true := fun k d q => hw d (List.mem_of_getElem? q)
  have N0 := Fk.nil h0.size []
  refine Wk.getstatic X0 hx hZ hown (host := "") (Or.inl (w 21 _ rfl)) Via.refl e0 (SG1.ext O0.2) (hb hby d2_0) rfl ?_
  intro T1 X1 e1
  refine Wk.ifNo X1 hx (hb hby d2_3) rfl ((if0 _ _).trans (feq nG1).1) ?_
  refine Wk.aloadN X1 hx (hb hby d2_6) rfl rfl rfl ?_
  refine Wk.getfield X1 hx hZ hown (host := "") (Or.inl (w 22 _ rfl)) Via.refl e1 pC (hb hby d2_7) rfl ?_
  intro T2 X2 e2
  refine Wk.ifNo X2 hx (hb hby d2_10) rfl ((if0 _ _).trans (teq (by decide : (0 : Int32) = (0 : Int32))).2) ?_
  refine Wk.iconst X2 hx (v := (1 : Int32)) (hb hby d2_13) rfl rfl ?_
  refine Wk.goto X2 hx (hb hby d2_14) (by decide) (q := 18) rfl ?_
  exact Wk.retZ' X2 hx hlk hr (by simp) (hb hby d2_18) (by decide) (by decide) (Qc := Q_rm_isl Z x G1 h0) e2 ⟨rfl, N0, rfl⟩
theorem pn1 : plainName "jdk/internal/util/Preconditions" = true := by first | (simp [plainName, overriddenIn]; done) | decide +kernel
theorem d5_0 : decode jdk_41_method_11_code 0 = .ok (.iload_n 0, 1) := by decide +kernel
theorem d5_1 : decode jdk_41_method_11_code 1 = .ok (.ifCond .lt 8, 3) := by decide +kernel
theorem d5_4 : decode jdk_41_method_11_code 4 = .ok (.iload_n 0, 1) := by decide +kernel
theorem d5_5 : decode jdk_41_method_11_code 5 = .ok (.iload_n 1, 1) := by decide +kernel
theorem d5_6 : decode jdk_41_method_11_code 6 = .ok (.if_icmp .lt 10, 3) := by decide +kernel
theorem d5_16 : decode jdk_41_method_11_code 16 = .ok (.iload_n 0, 1) := by decide +kernel
theorem d5_17 : decode jdk_41_method_11_code 17 = .ok (.ireturn, 1) := by decide +kernel
def Q_rm_pci (Z : State) (ix : Int32) (nn : Int32) (u : Value) (h0 : Heap) (v : Option Value) (h : Heap) (L : List Loc) : Prop := v = some (.int ix) ∧ Fk h0.size [] L ∧ h = h0
set_option maxRecDepth 65536 in
set_option maxHeartbeats 40000000 in
theorem rm_pci (l : Launch) (Z : State) (a0 : Array Value) (hw : ∀ d ∈ tables_1, d.before a0 Z = true) (ws : List Jvm.Cond) (ix : Int32) (nn : Int32) (u : Value) (h0 : Heap) (O0 : Old Z Z.heap.size h0) (ru : u.isRef = true) (i0_ : ¬ ix < 0) (i1_ : ix < nn) :
    Ctr l Z (⟨"jdk/internal/util/Preconditions", "checkIndex", "(IILjava/util/function/BiFunction;)I"⟩ : MethodName) jdk_41_method_11_code 3 (some .int) ws ({ frames := 0, cells := 0, slots := 0, locals := 0 } : Room) #[(.int ix), (.int nn), u] h0 (Q_rm_pci Z ix nn u h0) := by
  refine Ctr.intro (Ls := fun _ => #[.val (.int ix), .val (.int nn), .val u]) (plainFor_of_name pn1) (fun m => by first | rfl | (simp [entryFrame, mkF, argsToLocals, Value.category]; done) | (rcases ref_cases ru with rfl | ⟨_, rfl⟩ <;> rfl)) ?_
  intro p e s m below meth c s₁ hx hby hml hr hlk hZ hown hnm hs0 X0 e0
  have w : ∀ (k : Nat) (d : Jvm.Cond), tables_1[k]? = some d → d.before a0 Z = true := fun k d q => hw d (List.mem_of_getElem? q)
  have N0 := Fk.nil h0.size []
  refine Wk.iloadN X0 hx (hb hby d5_0) rfl rfl ?_
  refine Wk.ifNo X0 hx (hb hby d5_1) rfl ((if0 _ _).trans (flt i0_).1) ?_
  refine Wk.iloadN X0 hx (hb hby d5_4) rfl rfl ?_
  refine Wk.iloadN X0 hx (hb hby d5_5) rfl rfl ?_
  refine Wk.icmpYes X0 hx (hb hby d5_6) (by decide) (q := 16) rfl (tlt i1_).1 ?_
  refine Wk.iloadN X0 hx (hb hby d5_16) rfl rfl ?_
  exact Wk.retI' X0 hx hlk hr (hb hby d5_17) (by decide) (by decide) (Qc := Q_rm_pci Z ix nn u h0) e0 ⟨rfl, N0, rfl⟩
theorem d4_0 : decode jdk_42_method_155_code 0 = .ok (.iload_n 0, 1) := by decide +kernel
theorem d4_1 : decode jdk_42_method_155_code 1 = .ok (.iload_n 1, 1) := by decide +kernel
theorem d4_2 : decode jdk_42_method_155_code 2 = .ok (.getstatic 1053, 3) := by decide +kernel
theorem d4_5 : decode jdk_42_method_155_code 5 = .ok (.invokestatic 1059, 3) := by decide +kernel
theorem pd2 : parseMethodDescriptor "(IILjava/util/function/BiFunction;)I" = some ⟨[.int, .int, (.object "java/util/function/BiFunction")], some .int⟩ := by decide +kernel
theorem d4_8 : decode jdk_42_method_155_code 8 = .ok (.pop, 1) := by decide +kernel
theorem d4_9 : decode jdk_42_method_155_code 9 = .ok (.return_, 1) := by decide +kernel
def Q_rm_sci (Z : State) (ix : Int32) (nn : Int32) (G3 : Value) (h0 : Heap) (v : Option Value) (h : Heap) (L : List Loc) : Prop := v = none ∧ Fk h0.size [] L ∧ h = h0
set_option maxRecDepth 65536 in
set_option maxHeartbeats 40000000 in
theorem rm_sci (l : Launch) (Z : State) (a0 : Array Value) (hw : ∀ d ∈ tables_1, d.before a0 Z = true) (ws : List Jvm.Cond) (ix : Int32) (nn : Int32) (G3 : Value) (h0 : Heap) (O0 : Old Z Z.heap.size h0) (rG3 : G3.isRef = true) (SG3 : Sta Z Z.heap "jdk/internal/util/Preconditions" "SIOOBE_FORMATTER" "Ljava/util/function/BiFunction;" G3) (i0_ : ¬ ix < 0) (i1_ : ix < nn) :
    Ctr l Z (⟨"java/lang/String", "checkIndex", "(II)V"⟩ : MethodName) jdk_42_method_155_code 2 none ws ({ frames := 1, cells := 0, slots := 0, locals := 14 } : Room) #[(.int ix), (.int nn)] h0 (Q_rm_sci Z ix nn G3 h0) := by
  refine Ctr.intro (Ls := fun _ => #[.val (.int ix), .val (.int nn)]) (plainFor_of_name pn0) (fun m => by first | rfl | (simp [entryFrame, mkF, argsToLocals, Value.category]; done)) ?_
  intro p e s m below meth c s₁ hx hby hml hr hlk hZ hown hnm hs0 X0 e0
  have w : ∀ (k : Nat) (d : Jvm.Cond), tables_1[k]? = some d → d.before a0 Z = true := fun k d q => hw d (List.mem_of_getElem? q)
  have N0 := Fk.nil h0.size []
  refine Wk.iloadN X0 hx (hb hby d4_0) rfl rfl ?_
  refine Wk.iloadN X0 hx (hb hby d4_1) rfl rfl ?_
  refine Wk.getstatic X0 hx hZ hown (host := "") (Or.inl (w 31 _ rfl)) Via.refl e0 (SG3.ext O0.2) (hb hby d4_2) rfl ?_
  intro T1 X1 e1
  refine Wk.callS X1 hx hZ hown (w 33 _ rfl) (w 34 _ rfl) (w 32 _ rfl) (w 35 _ rfl) (by decide) (as' := [(.int ix), (.int nn), G3]) (backOf (W := 0) (rm_pci l Z a0 hw [] ix nn G3 h0 O0 rG3 i0_ i1_) hZ (w 35 _ rfl) (w 32 _ rfl) (by decide) (by decide)) e1 (by rw [hml]; rfl) (rest := []) (lenOf pd2 rfl) rfl (Nat.le_of_eq rfl) (hb hby d4_5) rfl (by decide) (by decide) ?_
  intro T2 h2 v2 L2 X2 e2 hQ2
  obtain ⟨rfl, Nq2, K2⟩ := hQ2
  have N2 := Fk.app N0 Nq2 (Nat.le_refl _) all0
  rw [K2] at e2
  show Wp p e below _ _ T2 (mkF m 8 #[.val (.int ix), .val (.int nn)] [(.int ix)])
  refine Wk.pop X2 hx (hb hby d4_8) rfl rfl ?_
  exact Wk.ret0' X2 hx hlk hr (hb hby d4_9) (by decide) (by decide) (Qc := Q_rm_sci Z ix nn G3 h0) e2 ⟨rfl, N2, rfl⟩
theorem pn3 : plainName "java/lang/StringLatin1" = true := by first | (simp [plainName, overriddenIn]; done) | decide +kernel
theorem d3_0 : decode jdk_43_method_2_code 0 = .ok (.iload_n 1, 1) := by decide +kernel
theorem d3_1 : decode jdk_43_method_2_code 1 = .ok (.aload_n 0, 1) := by decide +kernel
theorem d3_2 : decode jdk_43_method_2_code 2 = .ok (.arraylength, 1) := by decide +kernel
theorem d3_3 : decode jdk_43_method_2_code 3 = .ok (.invokestatic 9, 3) := by decide +kernel
theorem pd4 : parseMethodDescriptor "(II)V" = some ⟨[.int, .int], none⟩ := by decide +kernel
theorem d3_6 : decode jdk_43_method_2_code 6 = .ok (.aload_n 0, 1) := by decide +kernel
theorem d3_7 : decode jdk_43_method_2_code 7 = .ok (.iload_n 1, 1) := by decide +kernel
theorem d3_8 : decode jdk_43_method_2_code 8 = .ok (.baload, 1) := by decide +kernel
theorem d3_9 : decode jdk_43_method_2_code 9 = .ok (.sipush 255, 3) := by decide +kernel
theorem d3_12 : decode jdk_43_method_2_code 12 = .ok (.iand, 1) := by decide +kernel
theorem d3_13 : decode jdk_43_method_2_code 13 = .ok (.i2c, 1) := by decide +kernel
theorem d3_14 : decode jdk_43_method_2_code 14 = .ok (.ireturn, 1) := by decide +kernel
def Q_rm_lca (Z : State) (t : Addr) (ix : Int32) (kb : ClassId) (nn : Int32) (us : List Value) (cc : Int32) (G3 : Value) (h0 : Heap) (v : Option Value) (h : Heap) (L : List Loc) : Prop := v = some (.int cc) ∧ Fk h0.size [] L ∧ h = h0
set_option maxRecDepth 65536 in
set_option maxHeartbeats 40000000 in
theorem rm_lca (l : Launch) (Z : State) (a0 : Array Value) (hw : ∀ d ∈ tables_1, d.before a0 Z = true) (ws : List Jvm.Cond) (t : Addr) (ix : Int32) (kb : ClassId) (nn : Int32) (us : List Value) (cc : Int32) (G3 : Value) (h0 : Heap) (O0 : Old Z Z.heap.size h0) (rG3 : G3.isRef = true) (SG3 : Sta Z Z.heap "jdk/internal/util/Preconditions" "SIOOBE_FORMATTER" "Ljava/util/function/BiFunction;" G3) (pA : Arv Z h0 t kb .byte nn us (.int (0 : Int32))) (i0_ : ¬ ix < 0) (i1_ : ix < nn) (hge : us.getD ix.toNatClampNeg (.int (0 : Int32)) = .int cc.toInt8.toInt32) (hLc : Lat cc) :
    Ctr l Z (⟨"java/lang/StringLatin1", "charAt", "([BI)C"⟩ : MethodName) jdk_43_method_2_code 2 (some .char) ws ({ frames := 2, cells := 0, slots := 0, locals := 27 } : Room) #[(.ref t), (.int ix)] h0 (Q_rm_lca Z t ix kb nn us cc G3 h0) := by
  refine Ctr.intro (Ls := fun _ => #[.val (.ref t), .val (.int ix)]) (plainFor_of_name pn3) (fun m => by first | rfl | (simp [entryFrame, mkF, argsToLocals, Value.category]; done)) ?_
  intro p e s m below meth c s₁ hx hby hml hr hlk hZ hown hnm hs0 X0 e0
  have w : ∀ (k : Nat) (d : Jvm.Cond), tables_1[k]? = some d → d.before a0 Z = true := fun k d q => hw d (List.mem_of_getElem? q)
  have N0 := Fk.nil h0.size []
  refine Wk.iloadN X0 hx (hb hby d3_0) rfl rfl ?_
  refine Wk.aloadN X0 hx (hb hby d3_1) rfl rfl rfl ?_
  refine Wk.arraylength X0 hx hZ e0 pA (hb hby d3_2) rfl ?_
  refine Wk.callS X0 hx hZ hown (w 28 _ rfl) (w 29 _ rfl) (w 1 _ rfl) (w 30 _ rfl) (by decide) (as' := [(.int ix), (.int nn)]) (backOf (W := 0) (rm_sci l Z a0 hw [] ix nn G3 h0 O0 rG3 SG3 i0_ i1_) hZ (w 30 _ rfl) (w 1 _ rfl) (by decide) (by decide)) e0 (by rw [hml]; rfl) (rest := []) (lenOf pd4 rfl) rfl (Nat.le_of_eq rfl) (hb hby d3_3) rfl (by decide) (by decide) ?_
  intro T1 h1 v1 L1 X1 e1 hQ1
  obtain ⟨rfl, Nq1, K1⟩ := hQ1
  have N1 := Fk.app N0 Nq1 (Nat.le_refl _) all0
  rw [K1] at e1
  show Wp p e below _ _ T1 (mkF m 6 #[.val (.ref t), .val (.int ix)] [])
  refine Wk.aloadN X1 hx (hb hby d3_6) rfl rfl rfl ?_
  refine Wk.iloadN X1 hx (hb hby d3_7) rfl rfl ?_
  refine Wk.baload X1 hx hZ e1 pA i0_ i1_ (v := cc.toInt8.toInt32) hge (hb hby d3_8) rfl ?_
  refine Wk.sipush X1 hx (v := (255 : Int32)) (hb hby d3_9) rfl rfl ?_
  refine Wk.iand X1 hx (hb hby d3_12) rfl ?_
  refine Wk.i2c X1 hx (hb hby d3_13) rfl ?_
  intro c2 hc2
  have Lc2 : Lat c2 := lat255 hc2
  obtain rfl : cc = c2 := own_latb hLc hc2
  exact Wk.retZ' X1 hx hlk hr (by simp) (hb hby d3_14) (by decide) (by decide) (Qc := Q_rm_lca Z t ix kb nn us cc G3 h0) e1 ⟨(congrArg (fun q => some (Value.int q)) (narC hLc.chr)), N1, rfl⟩
theorem d1_0 : decode jdk_42_method_56_code 0 = .ok (.aload_n 0, 1) := by decide +kernel
theorem d1_1 : decode jdk_42_method_56_code 1 = .ok (.invokevirtual 492, 3) := by decide +kernel
theorem pd5 : parseMethodDescriptor "()Z" = some ⟨[], some .boolean⟩ := by decide +kernel
theorem d1_4 : decode jdk_42_method_56_code 4 = .ok (.ifCond .eq 12, 3) := by decide +kernel
theorem d1_7 : decode jdk_42_method_56_code 7 = .ok (.aload_n 0, 1) := by decide +kernel
theorem d1_8 : decode jdk_42_method_56_code 8 = .ok (.getfield 9, 3) := by decide +kernel
theorem d1_11 : decode jdk_42_method_56_code 11 = .ok (.iload_n 1, 1) := by decide +kernel
theorem d1_12 : decode jdk_42_method_56_code 12 = .ok (.invokestatic 495, 3) := by decide +kernel
theorem pd6 : parseMethodDescriptor "([BI)C" = some ⟨[(.array .byte), .int], some .char⟩ := by decide +kernel
theorem d1_15 : decode jdk_42_method_56_code 15 = .ok (.ireturn, 1) := by decide +kernel
def Q_rm_cha (Z : State) (x : Addr) (t : Addr) (G1 : Int32) (ix : Int32) (kb : ClassId) (nn : Int32) (us : List Value) (cc : Int32) (G3 : Value) (h0 : Heap) (v : Option Value) (h : Heap) (L : List Loc) : Prop := v = some (.int cc) ∧ Fk h0.size [] L ∧ h = h0
set_option maxRecDepth 65536 in
set_option maxHeartbeats 40000000 in
theorem rm_cha (l : Launch) (Z : State) (a0 : Array Value) (hw : ∀ d ∈ tables_1, d.before a0 Z = true) (ws : List Jvm.Cond) (x : Addr) (t : Addr) (G1 : Int32) (ix : Int32) (kb : ClassId) (nn : Int32) (us : List Value) (cc : Int32) (G3 : Value) (h0 : Heap) (O0 : Old Z Z.heap.size h0) (SG1 : Sta Z Z.heap "java/lang/String" "COMPACT_STRINGS" "Z" (.int G1)) (nG1 : ¬ G1 = 0) (rG3 : G3.isRef = true) (SG3 : Sta Z Z.heap "jdk/internal/util/Preconditions" "SIOOBE_FORMATTER" "Ljava/util/function/BiFunction;" G3) (pp0_ : Exa Z h0 x "java/lang/String") (pp1_ : Fld Z h0 x "java/lang/String" "coder" "B" (.int (0 : Int32))) (pp2_ : Fld Z h0 x "java/lang/String" "value" "[B" (.ref t)) (pp3_ : Arv Z h0 t kb .byte nn us (.int (0 : Int32))) (i0_ : ¬ ix < 0) (i1_ : ix < nn) (hge : us.getD ix.toNatClampNeg (.int (0 : Int32)) = .int cc.toInt8.toInt32) (hLc : Lat cc) :
    Ctr l Z (⟨"java/lang/String", "charAt", "(I)C"⟩ : MethodName) jdk_42_method_56_code 2 (some .char) ws ({ frames := 3, cells := 0, slots := 0, locals := 40 } : Room) #[(.ref x), (.int ix)] h0 (Q_rm_cha Z x t G1 ix kb nn us cc G3 h0) := by
  refine Ctr.intro (Ls := fun _ => #[.val (.ref x), .val (.int ix)]) (plainFor_of_name pn0) (fun m => by first | rfl | (simp [entryFrame, mkF, argsToLocals, Value.category]; done)) ?_
  intro p e s m below meth c s₁ hx hby hml hr hlk hZ hown hnm hs0 X0 e0
  have w : ∀ (k : Nat) (d : Jvm.Cond), tables_1[k]? = some d → d.before a0 Z = true := fun k d q => hw d (List.mem_of_getElem? q)
  have N0 := Fk.nil h0.size []
  refine Wk.aloadN X0 hx (hb hby d1_0) rfl rfl rfl ?_
  refine Wk.callV X0 hx hZ (y := (⟨"java/lang/String", "isLatin1", "()Z"⟩ : MethodName)) (z := (⟨"java/lang/String", "isLatin1", "()Z"⟩ : MethodName)) hown (w 16 _ rfl) (w 17 _ rfl) (notFace_of_selects (args := #[]) (mvT hZ (w 19 _ rfl))) (w 19 _ rfl) (w 18 _ rfl) (by decide) (as' := []) (backOf (W := 0) (rm_isl l Z a0 hw [] x G1 h0 O0 SG1 nG1 pp1_) hZ (w 20 _ rfl) (w 1 _ rfl) (by decide) (by decide)) e0 pp0_ (by rw [hml]; rfl) (rest := []) (lenOf pd5 rfl) rfl (Nat.le_of_eq rfl) (hb hby d1_1) rfl (by decide) (by decide) ?_
  intro T1 h1 v1 L1 X1 e1 hQ1
  obtain ⟨rfl, Nq1, K1⟩ := hQ1
  have N1 := Fk.app N0 Nq1 (Nat.le_refl _) all0
  rw [K1] at e1
  show Wp p e below _ _ T1 (mkF m 4 #[.val (.ref x), .val (.int ix)] [(.int (1 : Int32))])
  refine Wk.ifNo X1 hx (hb hby d1_4) rfl ((if0 _ _).trans (feq (by decide : ¬ ((1 : Int32) = (0 : Int32)))).1) ?_
  refine Wk.aloadN X1 hx (hb hby d1_7) rfl rfl rfl ?_
  refine Wk.getfield X1 hx hZ hown (host := "") (Or.inl (w 23 _ rfl)) Via.refl e1 pp2_ (hb hby d1_8) rfl ?_
  intro T2 X2 e2
  refine Wk.iloadN X2 hx (hb hby d1_11) rfl rfl ?_
  refine Wk.callS X2 hx hZ hown (w 24 _ rfl) (w 25 _ rfl) (w 26 _ rfl) (w 27 _ rfl) (by decide) (as' := [(.ref t), (.int ix)]) (backOf (W := 0) (rm_lca l Z a0 hw [] t ix kb nn us cc G3 h0 O0 rG3 SG3 pp3_ i0_ i1_ hge hLc) hZ (w 27 _ rfl) (w 26 _ rfl) (by decide) (by decide)) e2 (by rw [hml]; rfl) (rest := []) (lenOf pd6 rfl) rfl (Nat.le_of_eq rfl) (hb hby d1_12) rfl (by decide) (by decide) ?_
  intro T3 h3 v3 L3 X3 e3 hQ3
  obtain ⟨rfl, Nq3, K3⟩ := hQ3
  have N3 := Fk.app N1 Nq3 (Nat.le_refl _) all0
  rw [K3] at e3
  show Wp p e below _ _ T3 (mkF m 15 #[.val (.ref x), .val (.int ix)] [(.int cc)])
  exact Wk.retZ' X3 hx hlk hr (by simp) (hb hby d1_15) (by decide) (by decide) (Qc := Q_rm_cha Z x t G1 ix kb nn us cc G3 h0) e3 ⟨(congrArg (fun q => some (Value.int q)) (narC hLc.chr)), N3, rfl⟩
def own_b0 (z : Int32) : Int32 := (z >>> ((0 : Int32) &&& 31)).toInt8.toInt32
def own_b1 (z : Int32) : Int32 := (z >>> ((8 : Int32) &&& 31)).toInt8.toInt32
theorem own_join0 {z : Int32} : (((own_b0 z &&& (255 : Int32)) <<< ((0 : Int32) &&& 31)) ||| ((own_b1 z &&& (255 : Int32)) <<< ((8 : Int32) &&& 31))).toUInt32.toUInt16.toUInt32.toInt32 = z.toUInt32.toUInt16.toUInt32.toInt32 := by
  apply Int32.toBitVec_inj.mp
  have e : ∀ w : Int32, (w.toUInt32.toUInt16.toUInt32.toInt32).toBitVec = (w.toBitVec.setWidth 16).setWidth 32 := fun _ => rfl
  rw [e, e]
  congr 1
  have h8 : ((8 : Int32) &&& 31) = 8 := by decide
  have h0 : ((0 : Int32) &&& 31) = 0 := by decide
  have hb0 : (own_b0 z).toBitVec = (z.toBitVec.signExtend 8).signExtend 32 := by
    simp [own_b0, h0]
  have hb1 : (own_b1 z).toBitVec = ((z.toBitVec.sshiftRight 8).signExtend 8).signExtend 32 := by
    simp [own_b1, h8]
  apply BitVec.eq_of_getLsbD_eq
  intro i hi
  rw [h0, h8]
  have k255 : ∀ j, j < 32 → ((255 : Int32).toBitVec).getLsbD j = decide (j < 8) := by decide
  have s0 : (0 : Int32).toBitVec.smod 32 = 0#32 := by decide
  have s8 : (8 : Int32).toBitVec.smod 32 = 8#32 := by decide
  simp only [Int32.toBitVec_or, Int32.toBitVec_shiftLeft, Int32.toBitVec_and, hb0, hb1, s0, s8]
  simp only [BitVec.getLsbD_setWidth, BitVec.getLsbD_or, BitVec.getLsbD_and, BitVec.shiftLeft_eq', BitVec.getLsbD_shiftLeft, BitVec.toNat_ofNat]
  have i32 : i < 32 := by omega
  have m0 : 0 % 2 ^ 32 = 0 := by decide
  have m8 : 8 % 2 ^ 32 = 8 := by decide
  rw [m0, m8, Nat.sub_zero, k255 i i32, k255 (i - 8) (by omega)]
  by_cases hi8 : i < 8
  · simp [BitVec.getLsbD_signExtend, hi8, i32, hi, -BitVec.getLsbD_eq_getElem]
  · have h2 : i - 8 < 32 := by omega
    have h3 : i - 8 < 8 := by omega
    have h4 : 8 + (i - 8) = i := by omega
    have h5 : i - 8 < 16 := by omega
    simp [BitVec.getLsbD_signExtend, BitVec.getLsbD_sshiftRight, hi8, i32, hi, h2, h3, h4, -BitVec.getLsbD_eq_getElem]
theorem own_join {z v : Int32} (h : Chr z) (hv : v = (((own_b0 z &&& (255 : Int32)) <<< ((0 : Int32) &&& 31)) ||| ((own_b1 z &&& (255 : Int32)) <<< ((8 : Int32) &&& 31))).toUInt32.toUInt16.toUInt32.toInt32) : z = v := (hv.trans (own_join0.trans (i2c_id h))).symm
theorem own_q {x : Int32} (k : Int32) (h : k = x &&& 3) : k = 0 ∨ k = 1 ∨ k = 2 ∨ k = 3 := by
  have r := mask_rng x 3 (by decide)
  have e : (3 : Int32).toInt = 3 := rfl
  subst h
  have : (x &&& 3).toInt = 0 ∨ (x &&& 3).toInt = 1 ∨ (x &&& 3).toInt = 2 ∨ (x &&& 3).toInt = 3 := by omega
  rcases this with q | q | q | q
  · exact Or.inl (Int32.toInt_inj.mp q)
  · exact Or.inr (Or.inl (Int32.toInt_inj.mp q))
  · exact Or.inr (Or.inr (Or.inl (Int32.toInt_inj.mp q)))
  · exact Or.inr (Or.inr (Or.inr (Int32.toInt_inj.mp q)))
theorem pn7 : plainName "java/lang/StringUTF16" = true := by first | (simp [plainName, overriddenIn]; done) | decide +kernel
theorem d19_0 : decode jdk_52_method_4_code 0 = .ok (.getstatic 44, 3) := by decide +kernel
theorem d19_3 : decode jdk_52_method_4_code 3 = .ok (.ifCond .ne 25, 3) := by decide +kernel
theorem d19_28 : decode jdk_52_method_4_code 28 = .ok (.iload_n 1, 1) := by decide +kernel
theorem d19_29 : decode jdk_52_method_4_code 29 = .ok (.iconst 1, 1) := by decide +kernel
theorem d19_30 : decode jdk_52_method_4_code 30 = .ok (.ishl, 1) := by decide +kernel
theorem d19_31 : decode jdk_52_method_4_code 31 = .ok (.istore_n 1, 1) := by decide +kernel
theorem d19_32 : decode jdk_52_method_4_code 32 = .ok (.aload_n 0, 1) := by decide +kernel
theorem d19_33 : decode jdk_52_method_4_code 33 = .ok (.iload_n 1, 1) := by decide +kernel
theorem d19_34 : decode jdk_52_method_4_code 34 = .ok (.iinc 1 1, 3) := by decide +kernel
theorem d19_37 : decode jdk_52_method_4_code 37 = .ok (.iload_n 2, 1) := by decide +kernel
theorem d19_38 : decode jdk_52_method_4_code 38 = .ok (.getstatic 59, 3) := by decide +kernel
theorem d19_41 : decode jdk_52_method_4_code 41 = .ok (.ishr, 1) := by decide +kernel
theorem d19_42 : decode jdk_52_method_4_code 42 = .ok (.i2b, 1) := by decide +kernel
theorem d19_43 : decode jdk_52_method_4_code 43 = .ok (.bastore, 1) := by decide +kernel
theorem d19_44 : decode jdk_52_method_4_code 44 = .ok (.aload_n 0, 1) := by decide +kernel
theorem d19_45 : decode jdk_52_method_4_code 45 = .ok (.iload_n 1, 1) := by decide +kernel
theorem d19_46 : decode jdk_52_method_4_code 46 = .ok (.iload_n 2, 1) := by decide +kernel
theorem d19_47 : decode jdk_52_method_4_code 47 = .ok (.getstatic 63, 3) := by decide +kernel
theorem d19_50 : decode jdk_52_method_4_code 50 = .ok (.ishr, 1) := by decide +kernel
theorem d19_51 : decode jdk_52_method_4_code 51 = .ok (.i2b, 1) := by decide +kernel
theorem d19_52 : decode jdk_52_method_4_code 52 = .ok (.bastore, 1) := by decide +kernel
theorem d19_53 : decode jdk_52_method_4_code 53 = .ok (.return_, 1) := by decide +kernel
def Q_rm_put (Z : State) (t : Addr) (kk : Int32) (zz : Int32) (kb : ClassId) (nn : Int32) (vs : List Value) (pl : Nat) (h0 : Heap) (v : Option Value) (h : Heap) (L : List Loc) : Prop := v = none ∧ Fk h0.size [t] L ∧ Keep h0 h [t] ∧ Arv Z h t kb .byte nn ((vs.set pl (.int (own_b0 zz))).set (pl + 1) (.int (own_b1 zz))) (.int (0 : Int32))
set_option maxRecDepth 65536 in
set_option maxHeartbeats 40000000 in
theorem rm_put (l : Launch) (Z : State) (a0 : Array Value) (hw : ∀ d ∈ tables_1, d.before a0 Z = true) (ws : List Jvm.Cond) (t : Addr) (kk : Int32) (zz : Int32) (kb : ClassId) (nn : Int32) (vs : List Value) (pl : Nat) (h0 : Heap) (O0 : Old Z Z.heap.size h0) (sH : Sta Z Z.heap "java/lang/StringUTF16" "HI_BYTE_SHIFT" "I" (.int (0 : Int32))) (sL : Sta Z Z.heap "java/lang/StringUTF16" "LO_BYTE_SHIFT" "I" (.int (8 : Int32))) (sA : Sta Z Z.heap "java/lang/StringUTF16" "$assertionsDisabled" "Z" (.int (1 : Int32))) (hA : Arv Z h0 t kb .byte nn vs (.int (0 : Int32))) (hn0 : (kk <<< ((1 : Int32) &&& 31)) < nn) (hn1 : ((kk <<< ((1 : Int32) &&& 31)) + (1 : Int32)) < nn) (hp0 : ¬ (kk <<< ((1 : Int32) &&& 31)) < 0) (hp1 : ¬ ((kk <<< ((1 : Int32) &&& 31)) + (1 : Int32)) < 0) (hq0 : (kk <<< ((1 : Int32) &&& 31)).toNatClampNeg = pl) (hq1 : ((kk <<< ((1 : Int32) &&& 31)) + (1 : Int32)).toNatClampNeg = pl + 1) (hl : pl + 1 < vs.length) (ht : Z.heap.size ≤ t) :
    Ctr l Z (⟨"java/lang/StringUTF16", "putChar", "([BII)V"⟩ : MethodName) jdk_52_method_4_code 3 none ws ({ frames := 0, cells := 0, slots := 0, locals := 0 } : Room) #[(.ref t), (.int kk), (.int zz)] h0 (Q_rm_put Z t kk zz kb nn vs pl h0) := by
  refine Ctr.intro (Ls := fun _ => #[.val (.ref t), .val (.int kk), .val (.int zz)]) (plainFor_of_name pn7) (fun m => by first | rfl | (simp [entryFrame, mkF, argsToLocals, Value.category]; done)) ?_
  intro p e s m below meth c s₁ hx hby hml hr hlk hZ hown hnm hs0 X0 e0
  have w : ∀ (k : Nat) (d : Jvm.Cond), tables_1[k]? = some d → d.before a0 Z = true := fun k d q => hw d (List.mem_of_getElem? q)
  have N0 := Fk.nil h0.size [t]
  refine Wk.getstatic X0 hx hZ hown (host := "") (Or.inl (w 101 _ rfl)) Via.refl e0 (sA.ext O0.2) (hb hby d19_0) rfl ?_
  intro T1 X1 e1
  refine Wk.ifYes X1 hx (hb hby d19_3) (by decide) (q := 28) rfl ((if0 _ _).trans (feq (by decide : ¬ ((1 : Int32) = (0 : Int32)))).2) ?_
  refine Wk.iloadN X1 hx (hb hby d19_28) rfl rfl ?_
  refine Wk.iconst X1 hx (v := (1 : Int32)) (hb hby d19_29) rfl rfl ?_
  refine Wk.ishl X1 hx (hb hby d19_30) rfl ?_
  refine Wk.istoreNA X1 hx (Ls' := fun z => #[.val (.ref t), .val (.int z), .val (.int zz)]) (hb hby d19_31) rfl (fun _ => rfl) ?_
  intro i2 hi2
  show Wp p e below _ _ T1 (mkF m 32 #[.val (.ref t), .val (.int i2), .val (.int zz)] [])
  refine Wk.aloadN X1 hx (hb hby d19_32) rfl rfl rfl ?_
  refine Wk.iloadN X1 hx (hb hby d19_33) rfl rfl ?_
  refine Wk.iinc X1 hx (Ls' := #[.val (.ref t), .val (.int (i2 + (1 : Int32))), .val (.int zz)]) (hb hby d19_34) rfl rfl rfl ?_
  refine Wk.iloadN X1 hx (hb hby d19_37) rfl rfl ?_
  refine Wk.getstatic X1 hx hZ hown (host := "") (Or.inl (w 102 _ rfl)) Via.refl e1 (sH.ext O0.2) (hb hby d19_38) rfl ?_
  intro T3 X3 e3
  refine Wk.ishr X3 hx (hb hby d19_41) rfl ?_
  refine Wk.i2b X3 hx (hb hby d19_42) rfl ?_
  intro c4 hc4
  refine Wk.bastore X3 hx hZ e3 hA (by rw [hi2]; exact hp0) (by rw [hi2]; exact hn0) pl (by rw [hi2]; exact hq0) (Nat.lt_of_succ_lt hl) (w := (own_b0 zz)) (by rw [hc4]; exact byteId _) (hb hby d19_43) rfl ?_
  intro T5 h5 L5 M5 X5 e5 W5 A5
  have N5 := M5 _ _ N0 (Or.inl (List.mem_of_getElem? (i := 0) rfl))
  have O6 : Old Z Z.heap.size h5 := O0.wr W5 ht
  have V5 : Arv Z h5 t kb .byte nn (vs.set pl (.int (own_b0 zz))) (.int (0 : Int32)) := A5
  refine Wk.aloadN X5 hx (hb hby d19_44) rfl rfl rfl ?_
  refine Wk.iloadN X5 hx (hb hby d19_45) rfl rfl ?_
  refine Wk.iloadN X5 hx (hb hby d19_46) rfl rfl ?_
  refine Wk.getstatic X5 hx hZ hown (host := "") (Or.inl (w 103 _ rfl)) Via.refl e5 (sL.ext O6.2) (hb hby d19_47) rfl ?_
  intro T7 X7 e7
  refine Wk.ishr X7 hx (hb hby d19_50) rfl ?_
  refine Wk.i2b X7 hx (hb hby d19_51) rfl ?_
  intro c8 hc8
  refine Wk.bastore X7 hx hZ e7 V5 (by rw [hi2]; exact hp1) (by rw [hi2]; exact hn1) (pl + 1) (by rw [hi2]; exact hq1) (by rw [List.length_set]; exact hl) (w := (own_b1 zz)) (by rw [hc8]; exact byteId _) (hb hby d19_52) rfl ?_
  intro T9 h9 L9 M9 X9 e9 W9 A9
  have N9 := M9 _ _ N5 (Or.inl (List.mem_of_getElem? (i := 0) rfl))
  have O10 : Old Z Z.heap.size h9 := O6.wr W9 ht
  have V9 : Arv Z h9 t kb .byte nn ((vs.set pl (.int (own_b0 zz))).set (pl + 1) (.int (own_b1 zz))) (.int (0 : Int32)) := A9
  have KK11 : Keep h0 h9 [t] := (((Keep.refl h0 [t]).wr W5 (Or.inl (List.mem_of_getElem? (i := 0) rfl))).wr W9 (Or.inl (List.mem_of_getElem? (i := 0) rfl)))
  exact Wk.ret0' X9 hx hlk hr (hb hby d19_53) (by decide) (by decide) (Qc := Q_rm_put Z t kk zz kb nn vs pl h0) e9 ⟨rfl, N9, KK11, V9⟩
theorem d20_0 : decode jdk_52_method_5_code 0 = .ok (.getstatic 44, 3) := by decide +kernel
theorem d20_3 : decode jdk_52_method_5_code 3 = .ok (.ifCond .ne 25, 3) := by decide +kernel
theorem d20_28 : decode jdk_52_method_5_code 28 = .ok (.iload_n 1, 1) := by decide +kernel
theorem d20_29 : decode jdk_52_method_5_code 29 = .ok (.iconst 1, 1) := by decide +kernel
theorem d20_30 : decode jdk_52_method_5_code 30 = .ok (.ishl, 1) := by decide +kernel
theorem d20_31 : decode jdk_52_method_5_code 31 = .ok (.istore_n 1, 1) := by decide +kernel
theorem d20_32 : decode jdk_52_method_5_code 32 = .ok (.aload_n 0, 1) := by decide +kernel
theorem d20_33 : decode jdk_52_method_5_code 33 = .ok (.iload_n 1, 1) := by decide +kernel
theorem d20_34 : decode jdk_52_method_5_code 34 = .ok (.iinc 1 1, 3) := by decide +kernel
theorem d20_37 : decode jdk_52_method_5_code 37 = .ok (.baload, 1) := by decide +kernel
theorem d20_38 : decode jdk_52_method_5_code 38 = .ok (.sipush 255, 3) := by decide +kernel
theorem d20_41 : decode jdk_52_method_5_code 41 = .ok (.iand, 1) := by decide +kernel
theorem d20_42 : decode jdk_52_method_5_code 42 = .ok (.getstatic 59, 3) := by decide +kernel
theorem d20_45 : decode jdk_52_method_5_code 45 = .ok (.ishl, 1) := by decide +kernel
theorem d20_46 : decode jdk_52_method_5_code 46 = .ok (.aload_n 0, 1) := by decide +kernel
theorem d20_47 : decode jdk_52_method_5_code 47 = .ok (.iload_n 1, 1) := by decide +kernel
theorem d20_48 : decode jdk_52_method_5_code 48 = .ok (.baload, 1) := by decide +kernel
theorem d20_49 : decode jdk_52_method_5_code 49 = .ok (.sipush 255, 3) := by decide +kernel
theorem d20_52 : decode jdk_52_method_5_code 52 = .ok (.iand, 1) := by decide +kernel
theorem d20_53 : decode jdk_52_method_5_code 53 = .ok (.getstatic 63, 3) := by decide +kernel
theorem d20_56 : decode jdk_52_method_5_code 56 = .ok (.ishl, 1) := by decide +kernel
theorem d20_57 : decode jdk_52_method_5_code 57 = .ok (.ior, 1) := by decide +kernel
theorem d20_58 : decode jdk_52_method_5_code 58 = .ok (.i2c, 1) := by decide +kernel
theorem d20_59 : decode jdk_52_method_5_code 59 = .ok (.ireturn, 1) := by decide +kernel
def Q_rm_get (Z : State) (t : Addr) (kk : Int32) (zz : Int32) (kb : ClassId) (nn : Int32) (vs : List Value) (pl : Nat) (h0 : Heap) (v : Option Value) (h : Heap) (L : List Loc) : Prop := v = some (.int zz) ∧ Fk h0.size [] L ∧ h = h0
set_option maxRecDepth 65536 in
set_option maxHeartbeats 40000000 in
theorem rm_get (l : Launch) (Z : State) (a0 : Array Value) (hw : ∀ d ∈ tables_1, d.before a0 Z = true) (ws : List Jvm.Cond) (t : Addr) (kk : Int32) (zz : Int32) (kb : ClassId) (nn : Int32) (vs : List Value) (pl : Nat) (h0 : Heap) (O0 : Old Z Z.heap.size h0) (sH : Sta Z Z.heap "java/lang/StringUTF16" "HI_BYTE_SHIFT" "I" (.int (0 : Int32))) (sL : Sta Z Z.heap "java/lang/StringUTF16" "LO_BYTE_SHIFT" "I" (.int (8 : Int32))) (sA : Sta Z Z.heap "java/lang/StringUTF16" "$assertionsDisabled" "Z" (.int (1 : Int32))) (hA : Arv Z h0 t kb .byte nn vs (.int (0 : Int32))) (hn0 : (kk <<< ((1 : Int32) &&& 31)) < nn) (hn1 : ((kk <<< ((1 : Int32) &&& 31)) + (1 : Int32)) < nn) (hp0 : ¬ (kk <<< ((1 : Int32) &&& 31)) < 0) (hp1 : ¬ ((kk <<< ((1 : Int32) &&& 31)) + (1 : Int32)) < 0) (hq0 : (kk <<< ((1 : Int32) &&& 31)).toNatClampNeg = pl) (hq1 : ((kk <<< ((1 : Int32) &&& 31)) + (1 : Int32)).toNatClampNeg = pl + 1) (hv0 : vs.getD pl (.int (0 : Int32)) = .int (own_b0 zz)) (hv1 : vs.getD (pl + 1) (.int (0 : Int32)) = .int (own_b1 zz)) (hZc : Chr zz) :
    Ctr l Z (⟨"java/lang/StringUTF16", "getChar", "([BI)C"⟩ : MethodName) jdk_52_method_5_code 2 (some .char) ws ({ frames := 0, cells := 0, slots := 0, locals := 0 } : Room) #[(.ref t), (.int kk)] h0 (Q_rm_get Z t kk zz kb nn vs pl h0) := by
  refine Ctr.intro (Ls := fun _ => #[.val (.ref t), .val (.int kk)]) (plainFor_of_name pn7) (fun m => by first | rfl | (simp [entryFrame, mkF, argsToLocals, Value.category]; done)) ?_
  intro p e s m below meth c s₁ hx hby hml hr hlk hZ hown hnm hs0 X0 e0
  have w : ∀ (k : Nat) (d : Jvm.Cond), tables_1[k]? = some d → d.before a0 Z = true := fun k d q => hw d (List.mem_of_getElem? q)
  have N0 := Fk.nil h0.size []
  refine Wk.getstatic X0 hx hZ hown (host := "") (Or.inl (w 101 _ rfl)) Via.refl e0 (sA.ext O0.2) (hb hby d20_0) rfl ?_
  intro T1 X1 e1
  refine Wk.ifYes X1 hx (hb hby d20_3) (by decide) (q := 28) rfl ((if0 _ _).trans (feq (by decide : ¬ ((1 : Int32) = (0 : Int32)))).2) ?_
  refine Wk.iloadN X1 hx (hb hby d20_28) rfl rfl ?_
  refine Wk.iconst X1 hx (v := (1 : Int32)) (hb hby d20_29) rfl rfl ?_
  refine Wk.ishl X1 hx (hb hby d20_30) rfl ?_
  refine Wk.istoreNA X1 hx (Ls' := fun z => #[.val (.ref t), .val (.int z)]) (hb hby d20_31) rfl (fun _ => rfl) ?_
  intro i2 hi2
  show Wp p e below _ _ T1 (mkF m 32 #[.val (.ref t), .val (.int i2)] [])
  refine Wk.aloadN X1 hx (hb hby d20_32) rfl rfl rfl ?_
  refine Wk.iloadN X1 hx (hb hby d20_33) rfl rfl ?_
  refine Wk.iinc X1 hx (Ls' := #[.val (.ref t), .val (.int (i2 + (1 : Int32)))]) (hb hby d20_34) rfl rfl rfl ?_
  refine Wk.baload X1 hx hZ e1 hA (by rw [hi2]; exact hp0) (by rw [hi2]; exact hn0) (v := (own_b0 zz)) (by rw [hi2, hq0]; exact hv0) (hb hby d20_37) rfl ?_
  refine Wk.sipush X1 hx (v := (255 : Int32)) (hb hby d20_38) rfl rfl ?_
  refine Wk.iand X1 hx (hb hby d20_41) rfl ?_
  refine Wk.getstatic X1 hx hZ hown (host := "") (Or.inl (w 102 _ rfl)) Via.refl e1 (sH.ext O0.2) (hb hby d20_42) rfl ?_
  intro T3 X3 e3
  refine Wk.ishl X3 hx (hb hby d20_45) rfl ?_
  refine Wk.aloadN X3 hx (hb hby d20_46) rfl rfl rfl ?_
  refine Wk.iloadN X3 hx (hb hby d20_47) rfl rfl ?_
  refine Wk.baload X3 hx hZ e3 hA (by rw [hi2]; exact hp1) (by rw [hi2]; exact hn1) (v := (own_b1 zz)) (by rw [hi2, hq1]; exact hv1) (hb hby d20_48) rfl ?_
  refine Wk.sipush X3 hx (v := (255 : Int32)) (hb hby d20_49) rfl rfl ?_
  refine Wk.iand X3 hx (hb hby d20_52) rfl ?_
  refine Wk.getstatic X3 hx hZ hown (host := "") (Or.inl (w 103 _ rfl)) Via.refl e3 (sL.ext O0.2) (hb hby d20_53) rfl ?_
  intro T4 X4 e4
  refine Wk.ishl X4 hx (hb hby d20_56) rfl ?_
  refine Wk.ior X4 hx (hb hby d20_57) rfl ?_
  refine Wk.i2c X4 hx (hb hby d20_58) rfl ?_
  intro c5 hc5
  have Lc5 : Chr c5 := chr_i2c hc5
  obtain rfl : zz = c5 := own_join hZc hc5
  exact Wk.retZ' X4 hx hlk hr (by simp) (hb hby d20_59) (by decide) (by decide) (Qc := Q_rm_get Z t kk zz kb nn vs pl h0) e4 ⟨(congrArg (fun q => some (Value.int q)) (narC hZc)), N0, rfl⟩
def NL12 (cz0 cz1 cz2 cz3 cz4 cz5 cz6 cz7 cz8 cz9 cz10 cz11 : Int32) : Prop := (255 : Int32) < cz0 ∨ (255 : Int32) < cz1 ∨ (255 : Int32) < cz2 ∨ (255 : Int32) < cz3 ∨ (255 : Int32) < cz4 ∨ (255 : Int32) < cz5 ∨ (255 : Int32) < cz6 ∨ (255 : Int32) < cz7 ∨ (255 : Int32) < cz8 ∨ (255 : Int32) < cz9 ∨ (255 : Int32) < cz10 ∨ (255 : Int32) < cz11
def Fst12 (cz0 cz1 cz2 cz3 cz4 cz5 cz6 cz7 cz8 cz9 cz10 cz11 r : Int32) : Prop := ((255 : Int32) < cz0 ∧ r = 0) ∨ ((255 : Int32) < cz1 ∧ r = 1) ∨ ((255 : Int32) < cz2 ∧ r = 2) ∨ ((255 : Int32) < cz3 ∧ r = 3) ∨ ((255 : Int32) < cz4 ∧ r = 4) ∨ ((255 : Int32) < cz5 ∧ r = 5) ∨ ((255 : Int32) < cz6 ∧ r = 6) ∨ ((255 : Int32) < cz7 ∧ r = 7) ∨ ((255 : Int32) < cz8 ∧ r = 8) ∨ ((255 : Int32) < cz9 ∧ r = 9) ∨ ((255 : Int32) < cz10 ∧ r = 10) ∨ ((255 : Int32) < cz11 ∧ r = 11)
def NL13 (cz0 cz1 cz2 cz3 cz4 cz5 cz6 cz7 cz8 cz9 cz10 cz11 cz12 : Int32) : Prop := (255 : Int32) < cz0 ∨ (255 : Int32) < cz1 ∨ (255 : Int32) < cz2 ∨ (255 : Int32) < cz3 ∨ (255 : Int32) < cz4 ∨ (255 : Int32) < cz5 ∨ (255 : Int32) < cz6 ∨ (255 : Int32) < cz7 ∨ (255 : Int32) < cz8 ∨ (255 : Int32) < cz9 ∨ (255 : Int32) < cz10 ∨ (255 : Int32) < cz11 ∨ (255 : Int32) < cz12
def Fst13 (cz0 cz1 cz2 cz3 cz4 cz5 cz6 cz7 cz8 cz9 cz10 cz11 cz12 r : Int32) : Prop := ((255 : Int32) < cz0 ∧ r = 0) ∨ ((255 : Int32) < cz1 ∧ r = 1) ∨ ((255 : Int32) < cz2 ∧ r = 2) ∨ ((255 : Int32) < cz3 ∧ r = 3) ∨ ((255 : Int32) < cz4 ∧ r = 4) ∨ ((255 : Int32) < cz5 ∧ r = 5) ∨ ((255 : Int32) < cz6 ∧ r = 6) ∨ ((255 : Int32) < cz7 ∧ r = 7) ∨ ((255 : Int32) < cz8 ∧ r = 8) ∨ ((255 : Int32) < cz9 ∧ r = 9) ∨ ((255 : Int32) < cz10 ∧ r = 10) ∨ ((255 : Int32) < cz11 ∧ r = 11) ∨ ((255 : Int32) < cz12 ∧ r = 12)
def NL14 (cz0 cz1 cz2 cz3 cz4 cz5 cz6 cz7 cz8 cz9 cz10 cz11 cz12 cz13 : Int32) : Prop := (255 : Int32) < cz0 ∨ (255 : Int32) < cz1 ∨ (255 : Int32) < cz2 ∨ (255 : Int32) < cz3 ∨ (255 : Int32) < cz4 ∨ (255 : Int32) < cz5 ∨ (255 : Int32) < cz6 ∨ (255 : Int32) < cz7 ∨ (255 : Int32) < cz8 ∨ (255 : Int32) < cz9 ∨ (255 : Int32) < cz10 ∨ (255 : Int32) < cz11 ∨ (255 : Int32) < cz12 ∨ (255 : Int32) < cz13
def Fst14 (cz0 cz1 cz2 cz3 cz4 cz5 cz6 cz7 cz8 cz9 cz10 cz11 cz12 cz13 r : Int32) : Prop := ((255 : Int32) < cz0 ∧ r = 0) ∨ ((255 : Int32) < cz1 ∧ r = 1) ∨ ((255 : Int32) < cz2 ∧ r = 2) ∨ ((255 : Int32) < cz3 ∧ r = 3) ∨ ((255 : Int32) < cz4 ∧ r = 4) ∨ ((255 : Int32) < cz5 ∧ r = 5) ∨ ((255 : Int32) < cz6 ∧ r = 6) ∨ ((255 : Int32) < cz7 ∧ r = 7) ∨ ((255 : Int32) < cz8 ∧ r = 8) ∨ ((255 : Int32) < cz9 ∧ r = 9) ∨ ((255 : Int32) < cz10 ∧ r = 10) ∨ ((255 : Int32) < cz11 ∧ r = 11) ∨ ((255 : Int32) < cz12 ∧ r = 12) ∨ ((255 : Int32) < cz13 ∧ r = 13)
def EqL (u0 u1 u2 u3 u4 u5 u6 u7 u8 u9 u10 u11 u12 : Int32) : Prop := u0 = 102 ∧ u1 = 105 ∧ u2 = 120 ∧ u3 = 101 ∧ u4 = 100 ∧ u5 = 45 ∧ u6 = 112 ∧ u7 = 108 ∧ u8 = 117 ∧ u9 = 115 ∧ u10 = 45 ∧ u11 = 105 ∧ u12 = 105
def RelP (p d cz0 cz1 cz2 cz3 cz4 cz5 cz6 cz7 cz8 cz9 cz10 cz11 cz12 : Int32) : Prop := (p = 0 ∧ cz0 = d ∧ cz1 = 105 ∧ cz2 = 120 ∧ cz3 = 101 ∧ cz4 = 100 ∧ cz5 = 45 ∧ cz6 = 112 ∧ cz7 = 108 ∧ cz8 = 117 ∧ cz9 = 115 ∧ cz10 = 45 ∧ cz11 = 105 ∧ cz12 = 105) ∨ (p = 1 ∧ cz0 = 102 ∧ cz1 = d ∧ cz2 = 120 ∧ cz3 = 101 ∧ cz4 = 100 ∧ cz5 = 45 ∧ cz6 = 112 ∧ cz7 = 108 ∧ cz8 = 117 ∧ cz9 = 115 ∧ cz10 = 45 ∧ cz11 = 105 ∧ cz12 = 105) ∨ (p = 2 ∧ cz0 = 102 ∧ cz1 = 105 ∧ cz2 = d ∧ cz3 = 101 ∧ cz4 = 100 ∧ cz5 = 45 ∧ cz6 = 112 ∧ cz7 = 108 ∧ cz8 = 117 ∧ cz9 = 115 ∧ cz10 = 45 ∧ cz11 = 105 ∧ cz12 = 105) ∨ (p = 3 ∧ cz0 = 102 ∧ cz1 = 105 ∧ cz2 = 120 ∧ cz3 = d ∧ cz4 = 100 ∧ cz5 = 45 ∧ cz6 = 112 ∧ cz7 = 108 ∧ cz8 = 117 ∧ cz9 = 115 ∧ cz10 = 45 ∧ cz11 = 105 ∧ cz12 = 105) ∨ (p = 4 ∧ cz0 = 102 ∧ cz1 = 105 ∧ cz2 = 120 ∧ cz3 = 101 ∧ cz4 = d ∧ cz5 = 45 ∧ cz6 = 112 ∧ cz7 = 108 ∧ cz8 = 117 ∧ cz9 = 115 ∧ cz10 = 45 ∧ cz11 = 105 ∧ cz12 = 105) ∨ (p = 5 ∧ cz0 = 102 ∧ cz1 = 105 ∧ cz2 = 120 ∧ cz3 = 101 ∧ cz4 = 100 ∧ cz5 = d ∧ cz6 = 112 ∧ cz7 = 108 ∧ cz8 = 117 ∧ cz9 = 115 ∧ cz10 = 45 ∧ cz11 = 105 ∧ cz12 = 105) ∨ (p = 6 ∧ cz0 = 102 ∧ cz1 = 105 ∧ cz2 = 120 ∧ cz3 = 101 ∧ cz4 = 100 ∧ cz5 = 45 ∧ cz6 = d ∧ cz7 = 108 ∧ cz8 = 117 ∧ cz9 = 115 ∧ cz10 = 45 ∧ cz11 = 105 ∧ cz12 = 105) ∨ (p = 7 ∧ cz0 = 102 ∧ cz1 = 105 ∧ cz2 = 120 ∧ cz3 = 101 ∧ cz4 = 100 ∧ cz5 = 45 ∧ cz6 = 112 ∧ cz7 = d ∧ cz8 = 117 ∧ cz9 = 115 ∧ cz10 = 45 ∧ cz11 = 105 ∧ cz12 = 105) ∨ (p = 8 ∧ cz0 = 102 ∧ cz1 = 105 ∧ cz2 = 120 ∧ cz3 = 101 ∧ cz4 = 100 ∧ cz5 = 45 ∧ cz6 = 112 ∧ cz7 = 108 ∧ cz8 = d ∧ cz9 = 115 ∧ cz10 = 45 ∧ cz11 = 105 ∧ cz12 = 105) ∨ (p = 9 ∧ cz0 = 102 ∧ cz1 = 105 ∧ cz2 = 120 ∧ cz3 = 101 ∧ cz4 = 100 ∧ cz5 = 45 ∧ cz6 = 112 ∧ cz7 = 108 ∧ cz8 = 117 ∧ cz9 = d ∧ cz10 = 45 ∧ cz11 = 105 ∧ cz12 = 105) ∨ (p = 10 ∧ cz0 = 102 ∧ cz1 = 105 ∧ cz2 = 120 ∧ cz3 = 101 ∧ cz4 = 100 ∧ cz5 = 45 ∧ cz6 = 112 ∧ cz7 = 108 ∧ cz8 = 117 ∧ cz9 = 115 ∧ cz10 = d ∧ cz11 = 105 ∧ cz12 = 105) ∨ (p = 11 ∧ cz0 = 102 ∧ cz1 = 105 ∧ cz2 = 120 ∧ cz3 = 101 ∧ cz4 = 100 ∧ cz5 = 45 ∧ cz6 = 112 ∧ cz7 = 108 ∧ cz8 = 117 ∧ cz9 = 115 ∧ cz10 = 45 ∧ cz11 = d ∧ cz12 = 105) ∨ (p = 12 ∧ cz0 = 102 ∧ cz1 = 105 ∧ cz2 = 120 ∧ cz3 = 101 ∧ cz4 = 100 ∧ cz5 = 45 ∧ cz6 = 112 ∧ cz7 = 108 ∧ cz8 = 117 ∧ cz9 = 115 ∧ cz10 = 45 ∧ cz11 = 105 ∧ cz12 = d) ∨ (p = 13 ∧ cz0 = 102 ∧ cz1 = 105 ∧ cz2 = 120 ∧ cz3 = 101 ∧ cz4 = 100 ∧ cz5 = 45 ∧ cz6 = 112 ∧ cz7 = 108 ∧ cz8 = 117 ∧ cz9 = 115 ∧ cz10 = 45 ∧ cz11 = 105 ∧ cz12 = 105)
theorem own_m14 {i : Int32} {x : Int32} (h : i = x % 14) (hx : 0 ≤ x.toInt) : i = 0 ∨ i = 1 ∨ i = 2 ∨ i = 3 ∨ i = 4 ∨ i = 5 ∨ i = 6 ∨ i = 7 ∨ i = 8 ∨ i = 9 ∨ i = 10 ∨ i = 11 ∨ i = 12 ∨ i = 13 := by
  have r := (c_irem x 14 14 rfl).1 hx
  subst h
  have : (x % 14).toInt = 0 ∨ (x % 14).toInt = 1 ∨ (x % 14).toInt = 2 ∨ (x % 14).toInt = 3 ∨ (x % 14).toInt = 4 ∨ (x % 14).toInt = 5 ∨ (x % 14).toInt = 6 ∨ (x % 14).toInt = 7 ∨ (x % 14).toInt = 8 ∨ (x % 14).toInt = 9 ∨ (x % 14).toInt = 10 ∨ (x % 14).toInt = 11 ∨ (x % 14).toInt = 12 ∨ (x % 14).toInt = 13 := by omega
  rcases this with q | q | q | q | q | q | q | q | q | q | q | q | q | q
  · exact Or.inl (Int32.toInt_inj.mp q)
  · exact Or.inr (Or.inl (Int32.toInt_inj.mp q))
  · exact Or.inr (Or.inr (Or.inl (Int32.toInt_inj.mp q)))
  · exact Or.inr (Or.inr (Or.inr (Or.inl (Int32.toInt_inj.mp q))))
  · exact Or.inr (Or.inr (Or.inr (Or.inr (Or.inl (Int32.toInt_inj.mp q)))))
  · exact Or.inr (Or.inr (Or.inr (Or.inr (Or.inr (Or.inl (Int32.toInt_inj.mp q))))))
  · exact Or.inr (Or.inr (Or.inr (Or.inr (Or.inr (Or.inr (Or.inl (Int32.toInt_inj.mp q)))))))
  · exact Or.inr (Or.inr (Or.inr (Or.inr (Or.inr (Or.inr (Or.inr (Or.inl (Int32.toInt_inj.mp q))))))))
  · exact Or.inr (Or.inr (Or.inr (Or.inr (Or.inr (Or.inr (Or.inr (Or.inr (Or.inl (Int32.toInt_inj.mp q)))))))))
  · exact Or.inr (Or.inr (Or.inr (Or.inr (Or.inr (Or.inr (Or.inr (Or.inr (Or.inr (Or.inl (Int32.toInt_inj.mp q))))))))))
  · exact Or.inr (Or.inr (Or.inr (Or.inr (Or.inr (Or.inr (Or.inr (Or.inr (Or.inr (Or.inr (Or.inl (Int32.toInt_inj.mp q)))))))))))
  · exact Or.inr (Or.inr (Or.inr (Or.inr (Or.inr (Or.inr (Or.inr (Or.inr (Or.inr (Or.inr (Or.inr (Or.inl (Int32.toInt_inj.mp q))))))))))))
  · exact Or.inr (Or.inr (Or.inr (Or.inr (Or.inr (Or.inr (Or.inr (Or.inr (Or.inr (Or.inr (Or.inr (Or.inr (Or.inl (Int32.toInt_inj.mp q)))))))))))))
  · exact Or.inr (Or.inr (Or.inr (Or.inr (Or.inr (Or.inr (Or.inr (Or.inr (Or.inr (Or.inr (Or.inr (Or.inr (Or.inr (Int32.toInt_inj.mp q)))))))))))))
theorem own_lb {c w : Int32} (hc : Lat c) (hw : Lat w) (h : c.toInt8.toInt32 = w.toInt8.toInt32) : c = w := (own_latb hc rfl).trans ((congrArg (fun q : Int32 => (q &&& (255 : Int32)).toUInt32.toUInt16.toUInt32.toInt32) h).trans (own_latb hw rfl).symm)
theorem d18_0 : decode jdk_52_method_3_code 0 = .ok (.iload_n 0, 1) := by decide +kernel
theorem d18_1 : decode jdk_52_method_3_code 1 = .ok (.ifCond .ge 11, 3) := by decide +kernel
theorem d18_12 : decode jdk_52_method_3_code 12 = .ok (.iload_n 0, 1) := by decide +kernel
theorem d18_13 : decode jdk_52_method_3_code 13 = .ok (.ldc 20, 2) := by decide +kernel
theorem d18_15 : decode jdk_52_method_3_code 15 = .ok (.if_icmp .lt 40, 3) := by decide +kernel
theorem d18_55 : decode jdk_52_method_3_code 55 = .ok (.iload_n 0, 1) := by decide +kernel
theorem d18_56 : decode jdk_52_method_3_code 56 = .ok (.iconst 1, 1) := by decide +kernel
theorem d18_57 : decode jdk_52_method_3_code 57 = .ok (.ishl, 1) := by decide +kernel
theorem d18_58 : decode jdk_52_method_3_code 58 = .ok (.ireturn, 1) := by decide +kernel
def Q_rm_nbl12 (Z : State) (h0 : Heap) (v : Option Value) (h : Heap) (L : List Loc) : Prop := v = some (.int (24 : Int32)) ∧ Fk h0.size [] L ∧ h = h0
set_option maxRecDepth 65536 in
set_option maxHeartbeats 40000000 in
theorem rm_nbl12 (l : Launch) (Z : State) (a0 : Array Value) (hw : ∀ d ∈ tables_1, d.before a0 Z = true) (ws : List Jvm.Cond) (h0 : Heap) (O0 : Old Z Z.heap.size h0) :
    Ctr l Z (⟨"java/lang/StringUTF16", "newBytesLength", "(I)I"⟩ : MethodName) jdk_52_method_3_code 1 (some .int) ws ({ frames := 0, cells := 0, slots := 0, locals := 0 } : Room) #[(.int (12 : Int32))] h0 (Q_rm_nbl12 Z h0) := by
  refine Ctr.intro (Ls := fun _ => #[.val (.int (12 : Int32))]) (plainFor_of_name pn7) (fun m => by first | rfl | (simp [entryFrame, mkF, argsToLocals, Value.category]; done)) ?_
  intro p e s m below meth c s₁ hx hby hml hr hlk hZ hown hnm hs0 X0 e0
  have w : ∀ (k : Nat) (d : Jvm.Cond), tables_1[k]? = some d → d.before a0 Z = true := fun k d q => hw d (List.mem_of_getElem? q)
  have N0 := Fk.nil h0.size []
  refine Wk.iloadN X0 hx (hb hby d18_0) rfl rfl ?_
  refine Wk.ifYes X0 hx (hb hby d18_1) (by decide) (q := 12) rfl ((if0 _ _).trans (flt (by decide : ¬ ((12 : Int32) < (0 : Int32)))).2.1) ?_
  refine Wk.iloadN X0 hx (hb hby d18_12) rfl rfl ?_
  refine Wk.ldcInt X0 hx hZ hown (w 97 _ rfl) (hb hby d18_13) rfl ?_
  refine Wk.icmpYes X0 hx (hb hby d18_15) (by decide) (q := 55) rfl (tlt (by decide : (12 : Int32) < (1073741823 : Int32))).1 ?_
  refine Wk.iloadN X0 hx (hb hby d18_55) rfl rfl ?_
  refine Wk.iconst X0 hx (v := (1 : Int32)) (hb hby d18_56) rfl rfl ?_
  refine Wk.ishl X0 hx (hb hby d18_57) rfl ?_
  rw [(by decide : (((12 : Int32) <<< ((1 : Int32) &&& 31)) : Int32) = (24 : Int32))]
  exact Wk.retI' X0 hx hlk hr (hb hby d18_58) (by decide) (by decide) (Qc := Q_rm_nbl12 Z h0) e0 ⟨rfl, N0, rfl⟩
theorem d17_0 : decode jdk_52_method_2_code 0 = .ok (.iload_n 0, 1) := by decide +kernel
theorem d17_1 : decode jdk_52_method_2_code 1 = .ok (.invokestatic 11, 3) := by decide +kernel
theorem pd8 : parseMethodDescriptor "(I)I" = some ⟨[.int], some .int⟩ := by decide +kernel
theorem d17_4 : decode jdk_52_method_2_code 4 = .ok (.newarray .byte, 2) := by decide +kernel
theorem d17_6 : decode jdk_52_method_2_code 6 = .ok (.areturn, 1) := by decide +kernel
def Q_rm_nbf12 (Z : State) (h0 : Heap) (v : Option Value) (h : Heap) (L : List Loc) : Prop := ∃ t : Addr, ∃ kb : ClassId, v = some (.ref t) ∧ Fk h0.size [] L ∧ Keep h0 h [] ∧ h0.size ≤ t ∧ Arv Z h t kb .byte (24 : Int32) [(.int (0 : Int32)), (.int (0 : Int32)), (.int (0 : Int32)), (.int (0 : Int32)), (.int (0 : Int32)), (.int (0 : Int32)), (.int (0 : Int32)), (.int (0 : Int32)), (.int (0 : Int32)), (.int (0 : Int32)), (.int (0 : Int32)), (.int (0 : Int32)), (.int (0 : Int32)), (.int (0 : Int32)), (.int (0 : Int32)), (.int (0 : Int32)), (.int (0 : Int32)), (.int (0 : Int32)), (.int (0 : Int32)), (.int (0 : Int32)), (.int (0 : Int32)), (.int (0 : Int32)), (.int (0 : Int32)), (.int (0 : Int32))] (.int (0 : Int32))
set_option maxRecDepth 65536 in
set_option maxHeartbeats 40000000 in
theorem rm_nbf12 (l : Launch) (Z : State) (a0 : Array Value) (hw : ∀ d ∈ tables_1, d.before a0 Z = true) (ws : List Jvm.Cond) (h0 : Heap) (O0 : Old Z Z.heap.size h0) :
    Ctr l Z (⟨"java/lang/StringUTF16", "newBytesFor", "(I)[B"⟩ : MethodName) jdk_52_method_2_code 1 (some (.array .byte)) ws ({ frames := 1, cells := 1, slots := 24, locals := 12 } : Room) #[(.int (12 : Int32))] h0 (Q_rm_nbf12 Z h0) := by
  refine Ctr.intro (Ls := fun _ => #[.val (.int (12 : Int32))]) (plainFor_of_name pn7) (fun m => by first | rfl | (simp [entryFrame, mkF, argsToLocals, Value.category]; done)) ?_
  intro p e s m below meth c s₁ hx hby hml hr hlk hZ hown hnm hs0 X0 e0
  have w : ∀ (k : Nat) (d : Jvm.Cond), tables_1[k]? = some d → d.before a0 Z = true := fun k d q => hw d (List.mem_of_getElem? q)
  have N0 := Fk.nil h0.size []
  refine Wk.iloadN X0 hx (hb hby d17_0) rfl rfl ?_
  refine Wk.callS X0 hx hZ hown (w 94 _ rfl) (w 95 _ rfl) (w 49 _ rfl) (w 96 _ rfl) (by decide) (as' := [(.int (12 : Int32))]) (backOf (W := 0) (rm_nbl12 l Z a0 hw [] h0 O0) hZ (w 96 _ rfl) (w 49 _ rfl) (by decide) (by decide)) e0 (by rw [hml]; rfl) (rest := []) (lenOf pd8 rfl) rfl (Nat.le_of_eq rfl) (hb hby d17_1) rfl (by decide) (by decide) ?_
  intro T1 h1 v1 L1 X1 e1 hQ1
  obtain ⟨rfl, Nq1, K1⟩ := hQ1
  have N1 := Fk.app N0 Nq1 (Nat.le_refl _) all0
  rw [K1] at e1
  show Wp p e below _ _ T1 (mkF m 4 #[.val (.int (12 : Int32))] [(.int (24 : Int32))])
  refine Wk.newarray X1 hx hZ (w 3 _ rfl) e1 (hb hby d17_4) rfl (by decide) 24 (by decide) (by decide) (by decide) (by decide) ?_
  intro T2 h2 a2 kA2 g2 X2 e2 E2 A2
  have O3 : Old Z Z.heap.size h2 := O0.ext E2
  have V2 : Arv Z h2 a2 kA2 .byte (24 : Int32) [(.int (0 : Int32)), (.int (0 : Int32)), (.int (0 : Int32)), (.int (0 : Int32)), (.int (0 : Int32)), (.int (0 : Int32)), (.int (0 : Int32)), (.int (0 : Int32)), (.int (0 : Int32)), (.int (0 : Int32)), (.int (0 : Int32)), (.int (0 : Int32)), (.int (0 : Int32)), (.int (0 : Int32)), (.int (0 : Int32)), (.int (0 : Int32)), (.int (0 : Int32)), (.int (0 : Int32)), (.int (0 : Int32)), (.int (0 : Int32)), (.int (0 : Int32)), (.int (0 : Int32)), (.int (0 : Int32)), (.int (0 : Int32))] (.int (0 : Int32)) := A2.pad (pad_rep [] (.int (0 : Int32)) 24)
  have KK4 : Keep h0 h2 [] := ((Keep.refl h0 []).ext E2)
  exact Wk.retA' X2 hx hlk hr rfl rfl (hb hby d17_6) (by decide) (by decide) (Qc := Q_rm_nbf12 Z h0) e2 ⟨a2, kA2, rfl, N1, KK4, (Nat.le_of_eq g2), V2⟩
theorem d16_0 : decode jdk_52_method_14_code 0 = .ok (.iload_n 2, 1) := by decide +kernel
theorem d16_1 : decode jdk_52_method_14_code 1 = .ok (.invokestatic 107, 3) := by decide +kernel
theorem pd9 : parseMethodDescriptor "(I)[B" = some ⟨[.int], some (.array .byte)⟩ := by decide +kernel
theorem d16_4 : decode jdk_52_method_14_code 4 = .ok (.astore_n 3, 1) := by decide +kernel
theorem d16_5 : decode jdk_52_method_14_code 5 = .ok (.iconst 0, 1) := by decide +kernel
theorem d16_6 : decode jdk_52_method_14_code 6 = .ok (.istore 4, 2) := by decide +kernel
theorem d16_8 : decode jdk_52_method_14_code 8 = .ok (.iload 4, 2) := by decide +kernel
theorem d16_10 : decode jdk_52_method_14_code 10 = .ok (.iload_n 2, 1) := by decide +kernel
theorem d16_11 : decode jdk_52_method_14_code 11 = .ok (.if_icmp .ge 21, 3) := by decide +kernel
theorem d16_14 : decode jdk_52_method_14_code 14 = .ok (.aload_n 3, 1) := by decide +kernel
theorem d16_15 : decode jdk_52_method_14_code 15 = .ok (.iload 4, 2) := by decide +kernel
theorem d16_17 : decode jdk_52_method_14_code 17 = .ok (.aload_n 0, 1) := by decide +kernel
theorem d16_18 : decode jdk_52_method_14_code 18 = .ok (.iload_n 1, 1) := by decide +kernel
theorem d16_19 : decode jdk_52_method_14_code 19 = .ok (.caload, 1) := by decide +kernel
theorem d16_20 : decode jdk_52_method_14_code 20 = .ok (.invokestatic 111, 3) := by decide +kernel
theorem pd10 : parseMethodDescriptor "([BII)V" = some ⟨[(.array .byte), .int, .int], none⟩ := by decide +kernel
theorem d16_23 : decode jdk_52_method_14_code 23 = .ok (.iinc 1 1, 3) := by decide +kernel
theorem d16_26 : decode jdk_52_method_14_code 26 = .ok (.iinc 4 1, 3) := by decide +kernel
theorem d16_29 : decode jdk_52_method_14_code 29 = .ok (.goto (-21), 3) := by decide +kernel
theorem d16_32 : decode jdk_52_method_14_code 32 = .ok (.aload_n 3, 1) := by decide +kernel
theorem d16_33 : decode jdk_52_method_14_code 33 = .ok (.areturn, 1) := by decide +kernel
def Q_rm_tob12 (Z : State) (b : Addr) (kc : ClassId) (cz0 : Int32) (cz1 : Int32) (cz2 : Int32) (cz3 : Int32) (cz4 : Int32) (cz5 : Int32) (cz6 : Int32) (cz7 : Int32) (cz8 : Int32) (cz9 : Int32) (cz10 : Int32) (cz11 : Int32) (h0 : Heap) (v : Option Value) (h : Heap) (L : List Loc) : Prop := ∃ t : Addr, ∃ kb : ClassId, v = some (.ref t) ∧ Fk h0.size [] L ∧ Keep h0 h [] ∧ h0.size ≤ t ∧ Arv Z h t kb .byte (24 : Int32) [(.int (own_b0 cz0)), (.int (own_b1 cz0)), (.int (own_b0 cz1)), (.int (own_b1 cz1)), (.int (own_b0 cz2)), (.int (own_b1 cz2)), (.int (own_b0 cz3)), (.int (own_b1 cz3)), (.int (own_b0 cz4)), (.int (own_b1 cz4)), (.int (own_b0 cz5)), (.int (own_b1 cz5)), (.int (own_b0 cz6)), (.int (own_b1 cz6)), (.int (own_b0 cz7)), (.int (own_b1 cz7)), (.int (own_b0 cz8)), (.int (own_b1 cz8)), (.int (own_b0 cz9)), (.int (own_b1 cz9)), (.int (own_b0 cz10)), (.int (own_b1 cz10)), (.int (own_b0 cz11)), (.int (own_b1 cz11))] (.int (0 : Int32))
set_option maxRecDepth 65536 in
set_option maxHeartbeats 40000000 in
theorem rm_tob12 (l : Launch) (Z : State) (a0 : Array Value) (hw : ∀ d ∈ tables_1, d.before a0 Z = true) (ws : List Jvm.Cond) (b : Addr) (kc : ClassId) (cz0 : Int32) (cz1 : Int32) (cz2 : Int32) (cz3 : Int32) (cz4 : Int32) (cz5 : Int32) (cz6 : Int32) (cz7 : Int32) (cz8 : Int32) (cz9 : Int32) (cz10 : Int32) (cz11 : Int32) (h0 : Heap) (O0 : Old Z Z.heap.size h0) (sH : Sta Z Z.heap "java/lang/StringUTF16" "HI_BYTE_SHIFT" "I" (.int (0 : Int32))) (sL : Sta Z Z.heap "java/lang/StringUTF16" "LO_BYTE_SHIFT" "I" (.int (8 : Int32))) (sA : Sta Z Z.heap "java/lang/StringUTF16" "$assertionsDisabled" "Z" (.int (1 : Int32))) (hA : Arv Z h0 b kc .char (12 : Int32) [(.int cz0), (.int cz1), (.int cz2), (.int cz3), (.int cz4), (.int cz5), (.int cz6), (.int cz7), (.int cz8), (.int cz9), (.int cz10), (.int cz11)] (.int (0 : Int32))) :
    Ctr l Z (⟨"java/lang/StringUTF16", "toBytes", "([CII)[B"⟩ : MethodName) jdk_52_method_14_code 5 (some (.array .byte)) ws ({ frames := 2, cells := 1, slots := 24, locals := 24 } : Room) #[(.ref b), (.int (0 : Int32)), (.int (12 : Int32))] h0 (Q_rm_tob12 Z b kc cz0 cz1 cz2 cz3 cz4 cz5 cz6 cz7 cz8 cz9 cz10 cz11 h0) := by
  refine Ctr.intro (Ls := fun _ => #[.val (.ref b), .val (.int (0 : Int32)), .val (.int (12 : Int32)), .unset, .unset]) (plainFor_of_name pn7) (fun m => by first | rfl | (simp [entryFrame, mkF, argsToLocals, Value.category]; done)) ?_
  intro p e s m below meth c s₁ hx hby hml hr hlk hZ hown hnm hs0 X0 e0
  have w : ∀ (k : Nat) (d : Jvm.Cond), tables_1[k]? = some d → d.before a0 Z = true := fun k d q => hw d (List.mem_of_getElem? q)
  have N0 := Fk.nil h0.size []
  refine Wk.iloadN X0 hx (hb hby d16_0) rfl rfl ?_
  refine Wk.callS X0 hx hZ hown (w 91 _ rfl) (w 92 _ rfl) (w 49 _ rfl) (w 93 _ rfl) (by decide) (as' := [(.int (12 : Int32))]) (backOf (W := 0) (rm_nbf12 l Z a0 hw [] h0 O0) hZ (w 93 _ rfl) (w 49 _ rfl) (by decide) (by decide)) e0 (by rw [hml]; rfl) (rest := []) (lenOf pd9 rfl) rfl (Nat.le_of_eq rfl) (hb hby d16_1) rfl (by decide) (by decide) ?_
  intro T1 h1 v1 L1 X1 e1 hQ1
  obtain ⟨t1, kb1, rfl, Nq1, K1, q1_0, q1_1⟩ := hQ1
  have N1 := Fk.app N0 Nq1 (Nat.le_refl _) all0
  have O2 : Old Z Z.heap.size h1 := O0.keep K1 all0
  show Wp p e below _ _ T1 (mkF m 4 #[.val (.ref b), .val (.int (0 : Int32)), .val (.int (12 : Int32)), .unset, .unset] [(.ref t1)])
  refine Wk.astoreN X1 hx (Ls' := #[.val (.ref b), .val (.int (0 : Int32)), .val (.int (12 : Int32)), .val (.ref t1), .unset]) (hb hby d16_4) rfl rfl rfl ?_
  refine Wk.iconst X1 hx (v := (0 : Int32)) (hb hby d16_5) rfl rfl ?_
  refine Wk.istore X1 hx (Ls' := #[.val (.ref b), .val (.int (0 : Int32)), .val (.int (12 : Int32)), .val (.ref t1), .val (.int (0 : Int32))]) (hb hby d16_6) rfl rfl ?_
  refine Wk.iload X1 hx (hb hby d16_8) rfl rfl ?_
  refine Wk.iloadN X1 hx (hb hby d16_10) rfl rfl ?_
  refine Wk.icmpNo X1 hx (hb hby d16_11) rfl (tlt (by decide : (0 : Int32) < (12 : Int32))).2.1 ?_
  refine Wk.aloadN X1 hx (hb hby d16_14) rfl rfl rfl ?_
  refine Wk.iload X1 hx (hb hby d16_15) rfl rfl ?_
  refine Wk.aloadN X1 hx (hb hby d16_17) rfl rfl rfl ?_
  refine Wk.iloadN X1 hx (hb hby d16_18) rfl rfl ?_
  have KK3 : Keep h0 h1 [] := ((Keep.refl h0 []).trans K1 all0)
  have f4 := (hA.keep KK3 nin0)
  refine Wk.caload X1 hx hZ e1 f4 (by decide) (by decide) (v := cz0) rfl (hb hby d16_19) rfl ?_
  refine Wk.callS X1 hx hZ hown (w 98 _ rfl) (w 99 _ rfl) (w 49 _ rfl) (w 100 _ rfl) (by decide) (as' := [(.ref t1), (.int (0 : Int32)), (.int cz0)]) (backOf (W := 0) (rm_put l Z a0 hw [] t1 (0 : Int32) cz0 kb1 (24 : Int32) _ 0 h1 O2 sH sL sA q1_1 (by decide) (by decide) (by decide) (by decide) (by decide) (by decide) (Nat.le_of_ble_eq_true rfl) (Nat.le_trans (Nat.le_trans (Nat.le_trans (Nat.le_of_eq O0.1.symm) O0.2.1) (Keep.refl h0 []).1) q1_0)) hZ (w 100 _ rfl) (w 49 _ rfl) (by decide) (by decide)) e1 (by rw [hml]; rfl) (rest := []) (lenOf pd10 rfl) rfl (Nat.le_of_eq rfl) (hb hby d16_20) rfl (by decide) (by decide) ?_
  intro T5 h5 v5 L5 X5 e5 hQ5
  obtain ⟨rfl, Nq5, K5, q5_0⟩ := hQ5
  have N5 := Fk.app N1 Nq5 KK3.1 (allS (Or.inr q1_0) all0)
  have O6 : Old Z Z.heap.size h5 := O2.keep K5 (allS (Nat.le_trans (Nat.le_trans (Nat.le_trans (Nat.le_of_eq O0.1.symm) O0.2.1) (Keep.refl h0 []).1) q1_0) all0)
  have Vl7 : Arv Z h5 t1 kb1 .byte (24 : Int32) [(.int (own_b0 cz0)), (.int (own_b1 cz0)), (.int (0 : Int32)), (.int (0 : Int32)), (.int (0 : Int32)), (.int (0 : Int32)), (.int (0 : Int32)), (.int (0 : Int32)), (.int (0 : Int32)), (.int (0 : Int32)), (.int (0 : Int32)), (.int (0 : Int32)), (.int (0 : Int32)), (.int (0 : Int32)), (.int (0 : Int32)), (.int (0 : Int32)), (.int (0 : Int32)), (.int (0 : Int32)), (.int (0 : Int32)), (.int (0 : Int32)), (.int (0 : Int32)), (.int (0 : Int32)), (.int (0 : Int32)), (.int (0 : Int32))] (.int (0 : Int32)) := q5_0
  show Wp p e below _ _ T5 (mkF m 23 #[.val (.ref b), .val (.int (0 : Int32)), .val (.int (12 : Int32)), .val (.ref t1), .val (.int (0 : Int32))] [])
  refine Wk.iinc X5 hx (Ls' := #[.val (.ref b), .val (.int (1 : Int32)), .val (.int (12 : Int32)), .val (.ref t1), .val (.int (0 : Int32))]) (hb hby d16_23) rfl rfl rfl ?_
  refine Wk.iinc X5 hx (Ls' := #[.val (.ref b), .val (.int (1 : Int32)), .val (.int (12 : Int32)), .val (.ref t1), .val (.int (1 : Int32))]) (hb hby d16_26) rfl rfl rfl ?_
  refine Wk.goto X5 hx (hb hby d16_29) (by decide) (q := 8) rfl ?_
  refine Wk.iload X5 hx (hb hby d16_8) rfl rfl ?_
  refine Wk.iloadN X5 hx (hb hby d16_10) rfl rfl ?_
  refine Wk.icmpNo X5 hx (hb hby d16_11) rfl (tlt (by decide : (1 : Int32) < (12 : Int32))).2.1 ?_
  refine Wk.aloadN X5 hx (hb hby d16_14) rfl rfl rfl ?_
  refine Wk.iload X5 hx (hb hby d16_15) rfl rfl ?_
  refine Wk.aloadN X5 hx (hb hby d16_17) rfl rfl rfl ?_
  refine Wk.iloadN X5 hx (hb hby d16_18) rfl rfl ?_
  have KK8 : Keep h0 h5 [] := (KK3.trans K5 (allS (Or.inr q1_0) all0))
  have f9 := (hA.keep KK8 nin0)
  refine Wk.caload X5 hx hZ e5 f9 (by decide) (by decide) (v := cz1) rfl (hb hby d16_19) rfl ?_
  refine Wk.callS X5 hx hZ hown (w 98 _ rfl) (w 99 _ rfl) (w 49 _ rfl) (w 100 _ rfl) (by decide) (as' := [(.ref t1), (.int (1 : Int32)), (.int cz1)]) (backOf (W := 0) (rm_put l Z a0 hw [] t1 (1 : Int32) cz1 kb1 (24 : Int32) _ 2 h5 O6 sH sL sA Vl7 (by decide) (by decide) (by decide) (by decide) (by decide) (by decide) (Nat.le_of_ble_eq_true rfl) (Nat.le_trans (Nat.le_trans (Nat.le_trans (Nat.le_of_eq O0.1.symm) O0.2.1) (Keep.refl h0 []).1) q1_0)) hZ (w 100 _ rfl) (w 49 _ rfl) (by decide) (by decide)) e5 (by rw [hml]; rfl) (rest := []) (lenOf pd10 rfl) rfl (Nat.le_of_eq rfl) (hb hby d16_20) rfl (by decide) (by decide) ?_
  intro T10 h10 v10 L10 X10 e10 hQ10
  obtain ⟨rfl, Nq10, K10, q10_0⟩ := hQ10
  have N10 := Fk.app N5 Nq10 KK8.1 (allS (Or.inr q1_0) all0)
  have O11 : Old Z Z.heap.size h10 := O6.keep K10 (allS (Nat.le_trans (Nat.le_trans (Nat.le_trans (Nat.le_of_eq O0.1.symm) O0.2.1) (Keep.refl h0 []).1) q1_0) all0)
  have Vl12 : Arv Z h10 t1 kb1 .byte (24 : Int32) [(.int (own_b0 cz0)), (.int (own_b1 cz0)), (.int (own_b0 cz1)), (.int (own_b1 cz1)), (.int (0 : Int32)), (.int (0 : Int32)), (.int (0 : Int32)), (.int (0 : Int32)), (.int (0 : Int32)), (.int (0 : Int32)), (.int (0 : Int32)), (.int (0 : Int32)), (.int (0 : Int32)), (.int (0 : Int32)), (.int (0 : Int32)), (.int (0 : Int32)), (.int (0 : Int32)), (.int (0 : Int32)), (.int (0 : Int32)), (.int (0 : Int32)), (.int (0 : Int32)), (.int (0 : Int32)), (.int (0 : Int32)), (.int (0 : Int32))] (.int (0 : Int32)) := q10_0
  show Wp p e below _ _ T10 (mkF m 23 #[.val (.ref b), .val (.int (1 : Int32)), .val (.int (12 : Int32)), .val (.ref t1), .val (.int (1 : Int32))] [])
  refine Wk.iinc X10 hx (Ls' := #[.val (.ref b), .val (.int (2 : Int32)), .val (.int (12 : Int32)), .val (.ref t1), .val (.int (1 : Int32))]) (hb hby d16_23) rfl rfl rfl ?_
  refine Wk.iinc X10 hx (Ls' := #[.val (.ref b), .val (.int (2 : Int32)), .val (.int (12 : Int32)), .val (.ref t1), .val (.int (2 : Int32))]) (hb hby d16_26) rfl rfl rfl ?_
  refine Wk.goto X10 hx (hb hby d16_29) (by decide) (q := 8) rfl ?_
  refine Wk.iload X10 hx (hb hby d16_8) rfl rfl ?_
  refine Wk.iloadN X10 hx (hb hby d16_10) rfl rfl ?_
  refine Wk.icmpNo X10 hx (hb hby d16_11) rfl (tlt (by decide : (2 : Int32) < (12 : Int32))).2.1 ?_
  refine Wk.aloadN X10 hx (hb hby d16_14) rfl rfl rfl ?_
  refine Wk.iload X10 hx (hb hby d16_15) rfl rfl ?_
  refine Wk.aloadN X10 hx (hb hby d16_17) rfl rfl rfl ?_
  refine Wk.iloadN X10 hx (hb hby d16_18) rfl rfl ?_
  have KK13 : Keep h0 h10 [] := (KK8.trans K10 (allS (Or.inr q1_0) all0))
  have f14 := (hA.keep KK13 nin0)
  refine Wk.caload X10 hx hZ e10 f14 (by decide) (by decide) (v := cz2) rfl (hb hby d16_19) rfl ?_
  refine Wk.callS X10 hx hZ hown (w 98 _ rfl) (w 99 _ rfl) (w 49 _ rfl) (w 100 _ rfl) (by decide) (as' := [(.ref t1), (.int (2 : Int32)), (.int cz2)]) (backOf (W := 0) (rm_put l Z a0 hw [] t1 (2 : Int32) cz2 kb1 (24 : Int32) _ 4 h10 O11 sH sL sA Vl12 (by decide) (by decide) (by decide) (by decide) (by decide) (by decide) (Nat.le_of_ble_eq_true rfl) (Nat.le_trans (Nat.le_trans (Nat.le_trans (Nat.le_of_eq O0.1.symm) O0.2.1) (Keep.refl h0 []).1) q1_0)) hZ (w 100 _ rfl) (w 49 _ rfl) (by decide) (by decide)) e10 (by rw [hml]; rfl) (rest := []) (lenOf pd10 rfl) rfl (Nat.le_of_eq rfl) (hb hby d16_20) rfl (by decide) (by decide) ?_
  intro T15 h15 v15 L15 X15 e15 hQ15
  obtain ⟨rfl, Nq15, K15, q15_0⟩ := hQ15
  have N15 := Fk.app N10 Nq15 KK13.1 (allS (Or.inr q1_0) all0)
  have O16 : Old Z Z.heap.size h15 := O11.keep K15 (allS (Nat.le_trans (Nat.le_trans (Nat.le_trans (Nat.le_of_eq O0.1.symm) O0.2.1) (Keep.refl h0 []).1) q1_0) all0)
  have Vl17 : Arv Z h15 t1 kb1 .byte (24 : Int32) [(.int (own_b0 cz0)), (.int (own_b1 cz0)), (.int (own_b0 cz1)), (.int (own_b1 cz1)), (.int (own_b0 cz2)), (.int (own_b1 cz2)), (.int (0 : Int32)), (.int (0 : Int32)), (.int (0 : Int32)), (.int (0 : Int32)), (.int (0 : Int32)), (.int (0 : Int32)), (.int (0 : Int32)), (.int (0 : Int32)), (.int (0 : Int32)), (.int (0 : Int32)), (.int (0 : Int32)), (.int (0 : Int32)), (.int (0 : Int32)), (.int (0 : Int32)), (.int (0 : Int32)), (.int (0 : Int32)), (.int (0 : Int32)), (.int (0 : Int32))] (.int (0 : Int32)) := q15_0
  show Wp p e below _ _ T15 (mkF m 23 #[.val (.ref b), .val (.int (2 : Int32)), .val (.int (12 : Int32)), .val (.ref t1), .val (.int (2 : Int32))] [])
  refine Wk.iinc X15 hx (Ls' := #[.val (.ref b), .val (.int (3 : Int32)), .val (.int (12 : Int32)), .val (.ref t1), .val (.int (2 : Int32))]) (hb hby d16_23) rfl rfl rfl ?_
  refine Wk.iinc X15 hx (Ls' := #[.val (.ref b), .val (.int (3 : Int32)), .val (.int (12 : Int32)), .val (.ref t1), .val (.int (3 : Int32))]) (hb hby d16_26) rfl rfl rfl ?_
  refine Wk.goto X15 hx (hb hby d16_29) (by decide) (q := 8) rfl ?_
  refine Wk.iload X15 hx (hb hby d16_8) rfl rfl ?_
  refine Wk.iloadN X15 hx (hb hby d16_10) rfl rfl ?_
  refine Wk.icmpNo X15 hx (hb hby d16_11) rfl (tlt (by decide : (3 : Int32) < (12 : Int32))).2.1 ?_
  refine Wk.aloadN X15 hx (hb hby d16_14) rfl rfl rfl ?_
  refine Wk.iload X15 hx (hb hby d16_15) rfl rfl ?_
  refine Wk.aloadN X15 hx (hb hby d16_17) rfl rfl rfl ?_
  refine Wk.iloadN X15 hx (hb hby d16_18) rfl rfl ?_
  have KK18 : Keep h0 h15 [] := (KK13.trans K15 (allS (Or.inr q1_0) all0))
  have f19 := (hA.keep KK18 nin0)
  refine Wk.caload X15 hx hZ e15 f19 (by decide) (by decide) (v := cz3) rfl (hb hby d16_19) rfl ?_
  refine Wk.callS X15 hx hZ hown (w 98 _ rfl) (w 99 _ rfl) (w 49 _ rfl) (w 100 _ rfl) (by decide) (as' := [(.ref t1), (.int (3 : Int32)), (.int cz3)]) (backOf (W := 0) (rm_put l Z a0 hw [] t1 (3 : Int32) cz3 kb1 (24 : Int32) _ 6 h15 O16 sH sL sA Vl17 (by decide) (by decide) (by decide) (by decide) (by decide) (by decide) (Nat.le_of_ble_eq_true rfl) (Nat.le_trans (Nat.le_trans (Nat.le_trans (Nat.le_of_eq O0.1.symm) O0.2.1) (Keep.refl h0 []).1) q1_0)) hZ (w 100 _ rfl) (w 49 _ rfl) (by decide) (by decide)) e15 (by rw [hml]; rfl) (rest := []) (lenOf pd10 rfl) rfl (Nat.le_of_eq rfl) (hb hby d16_20) rfl (by decide) (by decide) ?_
  intro T20 h20 v20 L20 X20 e20 hQ20
  obtain ⟨rfl, Nq20, K20, q20_0⟩ := hQ20
  have N20 := Fk.app N15 Nq20 KK18.1 (allS (Or.inr q1_0) all0)
  have O21 : Old Z Z.heap.size h20 := O16.keep K20 (allS (Nat.le_trans (Nat.le_trans (Nat.le_trans (Nat.le_of_eq O0.1.symm) O0.2.1) (Keep.refl h0 []).1) q1_0) all0)
  have Vl22 : Arv Z h20 t1 kb1 .byte (24 : Int32) [(.int (own_b0 cz0)), (.int (own_b1 cz0)), (.int (own_b0 cz1)), (.int (own_b1 cz1)), (.int (own_b0 cz2)), (.int (own_b1 cz2)), (.int (own_b0 cz3)), (.int (own_b1 cz3)), (.int (0 : Int32)), (.int (0 : Int32)), (.int (0 : Int32)), (.int (0 : Int32)), (.int (0 : Int32)), (.int (0 : Int32)), (.int (0 : Int32)), (.int (0 : Int32)), (.int (0 : Int32)), (.int (0 : Int32)), (.int (0 : Int32)), (.int (0 : Int32)), (.int (0 : Int32)), (.int (0 : Int32)), (.int (0 : Int32)), (.int (0 : Int32))] (.int (0 : Int32)) := q20_0
  show Wp p e below _ _ T20 (mkF m 23 #[.val (.ref b), .val (.int (3 : Int32)), .val (.int (12 : Int32)), .val (.ref t1), .val (.int (3 : Int32))] [])
  refine Wk.iinc X20 hx (Ls' := #[.val (.ref b), .val (.int (4 : Int32)), .val (.int (12 : Int32)), .val (.ref t1), .val (.int (3 : Int32))]) (hb hby d16_23) rfl rfl rfl ?_
  refine Wk.iinc X20 hx (Ls' := #[.val (.ref b), .val (.int (4 : Int32)), .val (.int (12 : Int32)), .val (.ref t1), .val (.int (4 : Int32))]) (hb hby d16_26) rfl rfl rfl ?_
  refine Wk.goto X20 hx (hb hby d16_29) (by decide) (q := 8) rfl ?_
  refine Wk.iload X20 hx (hb hby d16_8) rfl rfl ?_
  refine Wk.iloadN X20 hx (hb hby d16_10) rfl rfl ?_
  refine Wk.icmpNo X20 hx (hb hby d16_11) rfl (tlt (by decide : (4 : Int32) < (12 : Int32))).2.1 ?_
  refine Wk.aloadN X20 hx (hb hby d16_14) rfl rfl rfl ?_
  refine Wk.iload X20 hx (hb hby d16_15) rfl rfl ?_
  refine Wk.aloadN X20 hx (hb hby d16_17) rfl rfl rfl ?_
  refine Wk.iloadN X20 hx (hb hby d16_18) rfl rfl ?_
  have KK23 : Keep h0 h20 [] := (KK18.trans K20 (allS (Or.inr q1_0) all0))
  have f24 := (hA.keep KK23 nin0)
  refine Wk.caload X20 hx hZ e20 f24 (by decide) (by decide) (v := cz4) rfl (hb hby d16_19) rfl ?_
  refine Wk.callS X20 hx hZ hown (w 98 _ rfl) (w 99 _ rfl) (w 49 _ rfl) (w 100 _ rfl) (by decide) (as' := [(.ref t1), (.int (4 : Int32)), (.int cz4)]) (backOf (W := 0) (rm_put l Z a0 hw [] t1 (4 : Int32) cz4 kb1 (24 : Int32) _ 8 h20 O21 sH sL sA Vl22 (by decide) (by decide) (by decide) (by decide) (by decide) (by decide) (Nat.le_of_ble_eq_true rfl) (Nat.le_trans (Nat.le_trans (Nat.le_trans (Nat.le_of_eq O0.1.symm) O0.2.1) (Keep.refl h0 []).1) q1_0)) hZ (w 100 _ rfl) (w 49 _ rfl) (by decide) (by decide)) e20 (by rw [hml]; rfl) (rest := []) (lenOf pd10 rfl) rfl (Nat.le_of_eq rfl) (hb hby d16_20) rfl (by decide) (by decide) ?_
  intro T25 h25 v25 L25 X25 e25 hQ25
  obtain ⟨rfl, Nq25, K25, q25_0⟩ := hQ25
  have N25 := Fk.app N20 Nq25 KK23.1 (allS (Or.inr q1_0) all0)
  have O26 : Old Z Z.heap.size h25 := O21.keep K25 (allS (Nat.le_trans (Nat.le_trans (Nat.le_trans (Nat.le_of_eq O0.1.symm) O0.2.1) (Keep.refl h0 []).1) q1_0) all0)
  have Vl27 : Arv Z h25 t1 kb1 .byte (24 : Int32) [(.int (own_b0 cz0)), (.int (own_b1 cz0)), (.int (own_b0 cz1)), (.int (own_b1 cz1)), (.int (own_b0 cz2)), (.int (own_b1 cz2)), (.int (own_b0 cz3)), (.int (own_b1 cz3)), (.int (own_b0 cz4)), (.int (own_b1 cz4)), (.int (0 : Int32)), (.int (0 : Int32)), (.int (0 : Int32)), (.int (0 : Int32)), (.int (0 : Int32)), (.int (0 : Int32)), (.int (0 : Int32)), (.int (0 : Int32)), (.int (0 : Int32)), (.int (0 : Int32)), (.int (0 : Int32)), (.int (0 : Int32)), (.int (0 : Int32)), (.int (0 : Int32))] (.int (0 : Int32)) := q25_0
  show Wp p e below _ _ T25 (mkF m 23 #[.val (.ref b), .val (.int (4 : Int32)), .val (.int (12 : Int32)), .val (.ref t1), .val (.int (4 : Int32))] [])
  refine Wk.iinc X25 hx (Ls' := #[.val (.ref b), .val (.int (5 : Int32)), .val (.int (12 : Int32)), .val (.ref t1), .val (.int (4 : Int32))]) (hb hby d16_23) rfl rfl rfl ?_
  refine Wk.iinc X25 hx (Ls' := #[.val (.ref b), .val (.int (5 : Int32)), .val (.int (12 : Int32)), .val (.ref t1), .val (.int (5 : Int32))]) (hb hby d16_26) rfl rfl rfl ?_
  refine Wk.goto X25 hx (hb hby d16_29) (by decide) (q := 8) rfl ?_
  refine Wk.iload X25 hx (hb hby d16_8) rfl rfl ?_
  refine Wk.iloadN X25 hx (hb hby d16_10) rfl rfl ?_
  refine Wk.icmpNo X25 hx (hb hby d16_11) rfl (tlt (by decide : (5 : Int32) < (12 : Int32))).2.1 ?_
  refine Wk.aloadN X25 hx (hb hby d16_14) rfl rfl rfl ?_
  refine Wk.iload X25 hx (hb hby d16_15) rfl rfl ?_
  refine Wk.aloadN X25 hx (hb hby d16_17) rfl rfl rfl ?_
  refine Wk.iloadN X25 hx (hb hby d16_18) rfl rfl ?_
  have KK28 : Keep h0 h25 [] := (KK23.trans K25 (allS (Or.inr q1_0) all0))
  have f29 := (hA.keep KK28 nin0)
  refine Wk.caload X25 hx hZ e25 f29 (by decide) (by decide) (v := cz5) rfl (hb hby d16_19) rfl ?_
  refine Wk.callS X25 hx hZ hown (w 98 _ rfl) (w 99 _ rfl) (w 49 _ rfl) (w 100 _ rfl) (by decide) (as' := [(.ref t1), (.int (5 : Int32)), (.int cz5)]) (backOf (W := 0) (rm_put l Z a0 hw [] t1 (5 : Int32) cz5 kb1 (24 : Int32) _ 10 h25 O26 sH sL sA Vl27 (by decide) (by decide) (by decide) (by decide) (by decide) (by decide) (Nat.le_of_ble_eq_true rfl) (Nat.le_trans (Nat.le_trans (Nat.le_trans (Nat.le_of_eq O0.1.symm) O0.2.1) (Keep.refl h0 []).1) q1_0)) hZ (w 100 _ rfl) (w 49 _ rfl) (by decide) (by decide)) e25 (by rw [hml]; rfl) (rest := []) (lenOf pd10 rfl) rfl (Nat.le_of_eq rfl) (hb hby d16_20) rfl (by decide) (by decide) ?_
  intro T30 h30 v30 L30 X30 e30 hQ30
  obtain ⟨rfl, Nq30, K30, q30_0⟩ := hQ30
  have N30 := Fk.app N25 Nq30 KK28.1 (allS (Or.inr q1_0) all0)
  have O31 : Old Z Z.heap.size h30 := O26.keep K30 (allS (Nat.le_trans (Nat.le_trans (Nat.le_trans (Nat.le_of_eq O0.1.symm) O0.2.1) (Keep.refl h0 []).1) q1_0) all0)
  have Vl32 : Arv Z h30 t1 kb1 .byte (24 : Int32) [(.int (own_b0 cz0)), (.int (own_b1 cz0)), (.int (own_b0 cz1)), (.int (own_b1 cz1)), (.int (own_b0 cz2)), (.int (own_b1 cz2)), (.int (own_b0 cz3)), (.int (own_b1 cz3)), (.int (own_b0 cz4)), (.int (own_b1 cz4)), (.int (own_b0 cz5)), (.int (own_b1 cz5)), (.int (0 : Int32)), (.int (0 : Int32)), (.int (0 : Int32)), (.int (0 : Int32)), (.int (0 : Int32)), (.int (0 : Int32)), (.int (0 : Int32)), (.int (0 : Int32)), (.int (0 : Int32)), (.int (0 : Int32)), (.int (0 : Int32)), (.int (0 : Int32))] (.int (0 : Int32)) := q30_0
  show Wp p e below _ _ T30 (mkF m 23 #[.val (.ref b), .val (.int (5 : Int32)), .val (.int (12 : Int32)), .val (.ref t1), .val (.int (5 : Int32))] [])
  refine Wk.iinc X30 hx (Ls' := #[.val (.ref b), .val (.int (6 : Int32)), .val (.int (12 : Int32)), .val (.ref t1), .val (.int (5 : Int32))]) (hb hby d16_23) rfl rfl rfl ?_
  refine Wk.iinc X30 hx (Ls' := #[.val (.ref b), .val (.int (6 : Int32)), .val (.int (12 : Int32)), .val (.ref t1), .val (.int (6 : Int32))]) (hb hby d16_26) rfl rfl rfl ?_
  refine Wk.goto X30 hx (hb hby d16_29) (by decide) (q := 8) rfl ?_
  refine Wk.iload X30 hx (hb hby d16_8) rfl rfl ?_
  refine Wk.iloadN X30 hx (hb hby d16_10) rfl rfl ?_
  refine Wk.icmpNo X30 hx (hb hby d16_11) rfl (tlt (by decide : (6 : Int32) < (12 : Int32))).2.1 ?_
  refine Wk.aloadN X30 hx (hb hby d16_14) rfl rfl rfl ?_
  refine Wk.iload X30 hx (hb hby d16_15) rfl rfl ?_
  refine Wk.aloadN X30 hx (hb hby d16_17) rfl rfl rfl ?_
  refine Wk.iloadN X30 hx (hb hby d16_18) rfl rfl ?_
  have KK33 : Keep h0 h30 [] := (KK28.trans K30 (allS (Or.inr q1_0) all0))
  have f34 := (hA.keep KK33 nin0)
  refine Wk.caload X30 hx hZ e30 f34 (by decide) (by decide) (v := cz6) rfl (hb hby d16_19) rfl ?_
  refine Wk.callS X30 hx hZ hown (w 98 _ rfl) (w 99 _ rfl) (w 49 _ rfl) (w 100 _ rfl) (by decide) (as' := [(.ref t1), (.int (6 : Int32)), (.int cz6)]) (backOf (W := 0) (rm_put l Z a0 hw [] t1 (6 : Int32) cz6 kb1 (24 : Int32) _ 12 h30 O31 sH sL sA Vl32 (by decide) (by decide) (by decide) (by decide) (by decide) (by decide) (Nat.le_of_ble_eq_true rfl) (Nat.le_trans (Nat.le_trans (Nat.le_trans (Nat.le_of_eq O0.1.symm) O0.2.1) (Keep.refl h0 []).1) q1_0)) hZ (w 100 _ rfl) (w 49 _ rfl) (by decide) (by decide)) e30 (by rw [hml]; rfl) (rest := []) (lenOf pd10 rfl) rfl (Nat.le_of_eq rfl) (hb hby d16_20) rfl (by decide) (by decide) ?_
  intro T35 h35 v35 L35 X35 e35 hQ35
  obtain ⟨rfl, Nq35, K35, q35_0⟩ := hQ35
  have N35 := Fk.app N30 Nq35 KK33.1 (allS (Or.inr q1_0) all0)
  have O36 : Old Z Z.heap.size h35 := O31.keep K35 (allS (Nat.le_trans (Nat.le_trans (Nat.le_trans (Nat.le_of_eq O0.1.symm) O0.2.1) (Keep.refl h0 []).1) q1_0) all0)
  have Vl37 : Arv Z h35 t1 kb1 .byte (24 : Int32) [(.int (own_b0 cz0)), (.int (own_b1 cz0)), (.int (own_b0 cz1)), (.int (own_b1 cz1)), (.int (own_b0 cz2)), (.int (own_b1 cz2)), (.int (own_b0 cz3)), (.int (own_b1 cz3)), (.int (own_b0 cz4)), (.int (own_b1 cz4)), (.int (own_b0 cz5)), (.int (own_b1 cz5)), (.int (own_b0 cz6)), (.int (own_b1 cz6)), (.int (0 : Int32)), (.int (0 : Int32)), (.int (0 : Int32)), (.int (0 : Int32)), (.int (0 : Int32)), (.int (0 : Int32)), (.int (0 : Int32)), (.int (0 : Int32)), (.int (0 : Int32)), (.int (0 : Int32))] (.int (0 : Int32)) := q35_0
  show Wp p e below _ _ T35 (mkF m 23 #[.val (.ref b), .val (.int (6 : Int32)), .val (.int (12 : Int32)), .val (.ref t1), .val (.int (6 : Int32))] [])
  refine Wk.iinc X35 hx (Ls' := #[.val (.ref b), .val (.int (7 : Int32)), .val (.int (12 : Int32)), .val (.ref t1), .val (.int (6 : Int32))]) (hb hby d16_23) rfl rfl rfl ?_
  refine Wk.iinc X35 hx (Ls' := #[.val (.ref b), .val (.int (7 : Int32)), .val (.int (12 : Int32)), .val (.ref t1), .val (.int (7 : Int32))]) (hb hby d16_26) rfl rfl rfl ?_
  refine Wk.goto X35 hx (hb hby d16_29) (by decide) (q := 8) rfl ?_
  refine Wk.iload X35 hx (hb hby d16_8) rfl rfl ?_
  refine Wk.iloadN X35 hx (hb hby d16_10) rfl rfl ?_
  refine Wk.icmpNo X35 hx (hb hby d16_11) rfl (tlt (by decide : (7 : Int32) < (12 : Int32))).2.1 ?_
  refine Wk.aloadN X35 hx (hb hby d16_14) rfl rfl rfl ?_
  refine Wk.iload X35 hx (hb hby d16_15) rfl rfl ?_
  refine Wk.aloadN X35 hx (hb hby d16_17) rfl rfl rfl ?_
  refine Wk.iloadN X35 hx (hb hby d16_18) rfl rfl ?_
  have KK38 : Keep h0 h35 [] := (KK33.trans K35 (allS (Or.inr q1_0) all0))
  have f39 := (hA.keep KK38 nin0)
  refine Wk.caload X35 hx hZ e35 f39 (by decide) (by decide) (v := cz7) rfl (hb hby d16_19) rfl ?_
  refine Wk.callS X35 hx hZ hown (w 98 _ rfl) (w 99 _ rfl) (w 49 _ rfl) (w 100 _ rfl) (by decide) (as' := [(.ref t1), (.int (7 : Int32)), (.int cz7)]) (backOf (W := 0) (rm_put l Z a0 hw [] t1 (7 : Int32) cz7 kb1 (24 : Int32) _ 14 h35 O36 sH sL sA Vl37 (by decide) (by decide) (by decide) (by decide) (by decide) (by decide) (Nat.le_of_ble_eq_true rfl) (Nat.le_trans (Nat.le_trans (Nat.le_trans (Nat.le_of_eq O0.1.symm) O0.2.1) (Keep.refl h0 []).1) q1_0)) hZ (w 100 _ rfl) (w 49 _ rfl) (by decide) (by decide)) e35 (by rw [hml]; rfl) (rest := []) (lenOf pd10 rfl) rfl (Nat.le_of_eq rfl) (hb hby d16_20) rfl (by decide) (by decide) ?_
  intro T40 h40 v40 L40 X40 e40 hQ40
  obtain ⟨rfl, Nq40, K40, q40_0⟩ := hQ40
  have N40 := Fk.app N35 Nq40 KK38.1 (allS (Or.inr q1_0) all0)
  have O41 : Old Z Z.heap.size h40 := O36.keep K40 (allS (Nat.le_trans (Nat.le_trans (Nat.le_trans (Nat.le_of_eq O0.1.symm) O0.2.1) (Keep.refl h0 []).1) q1_0) all0)
  have Vl42 : Arv Z h40 t1 kb1 .byte (24 : Int32) [(.int (own_b0 cz0)), (.int (own_b1 cz0)), (.int (own_b0 cz1)), (.int (own_b1 cz1)), (.int (own_b0 cz2)), (.int (own_b1 cz2)), (.int (own_b0 cz3)), (.int (own_b1 cz3)), (.int (own_b0 cz4)), (.int (own_b1 cz4)), (.int (own_b0 cz5)), (.int (own_b1 cz5)), (.int (own_b0 cz6)), (.int (own_b1 cz6)), (.int (own_b0 cz7)), (.int (own_b1 cz7)), (.int (0 : Int32)), (.int (0 : Int32)), (.int (0 : Int32)), (.int (0 : Int32)), (.int (0 : Int32)), (.int (0 : Int32)), (.int (0 : Int32)), (.int (0 : Int32))] (.int (0 : Int32)) := q40_0
  show Wp p e below _ _ T40 (mkF m 23 #[.val (.ref b), .val (.int (7 : Int32)), .val (.int (12 : Int32)), .val (.ref t1), .val (.int (7 : Int32))] [])
  refine Wk.iinc X40 hx (Ls' := #[.val (.ref b), .val (.int (8 : Int32)), .val (.int (12 : Int32)), .val (.ref t1), .val (.int (7 : Int32))]) (hb hby d16_23) rfl rfl rfl ?_
  refine Wk.iinc X40 hx (Ls' := #[.val (.ref b), .val (.int (8 : Int32)), .val (.int (12 : Int32)), .val (.ref t1), .val (.int (8 : Int32))]) (hb hby d16_26) rfl rfl rfl ?_
  refine Wk.goto X40 hx (hb hby d16_29) (by decide) (q := 8) rfl ?_
  refine Wk.iload X40 hx (hb hby d16_8) rfl rfl ?_
  refine Wk.iloadN X40 hx (hb hby d16_10) rfl rfl ?_
  refine Wk.icmpNo X40 hx (hb hby d16_11) rfl (tlt (by decide : (8 : Int32) < (12 : Int32))).2.1 ?_
  refine Wk.aloadN X40 hx (hb hby d16_14) rfl rfl rfl ?_
  refine Wk.iload X40 hx (hb hby d16_15) rfl rfl ?_
  refine Wk.aloadN X40 hx (hb hby d16_17) rfl rfl rfl ?_
  refine Wk.iloadN X40 hx (hb hby d16_18) rfl rfl ?_
  have KK43 : Keep h0 h40 [] := (KK38.trans K40 (allS (Or.inr q1_0) all0))
  have f44 := (hA.keep KK43 nin0)
  refine Wk.caload X40 hx hZ e40 f44 (by decide) (by decide) (v := cz8) rfl (hb hby d16_19) rfl ?_
  refine Wk.callS X40 hx hZ hown (w 98 _ rfl) (w 99 _ rfl) (w 49 _ rfl) (w 100 _ rfl) (by decide) (as' := [(.ref t1), (.int (8 : Int32)), (.int cz8)]) (backOf (W := 0) (rm_put l Z a0 hw [] t1 (8 : Int32) cz8 kb1 (24 : Int32) _ 16 h40 O41 sH sL sA Vl42 (by decide) (by decide) (by decide) (by decide) (by decide) (by decide) (Nat.le_of_ble_eq_true rfl) (Nat.le_trans (Nat.le_trans (Nat.le_trans (Nat.le_of_eq O0.1.symm) O0.2.1) (Keep.refl h0 []).1) q1_0)) hZ (w 100 _ rfl) (w 49 _ rfl) (by decide) (by decide)) e40 (by rw [hml]; rfl) (rest := []) (lenOf pd10 rfl) rfl (Nat.le_of_eq rfl) (hb hby d16_20) rfl (by decide) (by decide) ?_
  intro T45 h45 v45 L45 X45 e45 hQ45
  obtain ⟨rfl, Nq45, K45, q45_0⟩ := hQ45
  have N45 := Fk.app N40 Nq45 KK43.1 (allS (Or.inr q1_0) all0)
  have O46 : Old Z Z.heap.size h45 := O41.keep K45 (allS (Nat.le_trans (Nat.le_trans (Nat.le_trans (Nat.le_of_eq O0.1.symm) O0.2.1) (Keep.refl h0 []).1) q1_0) all0)
  have Vl47 : Arv Z h45 t1 kb1 .byte (24 : Int32) [(.int (own_b0 cz0)), (.int (own_b1 cz0)), (.int (own_b0 cz1)), (.int (own_b1 cz1)), (.int (own_b0 cz2)), (.int (own_b1 cz2)), (.int (own_b0 cz3)), (.int (own_b1 cz3)), (.int (own_b0 cz4)), (.int (own_b1 cz4)), (.int (own_b0 cz5)), (.int (own_b1 cz5)), (.int (own_b0 cz6)), (.int (own_b1 cz6)), (.int (own_b0 cz7)), (.int (own_b1 cz7)), (.int (own_b0 cz8)), (.int (own_b1 cz8)), (.int (0 : Int32)), (.int (0 : Int32)), (.int (0 : Int32)), (.int (0 : Int32)), (.int (0 : Int32)), (.int (0 : Int32))] (.int (0 : Int32)) := q45_0
  show Wp p e below _ _ T45 (mkF m 23 #[.val (.ref b), .val (.int (8 : Int32)), .val (.int (12 : Int32)), .val (.ref t1), .val (.int (8 : Int32))] [])
  refine Wk.iinc X45 hx (Ls' := #[.val (.ref b), .val (.int (9 : Int32)), .val (.int (12 : Int32)), .val (.ref t1), .val (.int (8 : Int32))]) (hb hby d16_23) rfl rfl rfl ?_
  refine Wk.iinc X45 hx (Ls' := #[.val (.ref b), .val (.int (9 : Int32)), .val (.int (12 : Int32)), .val (.ref t1), .val (.int (9 : Int32))]) (hb hby d16_26) rfl rfl rfl ?_
  refine Wk.goto X45 hx (hb hby d16_29) (by decide) (q := 8) rfl ?_
  refine Wk.iload X45 hx (hb hby d16_8) rfl rfl ?_
  refine Wk.iloadN X45 hx (hb hby d16_10) rfl rfl ?_
  refine Wk.icmpNo X45 hx (hb hby d16_11) rfl (tlt (by decide : (9 : Int32) < (12 : Int32))).2.1 ?_
  refine Wk.aloadN X45 hx (hb hby d16_14) rfl rfl rfl ?_
  refine Wk.iload X45 hx (hb hby d16_15) rfl rfl ?_
  refine Wk.aloadN X45 hx (hb hby d16_17) rfl rfl rfl ?_
  refine Wk.iloadN X45 hx (hb hby d16_18) rfl rfl ?_
  have KK48 : Keep h0 h45 [] := (KK43.trans K45 (allS (Or.inr q1_0) all0))
  have f49 := (hA.keep KK48 nin0)
  refine Wk.caload X45 hx hZ e45 f49 (by decide) (by decide) (v := cz9) rfl (hb hby d16_19) rfl ?_
  refine Wk.callS X45 hx hZ hown (w 98 _ rfl) (w 99 _ rfl) (w 49 _ rfl) (w 100 _ rfl) (by decide) (as' := [(.ref t1), (.int (9 : Int32)), (.int cz9)]) (backOf (W := 0) (rm_put l Z a0 hw [] t1 (9 : Int32) cz9 kb1 (24 : Int32) _ 18 h45 O46 sH sL sA Vl47 (by decide) (by decide) (by decide) (by decide) (by decide) (by decide) (Nat.le_of_ble_eq_true rfl) (Nat.le_trans (Nat.le_trans (Nat.le_trans (Nat.le_of_eq O0.1.symm) O0.2.1) (Keep.refl h0 []).1) q1_0)) hZ (w 100 _ rfl) (w 49 _ rfl) (by decide) (by decide)) e45 (by rw [hml]; rfl) (rest := []) (lenOf pd10 rfl) rfl (Nat.le_of_eq rfl) (hb hby d16_20) rfl (by decide) (by decide) ?_
  intro T50 h50 v50 L50 X50 e50 hQ50
  obtain ⟨rfl, Nq50, K50, q50_0⟩ := hQ50
  have N50 := Fk.app N45 Nq50 KK48.1 (allS (Or.inr q1_0) all0)
  have O51 : Old Z Z.heap.size h50 := O46.keep K50 (allS (Nat.le_trans (Nat.le_trans (Nat.le_trans (Nat.le_of_eq O0.1.symm) O0.2.1) (Keep.refl h0 []).1) q1_0) all0)
  have Vl52 : Arv Z h50 t1 kb1 .byte (24 : Int32) [(.int (own_b0 cz0)), (.int (own_b1 cz0)), (.int (own_b0 cz1)), (.int (own_b1 cz1)), (.int (own_b0 cz2)), (.int (own_b1 cz2)), (.int (own_b0 cz3)), (.int (own_b1 cz3)), (.int (own_b0 cz4)), (.int (own_b1 cz4)), (.int (own_b0 cz5)), (.int (own_b1 cz5)), (.int (own_b0 cz6)), (.int (own_b1 cz6)), (.int (own_b0 cz7)), (.int (own_b1 cz7)), (.int (own_b0 cz8)), (.int (own_b1 cz8)), (.int (own_b0 cz9)), (.int (own_b1 cz9)), (.int (0 : Int32)), (.int (0 : Int32)), (.int (0 : Int32)), (.int (0 : Int32))] (.int (0 : Int32)) := q50_0
  show Wp p e below _ _ T50 (mkF m 23 #[.val (.ref b), .val (.int (9 : Int32)), .val (.int (12 : Int32)), .val (.ref t1), .val (.int (9 : Int32))] [])
  refine Wk.iinc X50 hx (Ls' := #[.val (.ref b), .val (.int (10 : Int32)), .val (.int (12 : Int32)), .val (.ref t1), .val (.int (9 : Int32))]) (hb hby d16_23) rfl rfl rfl ?_
  refine Wk.iinc X50 hx (Ls' := #[.val (.ref b), .val (.int (10 : Int32)), .val (.int (12 : Int32)), .val (.ref t1), .val (.int (10 : Int32))]) (hb hby d16_26) rfl rfl rfl ?_
  refine Wk.goto X50 hx (hb hby d16_29) (by decide) (q := 8) rfl ?_
  refine Wk.iload X50 hx (hb hby d16_8) rfl rfl ?_
  refine Wk.iloadN X50 hx (hb hby d16_10) rfl rfl ?_
  refine Wk.icmpNo X50 hx (hb hby d16_11) rfl (tlt (by decide : (10 : Int32) < (12 : Int32))).2.1 ?_
  refine Wk.aloadN X50 hx (hb hby d16_14) rfl rfl rfl ?_
  refine Wk.iload X50 hx (hb hby d16_15) rfl rfl ?_
  refine Wk.aloadN X50 hx (hb hby d16_17) rfl rfl rfl ?_
  refine Wk.iloadN X50 hx (hb hby d16_18) rfl rfl ?_
  have KK53 : Keep h0 h50 [] := (KK48.trans K50 (allS (Or.inr q1_0) all0))
  have f54 := (hA.keep KK53 nin0)
  refine Wk.caload X50 hx hZ e50 f54 (by decide) (by decide) (v := cz10) rfl (hb hby d16_19) rfl ?_
  refine Wk.callS X50 hx hZ hown (w 98 _ rfl) (w 99 _ rfl) (w 49 _ rfl) (w 100 _ rfl) (by decide) (as' := [(.ref t1), (.int (10 : Int32)), (.int cz10)]) (backOf (W := 0) (rm_put l Z a0 hw [] t1 (10 : Int32) cz10 kb1 (24 : Int32) _ 20 h50 O51 sH sL sA Vl52 (by decide) (by decide) (by decide) (by decide) (by decide) (by decide) (Nat.le_of_ble_eq_true rfl) (Nat.le_trans (Nat.le_trans (Nat.le_trans (Nat.le_of_eq O0.1.symm) O0.2.1) (Keep.refl h0 []).1) q1_0)) hZ (w 100 _ rfl) (w 49 _ rfl) (by decide) (by decide)) e50 (by rw [hml]; rfl) (rest := []) (lenOf pd10 rfl) rfl (Nat.le_of_eq rfl) (hb hby d16_20) rfl (by decide) (by decide) ?_
  intro T55 h55 v55 L55 X55 e55 hQ55
  obtain ⟨rfl, Nq55, K55, q55_0⟩ := hQ55
  have N55 := Fk.app N50 Nq55 KK53.1 (allS (Or.inr q1_0) all0)
  have O56 : Old Z Z.heap.size h55 := O51.keep K55 (allS (Nat.le_trans (Nat.le_trans (Nat.le_trans (Nat.le_of_eq O0.1.symm) O0.2.1) (Keep.refl h0 []).1) q1_0) all0)
  have Vl57 : Arv Z h55 t1 kb1 .byte (24 : Int32) [(.int (own_b0 cz0)), (.int (own_b1 cz0)), (.int (own_b0 cz1)), (.int (own_b1 cz1)), (.int (own_b0 cz2)), (.int (own_b1 cz2)), (.int (own_b0 cz3)), (.int (own_b1 cz3)), (.int (own_b0 cz4)), (.int (own_b1 cz4)), (.int (own_b0 cz5)), (.int (own_b1 cz5)), (.int (own_b0 cz6)), (.int (own_b1 cz6)), (.int (own_b0 cz7)), (.int (own_b1 cz7)), (.int (own_b0 cz8)), (.int (own_b1 cz8)), (.int (own_b0 cz9)), (.int (own_b1 cz9)), (.int (own_b0 cz10)), (.int (own_b1 cz10)), (.int (0 : Int32)), (.int (0 : Int32))] (.int (0 : Int32)) := q55_0
  show Wp p e below _ _ T55 (mkF m 23 #[.val (.ref b), .val (.int (10 : Int32)), .val (.int (12 : Int32)), .val (.ref t1), .val (.int (10 : Int32))] [])
  refine Wk.iinc X55 hx (Ls' := #[.val (.ref b), .val (.int (11 : Int32)), .val (.int (12 : Int32)), .val (.ref t1), .val (.int (10 : Int32))]) (hb hby d16_23) rfl rfl rfl ?_
  refine Wk.iinc X55 hx (Ls' := #[.val (.ref b), .val (.int (11 : Int32)), .val (.int (12 : Int32)), .val (.ref t1), .val (.int (11 : Int32))]) (hb hby d16_26) rfl rfl rfl ?_
  refine Wk.goto X55 hx (hb hby d16_29) (by decide) (q := 8) rfl ?_
  refine Wk.iload X55 hx (hb hby d16_8) rfl rfl ?_
  refine Wk.iloadN X55 hx (hb hby d16_10) rfl rfl ?_
  refine Wk.icmpNo X55 hx (hb hby d16_11) rfl (tlt (by decide : (11 : Int32) < (12 : Int32))).2.1 ?_
  refine Wk.aloadN X55 hx (hb hby d16_14) rfl rfl rfl ?_
  refine Wk.iload X55 hx (hb hby d16_15) rfl rfl ?_
  refine Wk.aloadN X55 hx (hb hby d16_17) rfl rfl rfl ?_
  refine Wk.iloadN X55 hx (hb hby d16_18) rfl rfl ?_
  have KK58 : Keep h0 h55 [] := (KK53.trans K55 (allS (Or.inr q1_0) all0))
  have f59 := (hA.keep KK58 nin0)
  refine Wk.caload X55 hx hZ e55 f59 (by decide) (by decide) (v := cz11) rfl (hb hby d16_19) rfl ?_
  refine Wk.callS X55 hx hZ hown (w 98 _ rfl) (w 99 _ rfl) (w 49 _ rfl) (w 100 _ rfl) (by decide) (as' := [(.ref t1), (.int (11 : Int32)), (.int cz11)]) (backOf (W := 0) (rm_put l Z a0 hw [] t1 (11 : Int32) cz11 kb1 (24 : Int32) _ 22 h55 O56 sH sL sA Vl57 (by decide) (by decide) (by decide) (by decide) (by decide) (by decide) (Nat.le_of_ble_eq_true rfl) (Nat.le_trans (Nat.le_trans (Nat.le_trans (Nat.le_of_eq O0.1.symm) O0.2.1) (Keep.refl h0 []).1) q1_0)) hZ (w 100 _ rfl) (w 49 _ rfl) (by decide) (by decide)) e55 (by rw [hml]; rfl) (rest := []) (lenOf pd10 rfl) rfl (Nat.le_of_eq rfl) (hb hby d16_20) rfl (by decide) (by decide) ?_
  intro T60 h60 v60 L60 X60 e60 hQ60
  obtain ⟨rfl, Nq60, K60, q60_0⟩ := hQ60
  have N60 := Fk.app N55 Nq60 KK58.1 (allS (Or.inr q1_0) all0)
  have O61 : Old Z Z.heap.size h60 := O56.keep K60 (allS (Nat.le_trans (Nat.le_trans (Nat.le_trans (Nat.le_of_eq O0.1.symm) O0.2.1) (Keep.refl h0 []).1) q1_0) all0)
  have Vl62 : Arv Z h60 t1 kb1 .byte (24 : Int32) [(.int (own_b0 cz0)), (.int (own_b1 cz0)), (.int (own_b0 cz1)), (.int (own_b1 cz1)), (.int (own_b0 cz2)), (.int (own_b1 cz2)), (.int (own_b0 cz3)), (.int (own_b1 cz3)), (.int (own_b0 cz4)), (.int (own_b1 cz4)), (.int (own_b0 cz5)), (.int (own_b1 cz5)), (.int (own_b0 cz6)), (.int (own_b1 cz6)), (.int (own_b0 cz7)), (.int (own_b1 cz7)), (.int (own_b0 cz8)), (.int (own_b1 cz8)), (.int (own_b0 cz9)), (.int (own_b1 cz9)), (.int (own_b0 cz10)), (.int (own_b1 cz10)), (.int (own_b0 cz11)), (.int (own_b1 cz11))] (.int (0 : Int32)) := q60_0
  show Wp p e below _ _ T60 (mkF m 23 #[.val (.ref b), .val (.int (11 : Int32)), .val (.int (12 : Int32)), .val (.ref t1), .val (.int (11 : Int32))] [])
  refine Wk.iinc X60 hx (Ls' := #[.val (.ref b), .val (.int (12 : Int32)), .val (.int (12 : Int32)), .val (.ref t1), .val (.int (11 : Int32))]) (hb hby d16_23) rfl rfl rfl ?_
  refine Wk.iinc X60 hx (Ls' := #[.val (.ref b), .val (.int (12 : Int32)), .val (.int (12 : Int32)), .val (.ref t1), .val (.int (12 : Int32))]) (hb hby d16_26) rfl rfl rfl ?_
  refine Wk.goto X60 hx (hb hby d16_29) (by decide) (q := 8) rfl ?_
  refine Wk.iload X60 hx (hb hby d16_8) rfl rfl ?_
  refine Wk.iloadN X60 hx (hb hby d16_10) rfl rfl ?_
  refine Wk.icmpYes X60 hx (hb hby d16_11) (by decide) (q := 32) rfl (flt (by decide : ¬ ((12 : Int32) < (12 : Int32)))).2.1 ?_
  refine Wk.aloadN X60 hx (hb hby d16_32) rfl rfl rfl ?_
  have KK63 : Keep h0 h60 [] := (KK58.trans K60 (allS (Or.inr q1_0) all0))
  exact Wk.retA' X60 hx hlk hr rfl rfl (hb hby d16_33) (by decide) (by decide) (Qc := Q_rm_tob12 Z b kc cz0 cz1 cz2 cz3 cz4 cz5 cz6 cz7 cz8 cz9 cz10 cz11 h0) e60 ⟨t1, kb1, rfl, N60, KK63, q1_0, Vl62⟩
theorem d11_0 : decode jdk_52_method_15_code 0 = .ok (.iload_n 1, 1) := by decide +kernel
theorem d11_1 : decode jdk_52_method_15_code 1 = .ok (.aload_n 0, 1) := by decide +kernel
theorem d11_2 : decode jdk_52_method_15_code 2 = .ok (.arraylength, 1) := by decide +kernel
theorem d11_3 : decode jdk_52_method_15_code 3 = .ok (.isub, 1) := by decide +kernel
theorem d11_4 : decode jdk_52_method_15_code 4 = .ok (.bipush 31, 2) := by decide +kernel
theorem d11_6 : decode jdk_52_method_15_code 6 = .ok (.iushr, 1) := by decide +kernel
theorem d11_7 : decode jdk_52_method_15_code 7 = .ok (.i2b, 1) := by decide +kernel
theorem d11_8 : decode jdk_52_method_15_code 8 = .ok (.ireturn, 1) := by decide +kernel
def Q_rm_cfa12 (Z : State) (t : Addr) (kb : ClassId) (vs : List Value) (h0 : Heap) (v : Option Value) (h : Heap) (L : List Loc) : Prop := v = some (.int (1 : Int32)) ∧ Fk h0.size [] L ∧ h = h0
set_option maxRecDepth 65536 in
set_option maxHeartbeats 40000000 in
theorem rm_cfa12 (l : Launch) (Z : State) (a0 : Array Value) (hw : ∀ d ∈ tables_1, d.before a0 Z = true) (ws : List Jvm.Cond) (t : Addr) (kb : ClassId) (vs : List Value) (h0 : Heap) (O0 : Old Z Z.heap.size h0) (hA : Arv Z h0 t kb .byte (24 : Int32) vs (.int (0 : Int32))) :
    Ctr l Z (⟨"java/lang/StringUTF16", "coderFromArrayLen", "([BI)B"⟩ : MethodName) jdk_52_method_15_code 2 (some .byte) ws ({ frames := 0, cells := 0, slots := 0, locals := 0 } : Room) #[(.ref t), (.int (12 : Int32))] h0 (Q_rm_cfa12 Z t kb vs h0) := by
  refine Ctr.intro (Ls := fun _ => #[.val (.ref t), .val (.int (12 : Int32))]) (plainFor_of_name pn7) (fun m => by first | rfl | (simp [entryFrame, mkF, argsToLocals, Value.category]; done)) ?_
  intro p e s m below meth c s₁ hx hby hml hr hlk hZ hown hnm hs0 X0 e0
  have w : ∀ (k : Nat) (d : Jvm.Cond), tables_1[k]? = some d → d.before a0 Z = true := fun k d q => hw d (List.mem_of_getElem? q)
  have N0 := Fk.nil h0.size []
  refine Wk.iloadN X0 hx (hb hby d11_0) rfl rfl ?_
  refine Wk.aloadN X0 hx (hb hby d11_1) rfl rfl rfl ?_
  refine Wk.arraylength X0 hx hZ e0 hA (hb hby d11_2) rfl ?_
  refine Wk.isub X0 hx (hb hby d11_3) rfl ?_
  rw [(by decide : (((12 : Int32) - (24 : Int32)) : Int32) = (-12 : Int32))]
  refine Wk.bipush X0 hx (v := (31 : Int32)) (hb hby d11_4) rfl rfl ?_
  refine Wk.iushr X0 hx (hb hby d11_6) rfl ?_
  rw [(by decide : ((((-12 : Int32).toUInt32 >>> ((31 : Int32) &&& 31).toUInt32).toInt32) : Int32) = (1 : Int32))]
  refine Wk.i2b X0 hx (hb hby d11_7) rfl ?_
  intro c1 hc1
  obtain rfl : c1 = (1 : Int32) := hc1.trans (by decide)
  exact Wk.retZ' X0 hx hlk hr (by simp) (hb hby d11_8) (by decide) (by decide) (Qc := Q_rm_cfa12 Z t kb vs h0) e0 ⟨rfl, N0, rfl⟩
theorem d10_0 : decode jdk_52_method_21_code 0 = .ok (.iconst 0, 1) := by decide +kernel
theorem d10_1 : decode jdk_52_method_21_code 1 = .ok (.istore 5, 2) := by decide +kernel
theorem d10_3 : decode jdk_52_method_21_code 3 = .ok (.iload 5, 2) := by decide +kernel
theorem d10_5 : decode jdk_52_method_21_code 5 = .ok (.iload 4, 2) := by decide +kernel
theorem d10_7 : decode jdk_52_method_21_code 7 = .ok (.if_icmp .ge 37, 3) := by decide +kernel
theorem d10_10 : decode jdk_52_method_21_code 10 = .ok (.aload_n 0, 1) := by decide +kernel
theorem d10_11 : decode jdk_52_method_21_code 11 = .ok (.iload_n 1, 1) := by decide +kernel
theorem d10_12 : decode jdk_52_method_21_code 12 = .ok (.caload, 1) := by decide +kernel
theorem d10_13 : decode jdk_52_method_21_code 13 = .ok (.istore 6, 2) := by decide +kernel
theorem d10_15 : decode jdk_52_method_21_code 15 = .ok (.iload 6, 2) := by decide +kernel
theorem d10_17 : decode jdk_52_method_21_code 17 = .ok (.sipush 255, 3) := by decide +kernel
theorem d10_20 : decode jdk_52_method_21_code 20 = .ok (.if_icmp .le 6, 3) := by decide +kernel
theorem d10_23 : decode jdk_52_method_21_code 23 = .ok (.iload 5, 2) := by decide +kernel
theorem d10_25 : decode jdk_52_method_21_code 25 = .ok (.ireturn, 1) := by decide +kernel
theorem d10_26 : decode jdk_52_method_21_code 26 = .ok (.aload_n 2, 1) := by decide +kernel
theorem d10_27 : decode jdk_52_method_21_code 27 = .ok (.iload_n 3, 1) := by decide +kernel
theorem d10_28 : decode jdk_52_method_21_code 28 = .ok (.iload 6, 2) := by decide +kernel
theorem d10_30 : decode jdk_52_method_21_code 30 = .ok (.i2b, 1) := by decide +kernel
theorem d10_31 : decode jdk_52_method_21_code 31 = .ok (.bastore, 1) := by decide +kernel
theorem d10_32 : decode jdk_52_method_21_code 32 = .ok (.iinc 1 1, 3) := by decide +kernel
theorem d10_35 : decode jdk_52_method_21_code 35 = .ok (.iinc 3 1, 3) := by decide +kernel
theorem d10_38 : decode jdk_52_method_21_code 38 = .ok (.iinc 5 1, 3) := by decide +kernel
theorem d10_41 : decode jdk_52_method_21_code 41 = .ok (.goto (-38), 3) := by decide +kernel
def Q_rm_cp5_12 (Z : State) (b : Addr) (kc : ClassId) (t : Addr) (kb : ClassId) (cz0 : Int32) (cz1 : Int32) (cz2 : Int32) (cz3 : Int32) (cz4 : Int32) (cz5 : Int32) (cz6 : Int32) (cz7 : Int32) (cz8 : Int32) (cz9 : Int32) (cz10 : Int32) (cz11 : Int32) (h0 : Heap) (v : Option Value) (h : Heap) (L : List Loc) : Prop := ∃ r : Int32, v = some (.int r) ∧ Fk h0.size [t] L ∧ Keep h0 h [t] ∧ Fst12 cz0 cz1 cz2 cz3 cz4 cz5 cz6 cz7 cz8 cz9 cz10 cz11 r
set_option maxRecDepth 65536 in
set_option maxHeartbeats 40000000 in
theorem rm_cp5_12 (l : Launch) (Z : State) (a0 : Array Value) (hw : ∀ d ∈ tables_1, d.before a0 Z = true) (ws : List Jvm.Cond) (b : Addr) (kc : ClassId) (t : Addr) (kb : ClassId) (cz0 : Int32) (cz1 : Int32) (cz2 : Int32) (cz3 : Int32) (cz4 : Int32) (cz5 : Int32) (cz6 : Int32) (cz7 : Int32) (cz8 : Int32) (cz9 : Int32) (cz10 : Int32) (cz11 : Int32) (h0 : Heap) (O0 : Old Z Z.heap.size h0) (hA : Arv Z h0 b kc .char (12 : Int32) [(.int cz0), (.int cz1), (.int cz2), (.int cz3), (.int cz4), (.int cz5), (.int cz6), (.int cz7), (.int cz8), (.int cz9), (.int cz10), (.int cz11)] (.int (0 : Int32))) (hT : Arv Z h0 t kb .byte (12 : Int32) [(.int (0 : Int32)), (.int (0 : Int32)), (.int (0 : Int32)), (.int (0 : Int32)), (.int (0 : Int32)), (.int (0 : Int32)), (.int (0 : Int32)), (.int (0 : Int32)), (.int (0 : Int32)), (.int (0 : Int32)), (.int (0 : Int32)), (.int (0 : Int32))] (.int (0 : Int32))) (ht : Z.heap.size ≤ t) (hbt : b ≠ t) (hNL : NL12 cz0 cz1 cz2 cz3 cz4 cz5 cz6 cz7 cz8 cz9 cz10 cz11) :
    Ctr l Z (⟨"java/lang/StringUTF16", "compress", "([CI[BII)I"⟩ : MethodName) jdk_52_method_21_code 7 (some .int) ws ({ frames := 0, cells := 0, slots := 0, locals := 0 } : Room) #[(.ref b), (.int (0 : Int32)), (.ref t), (.int (0 : Int32)), (.int (12 : Int32))] h0 (Q_rm_cp5_12 Z b kc t kb cz0 cz1 cz2 cz3 cz4 cz5 cz6 cz7 cz8 cz9 cz10 cz11 h0) := by
  refine Ctr.intro (Ls := fun _ => #[.val (.ref b), .val (.int (0 : Int32)), .val (.ref t), .val (.int (0 : Int32)), .val (.int (12 : Int32)), .unset, .unset]) (plainFor_of_name pn7) (fun m => by first | rfl | (simp [entryFrame, mkF, argsToLocals, Value.category]; done)) ?_
  intro p e s m below meth c s₁ hx hby hml hr hlk hZ hown hnm hs0 X0 e0
  have w : ∀ (k : Nat) (d : Jvm.Cond), tables_1[k]? = some d → d.before a0 Z = true := fun k d q => hw d (List.mem_of_getElem? q)
  have N0 := Fk.nil h0.size [t]
  refine Wk.iconst X0 hx (v := (0 : Int32)) (hb hby d10_0) rfl rfl ?_
  refine Wk.istore X0 hx (Ls' := #[.val (.ref b), .val (.int (0 : Int32)), .val (.ref t), .val (.int (0 : Int32)), .val (.int (12 : Int32)), .val (.int (0 : Int32)), .unset]) (hb hby d10_1) rfl rfl ?_
  refine Wk.iload X0 hx (hb hby d10_3) rfl rfl ?_
  refine Wk.iload X0 hx (hb hby d10_5) rfl rfl ?_
  refine Wk.icmpNo X0 hx (hb hby d10_7) rfl (tlt (by decide : (0 : Int32) < (12 : Int32))).2.1 ?_
  refine Wk.aloadN X0 hx (hb hby d10_10) rfl rfl rfl ?_
  refine Wk.iloadN X0 hx (hb hby d10_11) rfl rfl ?_
  refine Wk.caload X0 hx hZ e0 hA (by decide) (by decide) (v := cz0) rfl (hb hby d10_12) rfl ?_
  refine Wk.istore X0 hx (Ls' := #[.val (.ref b), .val (.int (0 : Int32)), .val (.ref t), .val (.int (0 : Int32)), .val (.int (12 : Int32)), .val (.int (0 : Int32)), .val (.int cz0)]) (hb hby d10_13) rfl rfl ?_
  refine Wk.iload X0 hx (hb hby d10_15) rfl rfl ?_
  refine Wk.sipush X0 hx (v := (255 : Int32)) (hb hby d10_17) rfl rfl ?_
  by_cases hc1 : (255 : Int32) < cz0
  · skip
    refine Wk.icmpNo X0 hx (hb hby d10_20) rfl (tlt hc1).2.2.2 ?_
    refine Wk.iload X0 hx (hb hby d10_23) rfl rfl ?_
    exact Wk.retI' X0 hx hlk hr (hb hby d10_25) (by decide) (by decide) (Qc := Q_rm_cp5_12 Z b kc t kb cz0 cz1 cz2 cz3 cz4 cz5 cz6 cz7 cz8 cz9 cz10 cz11 h0) e0 ⟨(0 : Int32), rfl, N0, (Keep.refl h0 [t]), (Or.inl ⟨hc1, rfl⟩)⟩
  refine Wk.icmpYes X0 hx (hb hby d10_20) (by decide) (q := 26) rfl (flt hc1).2.2.2 ?_
  refine Wk.aloadN X0 hx (hb hby d10_26) rfl rfl rfl ?_
  refine Wk.iloadN X0 hx (hb hby d10_27) rfl rfl ?_
  refine Wk.iload X0 hx (hb hby d10_28) rfl rfl ?_
  refine Wk.i2b X0 hx (hb hby d10_30) rfl ?_
  intro c2 hc2
  refine Wk.bastore X0 hx hZ e0 hT (by decide) (by decide) 0 rfl (Nat.le_of_ble_eq_true rfl) (w := (nar .byte c2)) rfl (hb hby d10_31) rfl ?_
  intro T3 h3 L3 M3 X3 e3 W3 A3
  have N3 := M3 _ _ N0 (Or.inl (List.mem_of_getElem? (i := 0) rfl))
  have O4 : Old Z Z.heap.size h3 := O0.wr W3 ht
  have V3 : Arv Z h3 t kb .byte (12 : Int32) [(.int (nar .byte c2)), (.int (0 : Int32)), (.int (0 : Int32)), (.int (0 : Int32)), (.int (0 : Int32)), (.int (0 : Int32)), (.int (0 : Int32)), (.int (0 : Int32)), (.int (0 : Int32)), (.int (0 : Int32)), (.int (0 : Int32)), (.int (0 : Int32))] (.int (0 : Int32)) := A3
  refine Wk.iinc X3 hx (Ls' := #[.val (.ref b), .val (.int (1 : Int32)), .val (.ref t), .val (.int (0 : Int32)), .val (.int (12 : Int32)), .val (.int (0 : Int32)), .val (.int cz0)]) (hb hby d10_32) rfl rfl rfl ?_
  refine Wk.iinc X3 hx (Ls' := #[.val (.ref b), .val (.int (1 : Int32)), .val (.ref t), .val (.int (1 : Int32)), .val (.int (12 : Int32)), .val (.int (0 : Int32)), .val (.int cz0)]) (hb hby d10_35) rfl rfl rfl ?_
  refine Wk.iinc X3 hx (Ls' := #[.val (.ref b), .val (.int (1 : Int32)), .val (.ref t), .val (.int (1 : Int32)), .val (.int (12 : Int32)), .val (.int (1 : Int32)), .val (.int cz0)]) (hb hby d10_38) rfl rfl rfl ?_
  refine Wk.goto X3 hx (hb hby d10_41) (by decide) (q := 3) rfl ?_
  have KK5 : Keep h0 h3 [t] := ((Keep.refl h0 [t]).wr W3 (Or.inl (List.mem_of_getElem? (i := 0) rfl)))
  refine Wk.iload X3 hx (hb hby d10_3) rfl rfl ?_
  refine Wk.iload X3 hx (hb hby d10_5) rfl rfl ?_
  refine Wk.icmpNo X3 hx (hb hby d10_7) rfl (tlt (by decide : (1 : Int32) < (12 : Int32))).2.1 ?_
  refine Wk.aloadN X3 hx (hb hby d10_10) rfl rfl rfl ?_
  refine Wk.iloadN X3 hx (hb hby d10_11) rfl rfl ?_
  have f6 := (hA.keep KK5 (ninS hbt nin0))
  refine Wk.caload X3 hx hZ e3 f6 (by decide) (by decide) (v := cz1) rfl (hb hby d10_12) rfl ?_
  refine Wk.istore X3 hx (Ls' := #[.val (.ref b), .val (.int (1 : Int32)), .val (.ref t), .val (.int (1 : Int32)), .val (.int (12 : Int32)), .val (.int (1 : Int32)), .val (.int cz1)]) (hb hby d10_13) rfl rfl ?_
  refine Wk.iload X3 hx (hb hby d10_15) rfl rfl ?_
  refine Wk.sipush X3 hx (v := (255 : Int32)) (hb hby d10_17) rfl rfl ?_
  by_cases hc7 : (255 : Int32) < cz1
  · skip
    refine Wk.icmpNo X3 hx (hb hby d10_20) rfl (tlt hc7).2.2.2 ?_
    refine Wk.iload X3 hx (hb hby d10_23) rfl rfl ?_
    exact Wk.retI' X3 hx hlk hr (hb hby d10_25) (by decide) (by decide) (Qc := Q_rm_cp5_12 Z b kc t kb cz0 cz1 cz2 cz3 cz4 cz5 cz6 cz7 cz8 cz9 cz10 cz11 h0) e3 ⟨(1 : Int32), rfl, N3, KK5, (Or.inr (Or.inl ⟨hc7, rfl⟩))⟩
  refine Wk.icmpYes X3 hx (hb hby d10_20) (by decide) (q := 26) rfl (flt hc7).2.2.2 ?_
  refine Wk.aloadN X3 hx (hb hby d10_26) rfl rfl rfl ?_
  refine Wk.iloadN X3 hx (hb hby d10_27) rfl rfl ?_
  refine Wk.iload X3 hx (hb hby d10_28) rfl rfl ?_
  refine Wk.i2b X3 hx (hb hby d10_30) rfl ?_
  intro c8 hc8
  refine Wk.bastore X3 hx hZ e3 V3 (by decide) (by decide) 1 rfl (Nat.le_of_ble_eq_true rfl) (w := (nar .byte c8)) rfl (hb hby d10_31) rfl ?_
  intro T9 h9 L9 M9 X9 e9 W9 A9
  have N9 := M9 _ _ N3 (Or.inl (List.mem_of_getElem? (i := 0) rfl))
  have O10 : Old Z Z.heap.size h9 := O4.wr W9 ht
  have V9 : Arv Z h9 t kb .byte (12 : Int32) [(.int (nar .byte c2)), (.int (nar .byte c8)), (.int (0 : Int32)), (.int (0 : Int32)), (.int (0 : Int32)), (.int (0 : Int32)), (.int (0 : Int32)), (.int (0 : Int32)), (.int (0 : Int32)), (.int (0 : Int32)), (.int (0 : Int32)), (.int (0 : Int32))] (.int (0 : Int32)) := A9
  refine Wk.iinc X9 hx (Ls' := #[.val (.ref b), .val (.int (2 : Int32)), .val (.ref t), .val (.int (1 : Int32)), .val (.int (12 : Int32)), .val (.int (1 : Int32)), .val (.int cz1)]) (hb hby d10_32) rfl rfl rfl ?_
  refine Wk.iinc X9 hx (Ls' := #[.val (.ref b), .val (.int (2 : Int32)), .val (.ref t), .val (.int (2 : Int32)), .val (.int (12 : Int32)), .val (.int (1 : Int32)), .val (.int cz1)]) (hb hby d10_35) rfl rfl rfl ?_
  refine Wk.iinc X9 hx (Ls' := #[.val (.ref b), .val (.int (2 : Int32)), .val (.ref t), .val (.int (2 : Int32)), .val (.int (12 : Int32)), .val (.int (2 : Int32)), .val (.int cz1)]) (hb hby d10_38) rfl rfl rfl ?_
  refine Wk.goto X9 hx (hb hby d10_41) (by decide) (q := 3) rfl ?_
  have KK11 : Keep h0 h9 [t] := (KK5.wr W9 (Or.inl (List.mem_of_getElem? (i := 0) rfl)))
  refine Wk.iload X9 hx (hb hby d10_3) rfl rfl ?_
  refine Wk.iload X9 hx (hb hby d10_5) rfl rfl ?_
  refine Wk.icmpNo X9 hx (hb hby d10_7) rfl (tlt (by decide : (2 : Int32) < (12 : Int32))).2.1 ?_
  refine Wk.aloadN X9 hx (hb hby d10_10) rfl rfl rfl ?_
  refine Wk.iloadN X9 hx (hb hby d10_11) rfl rfl ?_
  have KK12 : Keep h3 h9 [t] := ((Keep.refl h3 [t]).wr W9 (Or.inl (List.mem_of_getElem? (i := 0) rfl)))
  have f13 := (f6.keep KK12 (ninS hbt nin0))
  refine Wk.caload X9 hx hZ e9 f13 (by decide) (by decide) (v := cz2) rfl (hb hby d10_12) rfl ?_
  refine Wk.istore X9 hx (Ls' := #[.val (.ref b), .val (.int (2 : Int32)), .val (.ref t), .val (.int (2 : Int32)), .val (.int (12 : Int32)), .val (.int (2 : Int32)), .val (.int cz2)]) (hb hby d10_13) rfl rfl ?_
  refine Wk.iload X9 hx (hb hby d10_15) rfl rfl ?_
  refine Wk.sipush X9 hx (v := (255 : Int32)) (hb hby d10_17) rfl rfl ?_
  by_cases hc14 : (255 : Int32) < cz2
  · skip
    refine Wk.icmpNo X9 hx (hb hby d10_20) rfl (tlt hc14).2.2.2 ?_
    refine Wk.iload X9 hx (hb hby d10_23) rfl rfl ?_
    exact Wk.retI' X9 hx hlk hr (hb hby d10_25) (by decide) (by decide) (Qc := Q_rm_cp5_12 Z b kc t kb cz0 cz1 cz2 cz3 cz4 cz5 cz6 cz7 cz8 cz9 cz10 cz11 h0) e9 ⟨(2 : Int32), rfl, N9, KK11, (Or.inr (Or.inr (Or.inl ⟨hc14, rfl⟩)))⟩
  refine Wk.icmpYes X9 hx (hb hby d10_20) (by decide) (q := 26) rfl (flt hc14).2.2.2 ?_
  refine Wk.aloadN X9 hx (hb hby d10_26) rfl rfl rfl ?_
  refine Wk.iloadN X9 hx (hb hby d10_27) rfl rfl ?_
  refine Wk.iload X9 hx (hb hby d10_28) rfl rfl ?_
  refine Wk.i2b X9 hx (hb hby d10_30) rfl ?_
  intro c15 hc15
  refine Wk.bastore X9 hx hZ e9 V9 (by decide) (by decide) 2 rfl (Nat.le_of_ble_eq_true rfl) (w := (nar .byte c15)) rfl (hb hby d10_31) rfl ?_
  intro T16 h16 L16 M16 X16 e16 W16 A16
  have N16 := M16 _ _ N9 (Or.inl (List.mem_of_getElem? (i := 0) rfl))
  have O17 : Old Z Z.heap.size h16 := O10.wr W16 ht
  have V16 : Arv Z h16 t kb .byte (12 : Int32) [(.int (nar .byte c2)), (.int (nar .byte c8)), (.int (nar .byte c15)), (.int (0 : Int32)), (.int (0 : Int32)), (.int (0 : Int32)), (.int (0 : Int32)), (.int (0 : Int32)), (.int (0 : Int32)), (.int (0 : Int32)), (.int (0 : Int32)), (.int (0 : Int32))] (.int (0 : Int32)) := A16
  refine Wk.iinc X16 hx (Ls' := #[.val (.ref b), .val (.int (3 : Int32)), .val (.ref t), .val (.int (2 : Int32)), .val (.int (12 : Int32)), .val (.int (2 : Int32)), .val (.int cz2)]) (hb hby d10_32) rfl rfl rfl ?_
  refine Wk.iinc X16 hx (Ls' := #[.val (.ref b), .val (.int (3 : Int32)), .val (.ref t), .val (.int (3 : Int32)), .val (.int (12 : Int32)), .val (.int (2 : Int32)), .val (.int cz2)]) (hb hby d10_35) rfl rfl rfl ?_
  refine Wk.iinc X16 hx (Ls' := #[.val (.ref b), .val (.int (3 : Int32)), .val (.ref t), .val (.int (3 : Int32)), .val (.int (12 : Int32)), .val (.int (3 : Int32)), .val (.int cz2)]) (hb hby d10_38) rfl rfl rfl ?_
  refine Wk.goto X16 hx (hb hby d10_41) (by decide) (q := 3) rfl ?_
  have KK18 : Keep h0 h16 [t] := (KK11.wr W16 (Or.inl (List.mem_of_getElem? (i := 0) rfl)))
  refine Wk.iload X16 hx (hb hby d10_3) rfl rfl ?_
  refine Wk.iload X16 hx (hb hby d10_5) rfl rfl ?_
  refine Wk.icmpNo X16 hx (hb hby d10_7) rfl (tlt (by decide : (3 : Int32) < (12 : Int32))).2.1 ?_
  refine Wk.aloadN X16 hx (hb hby d10_10) rfl rfl rfl ?_
  refine Wk.iloadN X16 hx (hb hby d10_11) rfl rfl ?_
  have KK19 : Keep h9 h16 [t] := ((Keep.refl h9 [t]).wr W16 (Or.inl (List.mem_of_getElem? (i := 0) rfl)))
  have f20 := (f13.keep KK19 (ninS hbt nin0))
  refine Wk.caload X16 hx hZ e16 f20 (by decide) (by decide) (v := cz3) rfl (hb hby d10_12) rfl ?_
  refine Wk.istore X16 hx (Ls' := #[.val (.ref b), .val (.int (3 : Int32)), .val (.ref t), .val (.int (3 : Int32)), .val (.int (12 : Int32)), .val (.int (3 : Int32)), .val (.int cz3)]) (hb hby d10_13) rfl rfl ?_
  refine Wk.iload X16 hx (hb hby d10_15) rfl rfl ?_
  refine Wk.sipush X16 hx (v := (255 : Int32)) (hb hby d10_17) rfl rfl ?_
  by_cases hc21 : (255 : Int32) < cz3
  · skip
    refine Wk.icmpNo X16 hx (hb hby d10_20) rfl (tlt hc21).2.2.2 ?_
    refine Wk.iload X16 hx (hb hby d10_23) rfl rfl ?_
    exact Wk.retI' X16 hx hlk hr (hb hby d10_25) (by decide) (by decide) (Qc := Q_rm_cp5_12 Z b kc t kb cz0 cz1 cz2 cz3 cz4 cz5 cz6 cz7 cz8 cz9 cz10 cz11 h0) e16 ⟨(3 : Int32), rfl, N16, KK18, (Or.inr (Or.inr (Or.inr (Or.inl ⟨hc21, rfl⟩))))⟩
  refine Wk.icmpYes X16 hx (hb hby d10_20) (by decide) (q := 26) rfl (flt hc21).2.2.2 ?_
  refine Wk.aloadN X16 hx (hb hby d10_26) rfl rfl rfl ?_
  refine Wk.iloadN X16 hx (hb hby d10_27) rfl rfl ?_
  refine Wk.iload X16 hx (hb hby d10_28) rfl rfl ?_
  refine Wk.i2b X16 hx (hb hby d10_30) rfl ?_
  intro c22 hc22
  refine Wk.bastore X16 hx hZ e16 V16 (by decide) (by decide) 3 rfl (Nat.le_of_ble_eq_true rfl) (w := (nar .byte c22)) rfl (hb hby d10_31) rfl ?_
  intro T23 h23 L23 M23 X23 e23 W23 A23
  have N23 := M23 _ _ N16 (Or.inl (List.mem_of_getElem? (i := 0) rfl))
  have O24 : Old Z Z.heap.size h23 := O17.wr W23 ht
  have V23 : Arv Z h23 t kb .byte (12 : Int32) [(.int (nar .byte c2)), (.int (nar .byte c8)), (.int (nar .byte c15)), (.int (nar .byte c22)), (.int (0 : Int32)), (.int (0 : Int32)), (.int (0 : Int32)), (.int (0 : Int32)), (.int (0 : Int32)), (.int (0 : Int32)), (.int (0 : Int32)), (.int (0 : Int32))] (.int (0 : Int32)) := A23
  refine Wk.iinc X23 hx (Ls' := #[.val (.ref b), .val (.int (4 : Int32)), .val (.ref t), .val (.int (3 : Int32)), .val (.int (12 : Int32)), .val (.int (3 : Int32)), .val (.int cz3)]) (hb hby d10_32) rfl rfl rfl ?_
  refine Wk.iinc X23 hx (Ls' := #[.val (.ref b), .val (.int (4 : Int32)), .val (.ref t), .val (.int (4 : Int32)), .val (.int (12 : Int32)), .val (.int (3 : Int32)), .val (.int cz3)]) (hb hby d10_35) rfl rfl rfl ?_
  refine Wk.iinc X23 hx (Ls' := #[.val (.ref b), .val (.int (4 : Int32)), .val (.ref t), .val (.int (4 : Int32)), .val (.int (12 : Int32)), .val (.int (4 : Int32)), .val (.int cz3)]) (hb hby d10_38) rfl rfl rfl ?_
  refine Wk.goto X23 hx (hb hby d10_41) (by decide) (q := 3) rfl ?_
  have KK25 : Keep h0 h23 [t] := (KK18.wr W23 (Or.inl (List.mem_of_getElem? (i := 0) rfl)))
  refine Wk.iload X23 hx (hb hby d10_3) rfl rfl ?_
  refine Wk.iload X23 hx (hb hby d10_5) rfl rfl ?_
  refine Wk.icmpNo X23 hx (hb hby d10_7) rfl (tlt (by decide : (4 : Int32) < (12 : Int32))).2.1 ?_
  refine Wk.aloadN X23 hx (hb hby d10_10) rfl rfl rfl ?_
  refine Wk.iloadN X23 hx (hb hby d10_11) rfl rfl ?_
  have KK26 : Keep h16 h23 [t] := ((Keep.refl h16 [t]).wr W23 (Or.inl (List.mem_of_getElem? (i := 0) rfl)))
  have f27 := (f20.keep KK26 (ninS hbt nin0))
  refine Wk.caload X23 hx hZ e23 f27 (by decide) (by decide) (v := cz4) rfl (hb hby d10_12) rfl ?_
  refine Wk.istore X23 hx (Ls' := #[.val (.ref b), .val (.int (4 : Int32)), .val (.ref t), .val (.int (4 : Int32)), .val (.int (12 : Int32)), .val (.int (4 : Int32)), .val (.int cz4)]) (hb hby d10_13) rfl rfl ?_
  refine Wk.iload X23 hx (hb hby d10_15) rfl rfl ?_
  refine Wk.sipush X23 hx (v := (255 : Int32)) (hb hby d10_17) rfl rfl ?_
  by_cases hc28 : (255 : Int32) < cz4
  · skip
    refine Wk.icmpNo X23 hx (hb hby d10_20) rfl (tlt hc28).2.2.2 ?_
    refine Wk.iload X23 hx (hb hby d10_23) rfl rfl ?_
    exact Wk.retI' X23 hx hlk hr (hb hby d10_25) (by decide) (by decide) (Qc := Q_rm_cp5_12 Z b kc t kb cz0 cz1 cz2 cz3 cz4 cz5 cz6 cz7 cz8 cz9 cz10 cz11 h0) e23 ⟨(4 : Int32), rfl, N23, KK25, (Or.inr (Or.inr (Or.inr (Or.inr (Or.inl ⟨hc28, rfl⟩)))))⟩
  refine Wk.icmpYes X23 hx (hb hby d10_20) (by decide) (q := 26) rfl (flt hc28).2.2.2 ?_
  refine Wk.aloadN X23 hx (hb hby d10_26) rfl rfl rfl ?_
  refine Wk.iloadN X23 hx (hb hby d10_27) rfl rfl ?_
  refine Wk.iload X23 hx (hb hby d10_28) rfl rfl ?_
  refine Wk.i2b X23 hx (hb hby d10_30) rfl ?_
  intro c29 hc29
  refine Wk.bastore X23 hx hZ e23 V23 (by decide) (by decide) 4 rfl (Nat.le_of_ble_eq_true rfl) (w := (nar .byte c29)) rfl (hb hby d10_31) rfl ?_
  intro T30 h30 L30 M30 X30 e30 W30 A30
  have N30 := M30 _ _ N23 (Or.inl (List.mem_of_getElem? (i := 0) rfl))
  have O31 : Old Z Z.heap.size h30 := O24.wr W30 ht
  have V30 : Arv Z h30 t kb .byte (12 : Int32) [(.int (nar .byte c2)), (.int (nar .byte c8)), (.int (nar .byte c15)), (.int (nar .byte c22)), (.int (nar .byte c29)), (.int (0 : Int32)), (.int (0 : Int32)), (.int (0 : Int32)), (.int (0 : Int32)), (.int (0 : Int32)), (.int (0 : Int32)), (.int (0 : Int32))] (.int (0 : Int32)) := A30
  refine Wk.iinc X30 hx (Ls' := #[.val (.ref b), .val (.int (5 : Int32)), .val (.ref t), .val (.int (4 : Int32)), .val (.int (12 : Int32)), .val (.int (4 : Int32)), .val (.int cz4)]) (hb hby d10_32) rfl rfl rfl ?_
  refine Wk.iinc X30 hx (Ls' := #[.val (.ref b), .val (.int (5 : Int32)), .val (.ref t), .val (.int (5 : Int32)), .val (.int (12 : Int32)), .val (.int (4 : Int32)), .val (.int cz4)]) (hb hby d10_35) rfl rfl rfl ?_
  refine Wk.iinc X30 hx (Ls' := #[.val (.ref b), .val (.int (5 : Int32)), .val (.ref t), .val (.int (5 : Int32)), .val (.int (12 : Int32)), .val (.int (5 : Int32)), .val (.int cz4)]) (hb hby d10_38) rfl rfl rfl ?_
  refine Wk.goto X30 hx (hb hby d10_41) (by decide) (q := 3) rfl ?_
  have KK32 : Keep h0 h30 [t] := (KK25.wr W30 (Or.inl (List.mem_of_getElem? (i := 0) rfl)))
  refine Wk.iload X30 hx (hb hby d10_3) rfl rfl ?_
  refine Wk.iload X30 hx (hb hby d10_5) rfl rfl ?_
  refine Wk.icmpNo X30 hx (hb hby d10_7) rfl (tlt (by decide : (5 : Int32) < (12 : Int32))).2.1 ?_
  refine Wk.aloadN X30 hx (hb hby d10_10) rfl rfl rfl ?_
  refine Wk.iloadN X30 hx (hb hby d10_11) rfl rfl ?_
  have KK33 : Keep h23 h30 [t] := ((Keep.refl h23 [t]).wr W30 (Or.inl (List.mem_of_getElem? (i := 0) rfl)))
  have f34 := (f27.keep KK33 (ninS hbt nin0))
  refine Wk.caload X30 hx hZ e30 f34 (by decide) (by decide) (v := cz5) rfl (hb hby d10_12) rfl ?_
  refine Wk.istore X30 hx (Ls' := #[.val (.ref b), .val (.int (5 : Int32)), .val (.ref t), .val (.int (5 : Int32)), .val (.int (12 : Int32)), .val (.int (5 : Int32)), .val (.int cz5)]) (hb hby d10_13) rfl rfl ?_
  refine Wk.iload X30 hx (hb hby d10_15) rfl rfl ?_
  refine Wk.sipush X30 hx (v := (255 : Int32)) (hb hby d10_17) rfl rfl ?_
  by_cases hc35 : (255 : Int32) < cz5
  · skip
    refine Wk.icmpNo X30 hx (hb hby d10_20) rfl (tlt hc35).2.2.2 ?_
    refine Wk.iload X30 hx (hb hby d10_23) rfl rfl ?_
    exact Wk.retI' X30 hx hlk hr (hb hby d10_25) (by decide) (by decide) (Qc := Q_rm_cp5_12 Z b kc t kb cz0 cz1 cz2 cz3 cz4 cz5 cz6 cz7 cz8 cz9 cz10 cz11 h0) e30 ⟨(5 : Int32), rfl, N30, KK32, (Or.inr (Or.inr (Or.inr (Or.inr (Or.inr (Or.inl ⟨hc35, rfl⟩))))))⟩
  refine Wk.icmpYes X30 hx (hb hby d10_20) (by decide) (q := 26) rfl (flt hc35).2.2.2 ?_
  refine Wk.aloadN X30 hx (hb hby d10_26) rfl rfl rfl ?_
  refine Wk.iloadN X30 hx (hb hby d10_27) rfl rfl ?_
  refine Wk.iload X30 hx (hb hby d10_28) rfl rfl ?_
  refine Wk.i2b X30 hx (hb hby d10_30) rfl ?_
  intro c36 hc36
  refine Wk.bastore X30 hx hZ e30 V30 (by decide) (by decide) 5 rfl (Nat.le_of_ble_eq_true rfl) (w := (nar .byte c36)) rfl (hb hby d10_31) rfl ?_
  intro T37 h37 L37 M37 X37 e37 W37 A37
  have N37 := M37 _ _ N30 (Or.inl (List.mem_of_getElem? (i := 0) rfl))
  have O38 : Old Z Z.heap.size h37 := O31.wr W37 ht
  have V37 : Arv Z h37 t kb .byte (12 : Int32) [(.int (nar .byte c2)), (.int (nar .byte c8)), (.int (nar .byte c15)), (.int (nar .byte c22)), (.int (nar .byte c29)), (.int (nar .byte c36)), (.int (0 : Int32)), (.int (0 : Int32)), (.int (0 : Int32)), (.int (0 : Int32)), (.int (0 : Int32)), (.int (0 : Int32))] (.int (0 : Int32)) := A37
  refine Wk.iinc X37 hx (Ls' := #[.val (.ref b), .val (.int (6 : Int32)), .val (.ref t), .val (.int (5 : Int32)), .val (.int (12 : Int32)), .val (.int (5 : Int32)), .val (.int cz5)]) (hb hby d10_32) rfl rfl rfl ?_
  refine Wk.iinc X37 hx (Ls' := #[.val (.ref b), .val (.int (6 : Int32)), .val (.ref t), .val (.int (6 : Int32)), .val (.int (12 : Int32)), .val (.int (5 : Int32)), .val (.int cz5)]) (hb hby d10_35) rfl rfl rfl ?_
  refine Wk.iinc X37 hx (Ls' := #[.val (.ref b), .val (.int (6 : Int32)), .val (.ref t), .val (.int (6 : Int32)), .val (.int (12 : Int32)), .val (.int (6 : Int32)), .val (.int cz5)]) (hb hby d10_38) rfl rfl rfl ?_
  refine Wk.goto X37 hx (hb hby d10_41) (by decide) (q := 3) rfl ?_
  have KK39 : Keep h0 h37 [t] := (KK32.wr W37 (Or.inl (List.mem_of_getElem? (i := 0) rfl)))
  refine Wk.iload X37 hx (hb hby d10_3) rfl rfl ?_
  refine Wk.iload X37 hx (hb hby d10_5) rfl rfl ?_
  refine Wk.icmpNo X37 hx (hb hby d10_7) rfl (tlt (by decide : (6 : Int32) < (12 : Int32))).2.1 ?_
  refine Wk.aloadN X37 hx (hb hby d10_10) rfl rfl rfl ?_
  refine Wk.iloadN X37 hx (hb hby d10_11) rfl rfl ?_
  have KK40 : Keep h30 h37 [t] := ((Keep.refl h30 [t]).wr W37 (Or.inl (List.mem_of_getElem? (i := 0) rfl)))
  have f41 := (f34.keep KK40 (ninS hbt nin0))
  refine Wk.caload X37 hx hZ e37 f41 (by decide) (by decide) (v := cz6) rfl (hb hby d10_12) rfl ?_
  refine Wk.istore X37 hx (Ls' := #[.val (.ref b), .val (.int (6 : Int32)), .val (.ref t), .val (.int (6 : Int32)), .val (.int (12 : Int32)), .val (.int (6 : Int32)), .val (.int cz6)]) (hb hby d10_13) rfl rfl ?_
  refine Wk.iload X37 hx (hb hby d10_15) rfl rfl ?_
  refine Wk.sipush X37 hx (v := (255 : Int32)) (hb hby d10_17) rfl rfl ?_
  by_cases hc42 : (255 : Int32) < cz6
  · skip
    refine Wk.icmpNo X37 hx (hb hby d10_20) rfl (tlt hc42).2.2.2 ?_
    refine Wk.iload X37 hx (hb hby d10_23) rfl rfl ?_
    exact Wk.retI' X37 hx hlk hr (hb hby d10_25) (by decide) (by decide) (Qc := Q_rm_cp5_12 Z b kc t kb cz0 cz1 cz2 cz3 cz4 cz5 cz6 cz7 cz8 cz9 cz10 cz11 h0) e37 ⟨(6 : Int32), rfl, N37, KK39, (Or.inr (Or.inr (Or.inr (Or.inr (Or.inr (Or.inr (Or.inl ⟨hc42, rfl⟩)))))))⟩
  refine Wk.icmpYes X37 hx (hb hby d10_20) (by decide) (q := 26) rfl (flt hc42).2.2.2 ?_
  refine Wk.aloadN X37 hx (hb hby d10_26) rfl rfl rfl ?_
  refine Wk.iloadN X37 hx (hb hby d10_27) rfl rfl ?_
  refine Wk.iload X37 hx (hb hby d10_28) rfl rfl ?_
  refine Wk.i2b X37 hx (hb hby d10_30) rfl ?_
  intro c43 hc43
  refine Wk.bastore X37 hx hZ e37 V37 (by decide) (by decide) 6 rfl (Nat.le_of_ble_eq_true rfl) (w := (nar .byte c43)) rfl (hb hby d10_31) rfl ?_
  intro T44 h44 L44 M44 X44 e44 W44 A44
  have N44 := M44 _ _ N37 (Or.inl (List.mem_of_getElem? (i := 0) rfl))
  have O45 : Old Z Z.heap.size h44 := O38.wr W44 ht
  have V44 : Arv Z h44 t kb .byte (12 : Int32) [(.int (nar .byte c2)), (.int (nar .byte c8)), (.int (nar .byte c15)), (.int (nar .byte c22)), (.int (nar .byte c29)), (.int (nar .byte c36)), (.int (nar .byte c43)), (.int (0 : Int32)), (.int (0 : Int32)), (.int (0 : Int32)), (.int (0 : Int32)), (.int (0 : Int32))] (.int (0 : Int32)) := A44
  refine Wk.iinc X44 hx (Ls' := #[.val (.ref b), .val (.int (7 : Int32)), .val (.ref t), .val (.int (6 : Int32)), .val (.int (12 : Int32)), .val (.int (6 : Int32)), .val (.int cz6)]) (hb hby d10_32) rfl rfl rfl ?_
  refine Wk.iinc X44 hx (Ls' := #[.val (.ref b), .val (.int (7 : Int32)), .val (.ref t), .val (.int (7 : Int32)), .val (.int (12 : Int32)), .val (.int (6 : Int32)), .val (.int cz6)]) (hb hby d10_35) rfl rfl rfl ?_
  refine Wk.iinc X44 hx (Ls' := #[.val (.ref b), .val (.int (7 : Int32)), .val (.ref t), .val (.int (7 : Int32)), .val (.int (12 : Int32)), .val (.int (7 : Int32)), .val (.int cz6)]) (hb hby d10_38) rfl rfl rfl ?_
  refine Wk.goto X44 hx (hb hby d10_41) (by decide) (q := 3) rfl ?_
  have KK46 : Keep h0 h44 [t] := (KK39.wr W44 (Or.inl (List.mem_of_getElem? (i := 0) rfl)))
  refine Wk.iload X44 hx (hb hby d10_3) rfl rfl ?_
  refine Wk.iload X44 hx (hb hby d10_5) rfl rfl ?_
  refine Wk.icmpNo X44 hx (hb hby d10_7) rfl (tlt (by decide : (7 : Int32) < (12 : Int32))).2.1 ?_
  refine Wk.aloadN X44 hx (hb hby d10_10) rfl rfl rfl ?_
  refine Wk.iloadN X44 hx (hb hby d10_11) rfl rfl ?_
  have KK47 : Keep h37 h44 [t] := ((Keep.refl h37 [t]).wr W44 (Or.inl (List.mem_of_getElem? (i := 0) rfl)))
  have f48 := (f41.keep KK47 (ninS hbt nin0))
  refine Wk.caload X44 hx hZ e44 f48 (by decide) (by decide) (v := cz7) rfl (hb hby d10_12) rfl ?_
  refine Wk.istore X44 hx (Ls' := #[.val (.ref b), .val (.int (7 : Int32)), .val (.ref t), .val (.int (7 : Int32)), .val (.int (12 : Int32)), .val (.int (7 : Int32)), .val (.int cz7)]) (hb hby d10_13) rfl rfl ?_
  refine Wk.iload X44 hx (hb hby d10_15) rfl rfl ?_
  refine Wk.sipush X44 hx (v := (255 : Int32)) (hb hby d10_17) rfl rfl ?_
  by_cases hc49 : (255 : Int32) < cz7
  · skip
    refine Wk.icmpNo X44 hx (hb hby d10_20) rfl (tlt hc49).2.2.2 ?_
    refine Wk.iload X44 hx (hb hby d10_23) rfl rfl ?_
    exact Wk.retI' X44 hx hlk hr (hb hby d10_25) (by decide) (by decide) (Qc := Q_rm_cp5_12 Z b kc t kb cz0 cz1 cz2 cz3 cz4 cz5 cz6 cz7 cz8 cz9 cz10 cz11 h0) e44 ⟨(7 : Int32), rfl, N44, KK46, (Or.inr (Or.inr (Or.inr (Or.inr (Or.inr (Or.inr (Or.inr (Or.inl ⟨hc49, rfl⟩))))))))⟩
  refine Wk.icmpYes X44 hx (hb hby d10_20) (by decide) (q := 26) rfl (flt hc49).2.2.2 ?_
  refine Wk.aloadN X44 hx (hb hby d10_26) rfl rfl rfl ?_
  refine Wk.iloadN X44 hx (hb hby d10_27) rfl rfl ?_
  refine Wk.iload X44 hx (hb hby d10_28) rfl rfl ?_
  refine Wk.i2b X44 hx (hb hby d10_30) rfl ?_
  intro c50 hc50
  refine Wk.bastore X44 hx hZ e44 V44 (by decide) (by decide) 7 rfl (Nat.le_of_ble_eq_true rfl) (w := (nar .byte c50)) rfl (hb hby d10_31) rfl ?_
  intro T51 h51 L51 M51 X51 e51 W51 A51
  have N51 := M51 _ _ N44 (Or.inl (List.mem_of_getElem? (i := 0) rfl))
  have O52 : Old Z Z.heap.size h51 := O45.wr W51 ht
  have V51 : Arv Z h51 t kb .byte (12 : Int32) [(.int (nar .byte c2)), (.int (nar .byte c8)), (.int (nar .byte c15)), (.int (nar .byte c22)), (.int (nar .byte c29)), (.int (nar .byte c36)), (.int (nar .byte c43)), (.int (nar .byte c50)), (.int (0 : Int32)), (.int (0 : Int32)), (.int (0 : Int32)), (.int (0 : Int32))] (.int (0 : Int32)) := A51
  refine Wk.iinc X51 hx (Ls' := #[.val (.ref b), .val (.int (8 : Int32)), .val (.ref t), .val (.int (7 : Int32)), .val (.int (12 : Int32)), .val (.int (7 : Int32)), .val (.int cz7)]) (hb hby d10_32) rfl rfl rfl ?_
  refine Wk.iinc X51 hx (Ls' := #[.val (.ref b), .val (.int (8 : Int32)), .val (.ref t), .val (.int (8 : Int32)), .val (.int (12 : Int32)), .val (.int (7 : Int32)), .val (.int cz7)]) (hb hby d10_35) rfl rfl rfl ?_
  refine Wk.iinc X51 hx (Ls' := #[.val (.ref b), .val (.int (8 : Int32)), .val (.ref t), .val (.int (8 : Int32)), .val (.int (12 : Int32)), .val (.int (8 : Int32)), .val (.int cz7)]) (hb hby d10_38) rfl rfl rfl ?_
  refine Wk.goto X51 hx (hb hby d10_41) (by decide) (q := 3) rfl ?_
  have KK53 : Keep h0 h51 [t] := (KK46.wr W51 (Or.inl (List.mem_of_getElem? (i := 0) rfl)))
  refine Wk.iload X51 hx (hb hby d10_3) rfl rfl ?_
  refine Wk.iload X51 hx (hb hby d10_5) rfl rfl ?_
  refine Wk.icmpNo X51 hx (hb hby d10_7) rfl (tlt (by decide : (8 : Int32) < (12 : Int32))).2.1 ?_
  refine Wk.aloadN X51 hx (hb hby d10_10) rfl rfl rfl ?_
  refine Wk.iloadN X51 hx (hb hby d10_11) rfl rfl ?_
  have KK54 : Keep h44 h51 [t] := ((Keep.refl h44 [t]).wr W51 (Or.inl (List.mem_of_getElem? (i := 0) rfl)))
  have f55 := (f48.keep KK54 (ninS hbt nin0))
  refine Wk.caload X51 hx hZ e51 f55 (by decide) (by decide) (v := cz8) rfl (hb hby d10_12) rfl ?_
  refine Wk.istore X51 hx (Ls' := #[.val (.ref b), .val (.int (8 : Int32)), .val (.ref t), .val (.int (8 : Int32)), .val (.int (12 : Int32)), .val (.int (8 : Int32)), .val (.int cz8)]) (hb hby d10_13) rfl rfl ?_
  refine Wk.iload X51 hx (hb hby d10_15) rfl rfl ?_
  refine Wk.sipush X51 hx (v := (255 : Int32)) (hb hby d10_17) rfl rfl ?_
  by_cases hc56 : (255 : Int32) < cz8
  · skip
    refine Wk.icmpNo X51 hx (hb hby d10_20) rfl (tlt hc56).2.2.2 ?_
    refine Wk.iload X51 hx (hb hby d10_23) rfl rfl ?_
    exact Wk.retI' X51 hx hlk hr (hb hby d10_25) (by decide) (by decide) (Qc := Q_rm_cp5_12 Z b kc t kb cz0 cz1 cz2 cz3 cz4 cz5 cz6 cz7 cz8 cz9 cz10 cz11 h0) e51 ⟨(8 : Int32), rfl, N51, KK53, (Or.inr (Or.inr (Or.inr (Or.inr (Or.inr (Or.inr (Or.inr (Or.inr (Or.inl ⟨hc56, rfl⟩)))))))))⟩
  refine Wk.icmpYes X51 hx (hb hby d10_20) (by decide) (q := 26) rfl (flt hc56).2.2.2 ?_
  refine Wk.aloadN X51 hx (hb hby d10_26) rfl rfl rfl ?_
  refine Wk.iloadN X51 hx (hb hby d10_27) rfl rfl ?_
  refine Wk.iload X51 hx (hb hby d10_28) rfl rfl ?_
  refine Wk.i2b X51 hx (hb hby d10_30) rfl ?_
  intro c57 hc57
  refine Wk.bastore X51 hx hZ e51 V51 (by decide) (by decide) 8 rfl (Nat.le_of_ble_eq_true rfl) (w := (nar .byte c57)) rfl (hb hby d10_31) rfl ?_
  intro T58 h58 L58 M58 X58 e58 W58 A58
  have N58 := M58 _ _ N51 (Or.inl (List.mem_of_getElem? (i := 0) rfl))
  have O59 : Old Z Z.heap.size h58 := O52.wr W58 ht
  have V58 : Arv Z h58 t kb .byte (12 : Int32) [(.int (nar .byte c2)), (.int (nar .byte c8)), (.int (nar .byte c15)), (.int (nar .byte c22)), (.int (nar .byte c29)), (.int (nar .byte c36)), (.int (nar .byte c43)), (.int (nar .byte c50)), (.int (nar .byte c57)), (.int (0 : Int32)), (.int (0 : Int32)), (.int (0 : Int32))] (.int (0 : Int32)) := A58
  refine Wk.iinc X58 hx (Ls' := #[.val (.ref b), .val (.int (9 : Int32)), .val (.ref t), .val (.int (8 : Int32)), .val (.int (12 : Int32)), .val (.int (8 : Int32)), .val (.int cz8)]) (hb hby d10_32) rfl rfl rfl ?_
  refine Wk.iinc X58 hx (Ls' := #[.val (.ref b), .val (.int (9 : Int32)), .val (.ref t), .val (.int (9 : Int32)), .val (.int (12 : Int32)), .val (.int (8 : Int32)), .val (.int cz8)]) (hb hby d10_35) rfl rfl rfl ?_
  refine Wk.iinc X58 hx (Ls' := #[.val (.ref b), .val (.int (9 : Int32)), .val (.ref t), .val (.int (9 : Int32)), .val (.int (12 : Int32)), .val (.int (9 : Int32)), .val (.int cz8)]) (hb hby d10_38) rfl rfl rfl ?_
  refine Wk.goto X58 hx (hb hby d10_41) (by decide) (q := 3) rfl ?_
  have KK60 : Keep h0 h58 [t] := (KK53.wr W58 (Or.inl (List.mem_of_getElem? (i := 0) rfl)))
  refine Wk.iload X58 hx (hb hby d10_3) rfl rfl ?_
  refine Wk.iload X58 hx (hb hby d10_5) rfl rfl ?_
  refine Wk.icmpNo X58 hx (hb hby d10_7) rfl (tlt (by decide : (9 : Int32) < (12 : Int32))).2.1 ?_
  refine Wk.aloadN X58 hx (hb hby d10_10) rfl rfl rfl ?_
  refine Wk.iloadN X58 hx (hb hby d10_11) rfl rfl ?_
  have KK61 : Keep h51 h58 [t] := ((Keep.refl h51 [t]).wr W58 (Or.inl (List.mem_of_getElem? (i := 0) rfl)))
  have f62 := (f55.keep KK61 (ninS hbt nin0))
  refine Wk.caload X58 hx hZ e58 f62 (by decide) (by decide) (v := cz9) rfl (hb hby d10_12) rfl ?_
  refine Wk.istore X58 hx (Ls' := #[.val (.ref b), .val (.int (9 : Int32)), .val (.ref t), .val (.int (9 : Int32)), .val (.int (12 : Int32)), .val (.int (9 : Int32)), .val (.int cz9)]) (hb hby d10_13) rfl rfl ?_
  refine Wk.iload X58 hx (hb hby d10_15) rfl rfl ?_
  refine Wk.sipush X58 hx (v := (255 : Int32)) (hb hby d10_17) rfl rfl ?_
  by_cases hc63 : (255 : Int32) < cz9
  · skip
    refine Wk.icmpNo X58 hx (hb hby d10_20) rfl (tlt hc63).2.2.2 ?_
    refine Wk.iload X58 hx (hb hby d10_23) rfl rfl ?_
    exact Wk.retI' X58 hx hlk hr (hb hby d10_25) (by decide) (by decide) (Qc := Q_rm_cp5_12 Z b kc t kb cz0 cz1 cz2 cz3 cz4 cz5 cz6 cz7 cz8 cz9 cz10 cz11 h0) e58 ⟨(9 : Int32), rfl, N58, KK60, (Or.inr (Or.inr (Or.inr (Or.inr (Or.inr (Or.inr (Or.inr (Or.inr (Or.inr (Or.inl ⟨hc63, rfl⟩))))))))))⟩
  refine Wk.icmpYes X58 hx (hb hby d10_20) (by decide) (q := 26) rfl (flt hc63).2.2.2 ?_
  refine Wk.aloadN X58 hx (hb hby d10_26) rfl rfl rfl ?_
  refine Wk.iloadN X58 hx (hb hby d10_27) rfl rfl ?_
  refine Wk.iload X58 hx (hb hby d10_28) rfl rfl ?_
  refine Wk.i2b X58 hx (hb hby d10_30) rfl ?_
  intro c64 hc64
  refine Wk.bastore X58 hx hZ e58 V58 (by decide) (by decide) 9 rfl (Nat.le_of_ble_eq_true rfl) (w := (nar .byte c64)) rfl (hb hby d10_31) rfl ?_
  intro T65 h65 L65 M65 X65 e65 W65 A65
  have N65 := M65 _ _ N58 (Or.inl (List.mem_of_getElem? (i := 0) rfl))
  have O66 : Old Z Z.heap.size h65 := O59.wr W65 ht
  have V65 : Arv Z h65 t kb .byte (12 : Int32) [(.int (nar .byte c2)), (.int (nar .byte c8)), (.int (nar .byte c15)), (.int (nar .byte c22)), (.int (nar .byte c29)), (.int (nar .byte c36)), (.int (nar .byte c43)), (.int (nar .byte c50)), (.int (nar .byte c57)), (.int (nar .byte c64)), (.int (0 : Int32)), (.int (0 : Int32))] (.int (0 : Int32)) := A65
  refine Wk.iinc X65 hx (Ls' := #[.val (.ref b), .val (.int (10 : Int32)), .val (.ref t), .val (.int (9 : Int32)), .val (.int (12 : Int32)), .val (.int (9 : Int32)), .val (.int cz9)]) (hb hby d10_32) rfl rfl rfl ?_
  refine Wk.iinc X65 hx (Ls' := #[.val (.ref b), .val (.int (10 : Int32)), .val (.ref t), .val (.int (10 : Int32)), .val (.int (12 : Int32)), .val (.int (9 : Int32)), .val (.int cz9)]) (hb hby d10_35) rfl rfl rfl ?_
  refine Wk.iinc X65 hx (Ls' := #[.val (.ref b), .val (.int (10 : Int32)), .val (.ref t), .val (.int (10 : Int32)), .val (.int (12 : Int32)), .val (.int (10 : Int32)), .val (.int cz9)]) (hb hby d10_38) rfl rfl rfl ?_
  refine Wk.goto X65 hx (hb hby d10_41) (by decide) (q := 3) rfl ?_
  have KK67 : Keep h0 h65 [t] := (KK60.wr W65 (Or.inl (List.mem_of_getElem? (i := 0) rfl)))
  refine Wk.iload X65 hx (hb hby d10_3) rfl rfl ?_
  refine Wk.iload X65 hx (hb hby d10_5) rfl rfl ?_
  refine Wk.icmpNo X65 hx (hb hby d10_7) rfl (tlt (by decide : (10 : Int32) < (12 : Int32))).2.1 ?_
  refine Wk.aloadN X65 hx (hb hby d10_10) rfl rfl rfl ?_
  refine Wk.iloadN X65 hx (hb hby d10_11) rfl rfl ?_
  have KK68 : Keep h58 h65 [t] := ((Keep.refl h58 [t]).wr W65 (Or.inl (List.mem_of_getElem? (i := 0) rfl)))
  have f69 := (f62.keep KK68 (ninS hbt nin0))
  refine Wk.caload X65 hx hZ e65 f69 (by decide) (by decide) (v := cz10) rfl (hb hby d10_12) rfl ?_
  refine Wk.istore X65 hx (Ls' := #[.val (.ref b), .val (.int (10 : Int32)), .val (.ref t), .val (.int (10 : Int32)), .val (.int (12 : Int32)), .val (.int (10 : Int32)), .val (.int cz10)]) (hb hby d10_13) rfl rfl ?_
  refine Wk.iload X65 hx (hb hby d10_15) rfl rfl ?_
  refine Wk.sipush X65 hx (v := (255 : Int32)) (hb hby d10_17) rfl rfl ?_
  by_cases hc70 : (255 : Int32) < cz10
  · skip
    refine Wk.icmpNo X65 hx (hb hby d10_20) rfl (tlt hc70).2.2.2 ?_
    refine Wk.iload X65 hx (hb hby d10_23) rfl rfl ?_
    exact Wk.retI' X65 hx hlk hr (hb hby d10_25) (by decide) (by decide) (Qc := Q_rm_cp5_12 Z b kc t kb cz0 cz1 cz2 cz3 cz4 cz5 cz6 cz7 cz8 cz9 cz10 cz11 h0) e65 ⟨(10 : Int32), rfl, N65, KK67, (Or.inr (Or.inr (Or.inr (Or.inr (Or.inr (Or.inr (Or.inr (Or.inr (Or.inr (Or.inr (Or.inl ⟨hc70, rfl⟩)))))))))))⟩
  refine Wk.icmpYes X65 hx (hb hby d10_20) (by decide) (q := 26) rfl (flt hc70).2.2.2 ?_
  refine Wk.aloadN X65 hx (hb hby d10_26) rfl rfl rfl ?_
  refine Wk.iloadN X65 hx (hb hby d10_27) rfl rfl ?_
  refine Wk.iload X65 hx (hb hby d10_28) rfl rfl ?_
  refine Wk.i2b X65 hx (hb hby d10_30) rfl ?_
  intro c71 hc71
  refine Wk.bastore X65 hx hZ e65 V65 (by decide) (by decide) 10 rfl (Nat.le_of_ble_eq_true rfl) (w := (nar .byte c71)) rfl (hb hby d10_31) rfl ?_
  intro T72 h72 L72 M72 X72 e72 W72 A72
  have N72 := M72 _ _ N65 (Or.inl (List.mem_of_getElem? (i := 0) rfl))
  have O73 : Old Z Z.heap.size h72 := O66.wr W72 ht
  have V72 : Arv Z h72 t kb .byte (12 : Int32) [(.int (nar .byte c2)), (.int (nar .byte c8)), (.int (nar .byte c15)), (.int (nar .byte c22)), (.int (nar .byte c29)), (.int (nar .byte c36)), (.int (nar .byte c43)), (.int (nar .byte c50)), (.int (nar .byte c57)), (.int (nar .byte c64)), (.int (nar .byte c71)), (.int (0 : Int32))] (.int (0 : Int32)) := A72
  refine Wk.iinc X72 hx (Ls' := #[.val (.ref b), .val (.int (11 : Int32)), .val (.ref t), .val (.int (10 : Int32)), .val (.int (12 : Int32)), .val (.int (10 : Int32)), .val (.int cz10)]) (hb hby d10_32) rfl rfl rfl ?_
  refine Wk.iinc X72 hx (Ls' := #[.val (.ref b), .val (.int (11 : Int32)), .val (.ref t), .val (.int (11 : Int32)), .val (.int (12 : Int32)), .val (.int (10 : Int32)), .val (.int cz10)]) (hb hby d10_35) rfl rfl rfl ?_
  refine Wk.iinc X72 hx (Ls' := #[.val (.ref b), .val (.int (11 : Int32)), .val (.ref t), .val (.int (11 : Int32)), .val (.int (12 : Int32)), .val (.int (11 : Int32)), .val (.int cz10)]) (hb hby d10_38) rfl rfl rfl ?_
  refine Wk.goto X72 hx (hb hby d10_41) (by decide) (q := 3) rfl ?_
  have KK74 : Keep h0 h72 [t] := (KK67.wr W72 (Or.inl (List.mem_of_getElem? (i := 0) rfl)))
  refine Wk.iload X72 hx (hb hby d10_3) rfl rfl ?_
  refine Wk.iload X72 hx (hb hby d10_5) rfl rfl ?_
  refine Wk.icmpNo X72 hx (hb hby d10_7) rfl (tlt (by decide : (11 : Int32) < (12 : Int32))).2.1 ?_
  refine Wk.aloadN X72 hx (hb hby d10_10) rfl rfl rfl ?_
  refine Wk.iloadN X72 hx (hb hby d10_11) rfl rfl ?_
  have KK75 : Keep h65 h72 [t] := ((Keep.refl h65 [t]).wr W72 (Or.inl (List.mem_of_getElem? (i := 0) rfl)))
  have f76 := (f69.keep KK75 (ninS hbt nin0))
  refine Wk.caload X72 hx hZ e72 f76 (by decide) (by decide) (v := cz11) rfl (hb hby d10_12) rfl ?_
  refine Wk.istore X72 hx (Ls' := #[.val (.ref b), .val (.int (11 : Int32)), .val (.ref t), .val (.int (11 : Int32)), .val (.int (12 : Int32)), .val (.int (11 : Int32)), .val (.int cz11)]) (hb hby d10_13) rfl rfl ?_
  refine Wk.iload X72 hx (hb hby d10_15) rfl rfl ?_
  refine Wk.sipush X72 hx (v := (255 : Int32)) (hb hby d10_17) rfl rfl ?_
  by_cases hc77 : (255 : Int32) < cz11
  · skip
    refine Wk.icmpNo X72 hx (hb hby d10_20) rfl (tlt hc77).2.2.2 ?_
    refine Wk.iload X72 hx (hb hby d10_23) rfl rfl ?_
    exact Wk.retI' X72 hx hlk hr (hb hby d10_25) (by decide) (by decide) (Qc := Q_rm_cp5_12 Z b kc t kb cz0 cz1 cz2 cz3 cz4 cz5 cz6 cz7 cz8 cz9 cz10 cz11 h0) e72 ⟨(11 : Int32), rfl, N72, KK74, (Or.inr (Or.inr (Or.inr (Or.inr (Or.inr (Or.inr (Or.inr (Or.inr (Or.inr (Or.inr (Or.inr (⟨hc77, rfl⟩))))))))))))⟩
  refine Wk.icmpYes X72 hx (hb hby d10_20) (by decide) (q := 26) rfl (flt hc77).2.2.2 ?_
  refine Wk.aloadN X72 hx (hb hby d10_26) rfl rfl rfl ?_
  refine Wk.iloadN X72 hx (hb hby d10_27) rfl rfl ?_
  refine Wk.iload X72 hx (hb hby d10_28) rfl rfl ?_
  refine Wk.i2b X72 hx (hb hby d10_30) rfl ?_
  intro c78 hc78
  refine Wk.bastore X72 hx hZ e72 V72 (by decide) (by decide) 11 rfl (Nat.le_of_ble_eq_true rfl) (w := (nar .byte c78)) rfl (hb hby d10_31) rfl ?_
  intro T79 h79 L79 M79 X79 e79 W79 A79
  have N79 := M79 _ _ N72 (Or.inl (List.mem_of_getElem? (i := 0) rfl))
  have O80 : Old Z Z.heap.size h79 := O73.wr W79 ht
  have V79 : Arv Z h79 t kb .byte (12 : Int32) [(.int (nar .byte c2)), (.int (nar .byte c8)), (.int (nar .byte c15)), (.int (nar .byte c22)), (.int (nar .byte c29)), (.int (nar .byte c36)), (.int (nar .byte c43)), (.int (nar .byte c50)), (.int (nar .byte c57)), (.int (nar .byte c64)), (.int (nar .byte c71)), (.int (nar .byte c78))] (.int (0 : Int32)) := A79
  refine Wk.iinc X79 hx (Ls' := #[.val (.ref b), .val (.int (12 : Int32)), .val (.ref t), .val (.int (11 : Int32)), .val (.int (12 : Int32)), .val (.int (11 : Int32)), .val (.int cz11)]) (hb hby d10_32) rfl rfl rfl ?_
  refine Wk.iinc X79 hx (Ls' := #[.val (.ref b), .val (.int (12 : Int32)), .val (.ref t), .val (.int (12 : Int32)), .val (.int (12 : Int32)), .val (.int (11 : Int32)), .val (.int cz11)]) (hb hby d10_35) rfl rfl rfl ?_
  refine Wk.iinc X79 hx (Ls' := #[.val (.ref b), .val (.int (12 : Int32)), .val (.ref t), .val (.int (12 : Int32)), .val (.int (12 : Int32)), .val (.int (12 : Int32)), .val (.int cz11)]) (hb hby d10_38) rfl rfl rfl ?_
  refine Wk.goto X79 hx (hb hby d10_41) (by decide) (q := 3) rfl ?_
  have KK81 : Keep h0 h79 [t] := (KK74.wr W79 (Or.inl (List.mem_of_getElem? (i := 0) rfl)))
  refine Wk.iload X79 hx (hb hby d10_3) rfl rfl ?_
  refine Wk.iload X79 hx (hb hby d10_5) rfl rfl ?_
  refine Wk.icmpYes X79 hx (hb hby d10_7) (by decide) (q := 44) rfl (flt (by decide : ¬ ((12 : Int32) < (12 : Int32)))).2.1 ?_
  exact False.elim (by rcases hNL with hh | hh | hh | hh | hh | hh | hh | hh | hh | hh | hh | hh <;> contradiction)
theorem d9_0 : decode jdk_52_method_16_code 0 = .ok (.iload_n 2, 1) := by decide +kernel
theorem d9_1 : decode jdk_52_method_16_code 1 = .ok (.newarray .byte, 2) := by decide +kernel
theorem d9_3 : decode jdk_52_method_16_code 3 = .ok (.astore_n 3, 1) := by decide +kernel
theorem d9_4 : decode jdk_52_method_16_code 4 = .ok (.aload_n 0, 1) := by decide +kernel
theorem d9_5 : decode jdk_52_method_16_code 5 = .ok (.iload_n 1, 1) := by decide +kernel
theorem d9_6 : decode jdk_52_method_16_code 6 = .ok (.aload_n 3, 1) := by decide +kernel
theorem d9_7 : decode jdk_52_method_16_code 7 = .ok (.iconst 0, 1) := by decide +kernel
theorem d9_8 : decode jdk_52_method_16_code 8 = .ok (.iload_n 2, 1) := by decide +kernel
theorem d9_9 : decode jdk_52_method_16_code 9 = .ok (.invokestatic 115, 3) := by decide +kernel
theorem pd11 : parseMethodDescriptor "([CI[BII)I" = some ⟨[(.array .char), .int, (.array .byte), .int, .int], some .int⟩ := by decide +kernel
theorem d9_12 : decode jdk_52_method_16_code 12 = .ok (.istore 4, 2) := by decide +kernel
theorem d9_14 : decode jdk_52_method_16_code 14 = .ok (.iload 4, 2) := by decide +kernel
theorem d9_16 : decode jdk_52_method_16_code 16 = .ok (.iload_n 2, 1) := by decide +kernel
theorem d9_17 : decode jdk_52_method_16_code 17 = .ok (.if_icmp .eq 40, 3) := by decide +kernel
theorem d9_20 : decode jdk_52_method_16_code 20 = .ok (.aload_n 0, 1) := by decide +kernel
theorem d9_21 : decode jdk_52_method_16_code 21 = .ok (.iload_n 1, 1) := by decide +kernel
theorem d9_22 : decode jdk_52_method_16_code 22 = .ok (.iload_n 2, 1) := by decide +kernel
theorem d9_23 : decode jdk_52_method_16_code 23 = .ok (.invokestatic 119, 3) := by decide +kernel
theorem pd12 : parseMethodDescriptor "([CII)[B" = some ⟨[(.array .char), .int, .int], some (.array .byte)⟩ := by decide +kernel
theorem d9_26 : decode jdk_52_method_16_code 26 = .ok (.astore 5, 2) := by decide +kernel
theorem d9_28 : decode jdk_52_method_16_code 28 = .ok (.aload 5, 2) := by decide +kernel
theorem d9_30 : decode jdk_52_method_16_code 30 = .ok (.iload 4, 2) := by decide +kernel
theorem d9_32 : decode jdk_52_method_16_code 32 = .ok (.invokestatic 71, 3) := by decide +kernel
theorem d9_35 : decode jdk_52_method_16_code 35 = .ok (.sipush 255, 3) := by decide +kernel
theorem d9_38 : decode jdk_52_method_16_code 38 = .ok (.if_icmp .gt 16, 3) := by decide +kernel
theorem d9_54 : decode jdk_52_method_16_code 54 = .ok (.aload 5, 2) := by decide +kernel
theorem d9_56 : decode jdk_52_method_16_code 56 = .ok (.areturn, 1) := by decide +kernel
def Q_rm_cp3_12 (Z : State) (b : Addr) (kc : ClassId) (cz0 : Int32) (cz1 : Int32) (cz2 : Int32) (cz3 : Int32) (cz4 : Int32) (cz5 : Int32) (cz6 : Int32) (cz7 : Int32) (cz8 : Int32) (cz9 : Int32) (cz10 : Int32) (cz11 : Int32) (h0 : Heap) (v : Option Value) (h : Heap) (L : List Loc) : Prop := ∃ t : Addr, ∃ kb : ClassId, ∃ lb : List Value, v = some (.ref t) ∧ Fk h0.size [] L ∧ Keep h0 h [] ∧ h0.size ≤ t ∧ Arv Z h t kb .byte (24 : Int32) lb (.int (0 : Int32))
set_option maxRecDepth 65536 in
set_option maxHeartbeats 40000000 in
theorem rm_cp3_12 (l : Launch) (Z : State) (a0 : Array Value) (hw : ∀ d ∈ tables_1, d.before a0 Z = true) (ws : List Jvm.Cond) (b : Addr) (kc : ClassId) (cz0 : Int32) (cz1 : Int32) (cz2 : Int32) (cz3 : Int32) (cz4 : Int32) (cz5 : Int32) (cz6 : Int32) (cz7 : Int32) (cz8 : Int32) (cz9 : Int32) (cz10 : Int32) (cz11 : Int32) (h0 : Heap) (O0 : Old Z Z.heap.size h0) (sH : Sta Z Z.heap "java/lang/StringUTF16" "HI_BYTE_SHIFT" "I" (.int (0 : Int32))) (sL : Sta Z Z.heap "java/lang/StringUTF16" "LO_BYTE_SHIFT" "I" (.int (8 : Int32))) (sA : Sta Z Z.heap "java/lang/StringUTF16" "$assertionsDisabled" "Z" (.int (1 : Int32))) (hA : Arv Z h0 b kc .char (12 : Int32) [(.int cz0), (.int cz1), (.int cz2), (.int cz3), (.int cz4), (.int cz5), (.int cz6), (.int cz7), (.int cz8), (.int cz9), (.int cz10), (.int cz11)] (.int (0 : Int32))) (hccz0 : Chr cz0) (hccz1 : Chr cz1) (hccz2 : Chr cz2) (hccz3 : Chr cz3) (hccz4 : Chr cz4) (hccz5 : Chr cz5) (hccz6 : Chr cz6) (hccz7 : Chr cz7) (hccz8 : Chr cz8) (hccz9 : Chr cz9) (hccz10 : Chr cz10) (hccz11 : Chr cz11) (hNL : NL12 cz0 cz1 cz2 cz3 cz4 cz5 cz6 cz7 cz8 cz9 cz10 cz11) :
    Ctr l Z (⟨"java/lang/StringUTF16", "compress", "([CII)[B"⟩ : MethodName) jdk_52_method_16_code 6 (some (.array .byte)) ws ({ frames := 3, cells := 2, slots := 36, locals := 40 } : Room) #[(.ref b), (.int (0 : Int32)), (.int (12 : Int32))] h0 (Q_rm_cp3_12 Z b kc cz0 cz1 cz2 cz3 cz4 cz5 cz6 cz7 cz8 cz9 cz10 cz11 h0) := by
  refine Ctr.intro (Ls := fun _ => #[.val (.ref b), .val (.int (0 : Int32)), .val (.int (12 : Int32)), .unset, .unset, .unset]) (plainFor_of_name pn7) (fun m => by first | rfl | (simp [entryFrame, mkF, argsToLocals, Value.category]; done)) ?_
  intro p e s m below meth c s₁ hx hby hml hr hlk hZ hown hnm hs0 X0 e0
  have w : ∀ (k : Nat) (d : Jvm.Cond), tables_1[k]? = some d → d.before a0 Z = true := fun k d q => hw d (List.mem_of_getElem? q)
  have N0 := Fk.nil h0.size []
  refine Wk.iloadN X0 hx (hb hby d9_0) rfl rfl ?_
  refine Wk.newarray X0 hx hZ (w 3 _ rfl) e0 (hb hby d9_1) rfl (by decide) 12 (by decide) (by decide) (by decide) (by decide) ?_
  intro T1 h1 a1 kA1 g1 X1 e1 E1 A1
  have O2 : Old Z Z.heap.size h1 := O0.ext E1
  have V1 : Arv Z h1 a1 kA1 .byte (12 : Int32) [(.int (0 : Int32)), (.int (0 : Int32)), (.int (0 : Int32)), (.int (0 : Int32)), (.int (0 : Int32)), (.int (0 : Int32)), (.int (0 : Int32)), (.int (0 : Int32)), (.int (0 : Int32)), (.int (0 : Int32)), (.int (0 : Int32)), (.int (0 : Int32))] (.int (0 : Int32)) := A1.pad (pad_rep [] (.int (0 : Int32)) 12)
  refine Wk.astoreN X1 hx (Ls' := #[.val (.ref b), .val (.int (0 : Int32)), .val (.int (12 : Int32)), .val (.ref a1), .unset, .unset]) (hb hby d9_3) rfl rfl rfl ?_
  refine Wk.aloadN X1 hx (hb hby d9_4) rfl rfl rfl ?_
  refine Wk.iloadN X1 hx (hb hby d9_5) rfl rfl ?_
  refine Wk.aloadN X1 hx (hb hby d9_6) rfl rfl rfl ?_
  refine Wk.iconst X1 hx (v := (0 : Int32)) (hb hby d9_7) rfl rfl ?_
  refine Wk.iloadN X1 hx (hb hby d9_8) rfl rfl ?_
  have KK3 : Keep h0 h1 [] := ((Keep.refl h0 []).ext E1)
  have f4 := (hA.keep KK3 nin0)
  refine Wk.callS X1 hx hZ hown (w 51 _ rfl) (w 52 _ rfl) (w 49 _ rfl) (w 53 _ rfl) (by decide) (as' := [(.ref b), (.int (0 : Int32)), (.ref a1), (.int (0 : Int32)), (.int (12 : Int32))]) (backOf (W := 0) (rm_cp5_12 l Z a0 hw [] b kc a1 kA1 cz0 cz1 cz2 cz3 cz4 cz5 cz6 cz7 cz8 cz9 cz10 cz11 h1 O2 f4 V1 (Nat.le_trans (Nat.le_trans (Nat.le_trans (Nat.le_of_eq O0.1.symm) O0.2.1) (Keep.refl h0 []).1) (Nat.le_of_eq g1)) (Nat.ne_of_lt (Nat.lt_of_lt_of_le hA.lt (Nat.le_of_eq g1))) hNL) hZ (w 53 _ rfl) (w 49 _ rfl) (by decide) (by decide)) e1 (by rw [hml]; rfl) (rest := []) (lenOf pd11 rfl) rfl (Nat.le_of_eq rfl) (hb hby d9_9) rfl (by decide) (by decide) ?_
  intro T5 h5 v5 L5 X5 e5 hQ5
  obtain ⟨r5, rfl, Nq5, K5, q5_0⟩ := hQ5
  have N5 := Fk.app N0 Nq5 KK3.1 (allS (Or.inr (Nat.le_of_eq g1)) all0)
  have O6 : Old Z Z.heap.size h5 := O2.keep K5 (allS (Nat.le_trans (Nat.le_trans (Nat.le_trans (Nat.le_of_eq O0.1.symm) O0.2.1) (Keep.refl h0 []).1) (Nat.le_of_eq g1)) all0)
  show Wp p e below _ _ T5 (mkF m 12 #[.val (.ref b), .val (.int (0 : Int32)), .val (.int (12 : Int32)), .val (.ref a1), .unset, .unset] [(.int r5)])
  refine Wk.istore X5 hx (Ls' := #[.val (.ref b), .val (.int (0 : Int32)), .val (.int (12 : Int32)), .val (.ref a1), .val (.int r5), .unset]) (hb hby d9_12) rfl rfl ?_
  refine Wk.iload X5 hx (hb hby d9_14) rfl rfl ?_
  refine Wk.iloadN X5 hx (hb hby d9_16) rfl rfl ?_
  refine Wk.icmpNo X5 hx (hb hby d9_17) rfl (feq (fun hq => by rcases q5_0 with ⟨_, hr⟩ | ⟨_, hr⟩ | ⟨_, hr⟩ | ⟨_, hr⟩ | ⟨_, hr⟩ | ⟨_, hr⟩ | ⟨_, hr⟩ | ⟨_, hr⟩ | ⟨_, hr⟩ | ⟨_, hr⟩ | ⟨_, hr⟩ | ⟨_, hr⟩ <;> (rw [hr] at hq; exact absurd hq (by decide)))).1 ?_
  refine Wk.aloadN X5 hx (hb hby d9_20) rfl rfl rfl ?_
  refine Wk.iloadN X5 hx (hb hby d9_21) rfl rfl ?_
  refine Wk.iloadN X5 hx (hb hby d9_22) rfl rfl ?_
  have KK7 : Keep h0 h5 [] := (KK3.trans K5 (allS (Or.inr (Nat.le_of_eq g1)) all0))
  have f8 := (hA.keep KK7 nin0)
  refine Wk.callS X5 hx hZ hown (w 88 _ rfl) (w 89 _ rfl) (w 49 _ rfl) (w 90 _ rfl) (by decide) (as' := [(.ref b), (.int (0 : Int32)), (.int (12 : Int32))]) (backOf (W := 0) (rm_tob12 l Z a0 hw [] b kc cz0 cz1 cz2 cz3 cz4 cz5 cz6 cz7 cz8 cz9 cz10 cz11 h5 O6 sH sL sA f8) hZ (w 90 _ rfl) (w 49 _ rfl) (by decide) (by decide)) e5 (by rw [hml]; rfl) (rest := []) (lenOf pd12 rfl) rfl (Nat.le_of_eq rfl) (hb hby d9_23) rfl (by decide) (by decide) ?_
  intro T9 h9 v9 L9 X9 e9 hQ9
  obtain ⟨t9, kb9, rfl, Nq9, K9, q9_0, q9_1⟩ := hQ9
  have N9 := Fk.app N5 Nq9 KK7.1 all0
  have O10 : Old Z Z.heap.size h9 := O6.keep K9 all0
  show Wp p e below _ _ T9 (mkF m 26 #[.val (.ref b), .val (.int (0 : Int32)), .val (.int (12 : Int32)), .val (.ref a1), .val (.int r5), .unset] [(.ref t9)])
  refine Wk.astore X9 hx (Ls' := #[.val (.ref b), .val (.int (0 : Int32)), .val (.int (12 : Int32)), .val (.ref a1), .val (.int r5), .val (.ref t9)]) (hb hby d9_26) rfl rfl rfl ?_
  refine Wk.aload X9 hx (hb hby d9_28) rfl rfl rfl ?_
  refine Wk.iload X9 hx (hb hby d9_30) rfl rfl ?_
  obtain ⟨gz, gpl, hg0, hg1, hg2, hg3, hg4, hg5, hg6, hg7, hg8, hg9⟩ : ∃ (gz : Int32) (gpl : Nat), Chr gz ∧ (255 : Int32) < gz ∧ (r5 <<< ((1 : Int32) &&& 31)) < (24 : Int32) ∧ ((r5 <<< ((1 : Int32) &&& 31)) + (1 : Int32)) < (24 : Int32) ∧ ¬ (r5 <<< ((1 : Int32) &&& 31)) < 0 ∧ ¬ ((r5 <<< ((1 : Int32) &&& 31)) + (1 : Int32)) < 0 ∧ (r5 <<< ((1 : Int32) &&& 31)).toNatClampNeg = gpl ∧ ((r5 <<< ((1 : Int32) &&& 31)) + (1 : Int32)).toNatClampNeg = gpl + 1 ∧ ([(.int (own_b0 cz0)), (.int (own_b1 cz0)), (.int (own_b0 cz1)), (.int (own_b1 cz1)), (.int (own_b0 cz2)), (.int (own_b1 cz2)), (.int (own_b0 cz3)), (.int (own_b1 cz3)), (.int (own_b0 cz4)), (.int (own_b1 cz4)), (.int (own_b0 cz5)), (.int (own_b1 cz5)), (.int (own_b0 cz6)), (.int (own_b1 cz6)), (.int (own_b0 cz7)), (.int (own_b1 cz7)), (.int (own_b0 cz8)), (.int (own_b1 cz8)), (.int (own_b0 cz9)), (.int (own_b1 cz9)), (.int (own_b0 cz10)), (.int (own_b1 cz10)), (.int (own_b0 cz11)), (.int (own_b1 cz11))] : List Value).getD gpl (.int (0 : Int32)) = .int (own_b0 gz) ∧ ([(.int (own_b0 cz0)), (.int (own_b1 cz0)), (.int (own_b0 cz1)), (.int (own_b1 cz1)), (.int (own_b0 cz2)), (.int (own_b1 cz2)), (.int (own_b0 cz3)), (.int (own_b1 cz3)), (.int (own_b0 cz4)), (.int (own_b1 cz4)), (.int (own_b0 cz5)), (.int (own_b1 cz5)), (.int (own_b0 cz6)), (.int (own_b1 cz6)), (.int (own_b0 cz7)), (.int (own_b1 cz7)), (.int (own_b0 cz8)), (.int (own_b1 cz8)), (.int (own_b0 cz9)), (.int (own_b1 cz9)), (.int (own_b0 cz10)), (.int (own_b1 cz10)), (.int (own_b0 cz11)), (.int (own_b1 cz11))] : List Value).getD (gpl + 1) (.int (0 : Int32)) = .int (own_b1 gz) := by
    rcases q5_0 with ⟨hg, rfl⟩ | ⟨hg, rfl⟩ | ⟨hg, rfl⟩ | ⟨hg, rfl⟩ | ⟨hg, rfl⟩ | ⟨hg, rfl⟩ | ⟨hg, rfl⟩ | ⟨hg, rfl⟩ | ⟨hg, rfl⟩ | ⟨hg, rfl⟩ | ⟨hg, rfl⟩ | ⟨hg, rfl⟩
    · exact ⟨cz0, 0, hccz0, hg, by decide, by decide, by decide, by decide, by decide, by decide, rfl, rfl⟩
    · exact ⟨cz1, 2, hccz1, hg, by decide, by decide, by decide, by decide, by decide, by decide, rfl, rfl⟩
    · exact ⟨cz2, 4, hccz2, hg, by decide, by decide, by decide, by decide, by decide, by decide, rfl, rfl⟩
    · exact ⟨cz3, 6, hccz3, hg, by decide, by decide, by decide, by decide, by decide, by decide, rfl, rfl⟩
    · exact ⟨cz4, 8, hccz4, hg, by decide, by decide, by decide, by decide, by decide, by decide, rfl, rfl⟩
    · exact ⟨cz5, 10, hccz5, hg, by decide, by decide, by decide, by decide, by decide, by decide, rfl, rfl⟩
    · exact ⟨cz6, 12, hccz6, hg, by decide, by decide, by decide, by decide, by decide, by decide, rfl, rfl⟩
    · exact ⟨cz7, 14, hccz7, hg, by decide, by decide, by decide, by decide, by decide, by decide, rfl, rfl⟩
    · exact ⟨cz8, 16, hccz8, hg, by decide, by decide, by decide, by decide, by decide, by decide, rfl, rfl⟩
    · exact ⟨cz9, 18, hccz9, hg, by decide, by decide, by decide, by decide, by decide, by decide, rfl, rfl⟩
    · exact ⟨cz10, 20, hccz10, hg, by decide, by decide, by decide, by decide, by decide, by decide, rfl, rfl⟩
    · exact ⟨cz11, 22, hccz11, hg, by decide, by decide, by decide, by decide, by decide, by decide, rfl, rfl⟩
  refine Wk.callS X9 hx hZ hown (w 104 _ rfl) (w 105 _ rfl) (w 49 _ rfl) (w 106 _ rfl) (by decide) (as' := [(.ref t9), (.int r5)]) (backOf (W := 0) (rm_get l Z a0 hw [] t9 r5 gz kb9 (24 : Int32) _ gpl h9 O10 sH sL sA q9_1 (by first | assumption | rfl | decide | exact Nat.le_of_ble_eq_true rfl) (by first | assumption | rfl | decide | exact Nat.le_of_ble_eq_true rfl) (by first | assumption | rfl | decide | exact Nat.le_of_ble_eq_true rfl) (by first | assumption | rfl | decide | exact Nat.le_of_ble_eq_true rfl) (by first | assumption | rfl | decide | exact Nat.le_of_ble_eq_true rfl) (by first | assumption | rfl | decide | exact Nat.le_of_ble_eq_true rfl) (by first | assumption | rfl | decide | exact Nat.le_of_ble_eq_true rfl) (by first | assumption | rfl | decide | exact Nat.le_of_ble_eq_true rfl) hg0) hZ (w 106 _ rfl) (w 49 _ rfl) (by decide) (by decide)) e9 (by rw [hml]; rfl) (rest := []) (lenOf pd6 rfl) rfl (Nat.le_of_eq rfl) (hb hby d9_32) rfl (by decide) (by decide) ?_
  intro T11 h11 v11 L11 X11 e11 hQ11
  obtain ⟨rfl, Nq11, K11⟩ := hQ11
  have KK12 : Keep h0 h9 [] := (KK7.trans K9 all0)
  have N11 := Fk.app N9 Nq11 KK12.1 all0
  rw [K11] at e11
  show Wp p e below _ _ T11 (mkF m 35 #[.val (.ref b), .val (.int (0 : Int32)), .val (.int (12 : Int32)), .val (.ref a1), .val (.int r5), .val (.ref t9)] [(.int gz)])
  refine Wk.sipush X11 hx (v := (255 : Int32)) (hb hby d9_35) rfl rfl ?_
  refine Wk.icmpYes X11 hx (hb hby d9_38) (by decide) (q := 54) rfl (tlt hg1).2.2.1 ?_
  refine Wk.aload X11 hx (hb hby d9_54) rfl rfl rfl ?_
  exact Wk.retA' X11 hx hlk hr rfl rfl (hb hby d9_56) (by decide) (by decide) (Qc := Q_rm_cp3_12 Z b kc cz0 cz1 cz2 cz3 cz4 cz5 cz6 cz7 cz8 cz9 cz10 cz11 h0) e11 ⟨t9, kb9, [(.int (own_b0 cz0)), (.int (own_b1 cz0)), (.int (own_b0 cz1)), (.int (own_b1 cz1)), (.int (own_b0 cz2)), (.int (own_b1 cz2)), (.int (own_b0 cz3)), (.int (own_b1 cz3)), (.int (own_b0 cz4)), (.int (own_b1 cz4)), (.int (own_b0 cz5)), (.int (own_b1 cz5)), (.int (own_b0 cz6)), (.int (own_b1 cz6)), (.int (own_b0 cz7)), (.int (own_b1 cz7)), (.int (own_b0 cz8)), (.int (own_b1 cz8)), (.int (own_b0 cz9)), (.int (own_b1 cz9)), (.int (own_b0 cz10)), (.int (own_b1 cz10)), (.int (own_b0 cz11)), (.int (own_b1 cz11))], rfl, N11, KK12, (Nat.le_trans KK7.1 q9_0), q9_1⟩
theorem d7_0 : decode jdk_42_method_149_code 0 = .ok (.aload_n 0, 1) := by decide +kernel
theorem d7_1 : decode jdk_42_method_149_code 1 = .ok (.invokespecial 1, 3) := by decide +kernel
theorem d7_4 : decode jdk_42_method_149_code 4 = .ok (.iload_n 3, 1) := by decide +kernel
theorem d7_5 : decode jdk_42_method_149_code 5 = .ok (.ifCond .ne 22, 3) := by decide +kernel
theorem d7_27 : decode jdk_42_method_149_code 27 = .ok (.getstatic 38, 3) := by decide +kernel
theorem d7_30 : decode jdk_42_method_149_code 30 = .ok (.ifCond .eq 28, 3) := by decide +kernel
theorem d7_33 : decode jdk_42_method_149_code 33 = .ok (.aload_n 1, 1) := by decide +kernel
theorem d7_34 : decode jdk_42_method_149_code 34 = .ok (.iload_n 2, 1) := by decide +kernel
theorem d7_35 : decode jdk_42_method_149_code 35 = .ok (.iload_n 3, 1) := by decide +kernel
theorem d7_36 : decode jdk_42_method_149_code 36 = .ok (.invokestatic 177, 3) := by decide +kernel
theorem d7_39 : decode jdk_42_method_149_code 39 = .ok (.astore 5, 2) := by decide +kernel
theorem d7_41 : decode jdk_42_method_149_code 41 = .ok (.aload_n 0, 1) := by decide +kernel
theorem d7_42 : decode jdk_42_method_149_code 42 = .ok (.aload 5, 2) := by decide +kernel
theorem d7_44 : decode jdk_42_method_149_code 44 = .ok (.iload_n 3, 1) := by decide +kernel
theorem d7_45 : decode jdk_42_method_149_code 45 = .ok (.invokestatic 47, 3) := by decide +kernel
theorem pd13 : parseMethodDescriptor "([BI)B" = some ⟨[(.array .byte), .int], some .byte⟩ := by decide +kernel
theorem d7_48 : decode jdk_42_method_149_code 48 = .ok (.putfield 15, 3) := by decide +kernel
theorem d7_51 : decode jdk_42_method_149_code 51 = .ok (.aload_n 0, 1) := by decide +kernel
theorem d7_52 : decode jdk_42_method_149_code 52 = .ok (.aload 5, 2) := by decide +kernel
theorem d7_54 : decode jdk_42_method_149_code 54 = .ok (.putfield 9, 3) := by decide +kernel
theorem d7_57 : decode jdk_42_method_149_code 57 = .ok (.return_, 1) := by decide +kernel
def Q_rm_iv_12 (Z : State) (x : Addr) (b : Addr) (kc : ClassId) (G1 : Int32) (cz0 : Int32) (cz1 : Int32) (cz2 : Int32) (cz3 : Int32) (cz4 : Int32) (cz5 : Int32) (cz6 : Int32) (cz7 : Int32) (cz8 : Int32) (cz9 : Int32) (cz10 : Int32) (cz11 : Int32) (h0 : Heap) (v : Option Value) (h : Heap) (L : List Loc) : Prop := v = none ∧ Fk h0.size [x] L ∧ Keep h0 h [x] ∧ Exa Z h x "java/lang/String" ∧ Fld Z h x "java/lang/String" "coder" "B" (.int (1 : Int32))
set_option maxRecDepth 65536 in
set_option maxHeartbeats 40000000 in
theorem rm_iv_12 (l : Launch) (Z : State) (a0 : Array Value) (hw : ∀ d ∈ tables_1, d.before a0 Z = true) (ws : List Jvm.Cond) (x : Addr) (b : Addr) (kc : ClassId) (G1 : Int32) (cz0 : Int32) (cz1 : Int32) (cz2 : Int32) (cz3 : Int32) (cz4 : Int32) (cz5 : Int32) (cz6 : Int32) (cz7 : Int32) (cz8 : Int32) (cz9 : Int32) (cz10 : Int32) (cz11 : Int32) (h0 : Heap) (O0 : Old Z Z.heap.size h0) (sH : Sta Z Z.heap "java/lang/StringUTF16" "HI_BYTE_SHIFT" "I" (.int (0 : Int32))) (sL : Sta Z Z.heap "java/lang/StringUTF16" "LO_BYTE_SHIFT" "I" (.int (8 : Int32))) (sA : Sta Z Z.heap "java/lang/StringUTF16" "$assertionsDisabled" "Z" (.int (1 : Int32))) (SG1 : Sta Z Z.heap "java/lang/String" "COMPACT_STRINGS" "Z" (.int G1)) (nG1 : ¬ G1 = 0) (hE : Exa Z h0 x "java/lang/String") (hV : Fld Z h0 x "java/lang/String" "value" "[B" .null) (hC : Fld Z h0 x "java/lang/String" "coder" "B" (.int (0 : Int32))) (hxz : Z.heap.size ≤ x) (hA : Arv Z h0 b kc .char (12 : Int32) [(.int cz0), (.int cz1), (.int cz2), (.int cz3), (.int cz4), (.int cz5), (.int cz6), (.int cz7), (.int cz8), (.int cz9), (.int cz10), (.int cz11)] (.int (0 : Int32))) (hccz0 : Chr cz0) (hccz1 : Chr cz1) (hccz2 : Chr cz2) (hccz3 : Chr cz3) (hccz4 : Chr cz4) (hccz5 : Chr cz5) (hccz6 : Chr cz6) (hccz7 : Chr cz7) (hccz8 : Chr cz8) (hccz9 : Chr cz9) (hccz10 : Chr cz10) (hccz11 : Chr cz11) (hNL : NL12 cz0 cz1 cz2 cz3 cz4 cz5 cz6 cz7 cz8 cz9 cz10 cz11) :
    Ctr l Z (⟨"java/lang/String", "<init>", "([CIILjava/lang/Void;)V"⟩ : MethodName) jdk_42_method_149_code 6 none ws ({ frames := 4, cells := 2, slots := 36, locals := 57 } : Room) #[(.ref x), (.ref b), (.int (0 : Int32)), (.int (12 : Int32)), .null] h0 (Q_rm_iv_12 Z x b kc G1 cz0 cz1 cz2 cz3 cz4 cz5 cz6 cz7 cz8 cz9 cz10 cz11 h0) := by
  refine Ctr.intro (Ls := fun _ => #[.val (.ref x), .val (.ref b), .val (.int (0 : Int32)), .val (.int (12 : Int32)), .val .null, .unset]) (plainFor_of_name pn0) (fun m => by first | rfl | (simp [entryFrame, mkF, argsToLocals, Value.category]; done)) ?_
  intro p e s m below meth c s₁ hx hby hml hr hlk hZ hown hnm hs0 X0 e0
  have w : ∀ (k : Nat) (d : Jvm.Cond), tables_1[k]? = some d → d.before a0 Z = true := fun k d q => hw d (List.mem_of_getElem? q)
  have N0 := Fk.nil h0.size [x]
  refine Wk.aloadN X0 hx (hb hby d7_0) rfl rfl rfl ?_
  refine Wk.objinit X0 hx hZ hown (w 44 _ rfl) (w 45 _ rfl) (w 46 _ rfl) e0 (by rw [hml]; rfl) (hb hby d7_1) rfl (by decide) 0 (Nat.le_of_eq rfl) (by decide) ?_
  intro T1 X1 e1
  refine Wk.iloadN X1 hx (hb hby d7_4) rfl rfl ?_
  refine Wk.ifYes X1 hx (hb hby d7_5) (by decide) (q := 27) rfl ((if0 _ _).trans (feq (by decide : ¬ ((12 : Int32) = (0 : Int32)))).2) ?_
  refine Wk.getstatic X1 hx hZ hown (host := "") (Or.inl (w 21 _ rfl)) Via.refl e1 (SG1.ext O0.2) (hb hby d7_27) rfl ?_
  intro T2 X2 e2
  refine Wk.ifNo X2 hx (hb hby d7_30) rfl ((if0 _ _).trans (feq nG1).1) ?_
  refine Wk.aloadN X2 hx (hb hby d7_33) rfl rfl rfl ?_
  refine Wk.iloadN X2 hx (hb hby d7_34) rfl rfl ?_
  refine Wk.iloadN X2 hx (hb hby d7_35) rfl rfl ?_
  refine Wk.callS X2 hx hZ hown (w 47 _ rfl) (w 48 _ rfl) (w 49 _ rfl) (w 50 _ rfl) (by decide) (as' := [(.ref b), (.int (0 : Int32)), (.int (12 : Int32))]) (backOf (W := 0) (rm_cp3_12 l Z a0 hw [] b kc cz0 cz1 cz2 cz3 cz4 cz5 cz6 cz7 cz8 cz9 cz10 cz11 h0 O0 sH sL sA hA hccz0 hccz1 hccz2 hccz3 hccz4 hccz5 hccz6 hccz7 hccz8 hccz9 hccz10 hccz11 hNL) hZ (w 50 _ rfl) (w 49 _ rfl) (by decide) (by decide)) e2 (by rw [hml]; rfl) (rest := []) (lenOf pd12 rfl) rfl (Nat.le_of_eq rfl) (hb hby d7_36) rfl (by decide) (by decide) ?_
  intro T3 h3 v3 L3 X3 e3 hQ3
  obtain ⟨t3, kb3, lb3, rfl, Nq3, K3, q3_0, q3_1⟩ := hQ3
  have N3 := Fk.app N0 Nq3 (Nat.le_refl _) all0
  have O4 : Old Z Z.heap.size h3 := O0.keep K3 all0
  show Wp p e below _ _ T3 (mkF m 39 #[.val (.ref x), .val (.ref b), .val (.int (0 : Int32)), .val (.int (12 : Int32)), .val .null, .unset] [(.ref t3)])
  refine Wk.astore X3 hx (Ls' := #[.val (.ref x), .val (.ref b), .val (.int (0 : Int32)), .val (.int (12 : Int32)), .val .null, .val (.ref t3)]) (hb hby d7_39) rfl rfl rfl ?_
  refine Wk.aloadN X3 hx (hb hby d7_41) rfl rfl rfl ?_
  refine Wk.aload X3 hx (hb hby d7_42) rfl rfl rfl ?_
  refine Wk.iloadN X3 hx (hb hby d7_44) rfl rfl ?_
  refine Wk.callS X3 hx hZ hown (w 54 _ rfl) (w 55 _ rfl) (w 49 _ rfl) (w 56 _ rfl) (by decide) (as' := [(.ref t3), (.int (12 : Int32))]) (backOf (W := 1) (rm_cfa12 l Z a0 hw [] t3 kb3 lb3 h3 O4 q3_1) hZ (w 56 _ rfl) (w 49 _ rfl) (by decide) (by decide)) e3 (by rw [hml]; rfl) (rest := [(.ref x)]) (lenOf pd13 rfl) rfl (Nat.le_of_eq rfl) (hb hby d7_45) rfl (by decide) (by decide) ?_
  intro T5 h5 v5 L5 X5 e5 hQ5
  obtain ⟨rfl, Nq5, K5⟩ := hQ5
  have KK6 : Keep h0 h3 [] := ((Keep.refl h0 []).trans K3 all0)
  have N5 := Fk.app N3 Nq5 KK6.1 all0
  rw [K5] at e5
  show Wp p e below _ _ T5 (mkF m 48 #[.val (.ref x), .val (.ref b), .val (.int (0 : Int32)), .val (.int (12 : Int32)), .val .null, .val (.ref t3)] [(.int (1 : Int32)), (.ref x)])
  have f7 : Exa Z h3 x "java/lang/String" := (hE.keep KK6)
  have f8 : Fld Z h3 x "java/lang/String" "coder" "B" (.int (0 : Int32)) := (hC.keep KK6 nin0)
  have f10 : Fld Z h3 x "java/lang/String" "value" "[B" .null := (hV.keep KK6 nin0)
  refine Wk.putfieldN X5 hx hZ hown (w 22 _ rfl) Via.refl e5 (v' := (.int (1 : Int32))) f8 f7 (Or.inr ⟨(w 5 _ rfl), rfl, hnm⟩) (w 2 _ rfl) (ty := .byte) (by decide) rfl rfl (hb hby d7_48) rfl ?_
  intro T9 h9 L9 M9 X9 e9 W9 Fw9
  have N9 := M9 _ _ N5 (Or.inl (List.mem_of_getElem? (i := 0) rfl))
  have O11 : Old Z Z.heap.size h9 := O4.wr W9 hxz
  have f12 : Fld Z h9 x "java/lang/String" "value" "[B" .null := f10.other W9 (Or.inr (slot_ne (Or.inr (w 4 _ rfl)) (Or.inr (w 5 _ rfl)) (by decide) (t := (.array .byte)) (t' := .byte) (by decide) (by decide)))
  have E9' : Exa Z h9 x "java/lang/String" := f7.wr W9
  refine Wk.aloadN X9 hx (hb hby d7_51) rfl rfl rfl ?_
  refine Wk.aload X9 hx (hb hby d7_52) rfl rfl rfl ?_
  refine Wk.putfield X9 hx hZ hown (host := "") (Or.inl (w 23 _ rfl)) Via.refl e9 f12 E9' (Or.inr ⟨(w 4 _ rfl), rfl, hnm⟩) (w 2 _ rfl) (ty := (.array .byte)) (by decide) rfl rfl (hb hby d7_54) rfl ?_
  intro T13 h13 L13 M13 X13 e13 W13 Fw13
  have N13 := M13 _ _ N9 (Or.inl (List.mem_of_getElem? (i := 0) rfl))
  have O14 : Old Z Z.heap.size h13 := O11.wr W13 hxz
  have f15 : Fld Z h13 x "java/lang/String" "coder" "B" (.int (1 : Int32)) := Fw9.other W13 (Or.inr (slot_ne (Or.inr (w 5 _ rfl)) (Or.inr (w 4 _ rfl)) (by decide) (t := .byte) (t' := (.array .byte)) (by decide) (by decide)))
  have E13' : Exa Z h13 x "java/lang/String" := E9'.wr W13
  have KK16 : Keep h0 h13 [x] := ((((Keep.refl h0 [x]).trans K3 all0).wr W9 (Or.inl (List.mem_of_getElem? (i := 0) rfl))).wr W13 (Or.inl (List.mem_of_getElem? (i := 0) rfl)))
  exact Wk.ret0' X13 hx hlk hr (hb hby d7_57) (by decide) (by decide) (Qc := Q_rm_iv_12 Z x b kc G1 cz0 cz1 cz2 cz3 cz4 cz5 cz6 cz7 cz8 cz9 cz10 cz11 h0) e13 ⟨rfl, N13, KK16, E13', f15⟩
theorem d6_0 : decode jdk_42_method_3_code 0 = .ok (.aload_n 0, 1) := by decide +kernel
theorem d6_1 : decode jdk_42_method_3_code 1 = .ok (.aload_n 1, 1) := by decide +kernel
theorem d6_2 : decode jdk_42_method_3_code 2 = .ok (.iconst 0, 1) := by decide +kernel
theorem d6_3 : decode jdk_42_method_3_code 3 = .ok (.aload_n 1, 1) := by decide +kernel
theorem d6_4 : decode jdk_42_method_3_code 4 = .ok (.arraylength, 1) := by decide +kernel
theorem d6_5 : decode jdk_42_method_3_code 5 = .ok (.aconst_null, 1) := by decide +kernel
theorem d6_6 : decode jdk_42_method_3_code 6 = .ok (.invokespecial 27, 3) := by decide +kernel
theorem pd14 : parseMethodDescriptor "([CIILjava/lang/Void;)V" = some ⟨[(.array .char), .int, .int, (.object "java/lang/Void")], none⟩ := by decide +kernel
theorem d6_9 : decode jdk_42_method_3_code 9 = .ok (.return_, 1) := by decide +kernel
def Q_rm_ic_12 (Z : State) (x : Addr) (b : Addr) (kc : ClassId) (G1 : Int32) (cz0 : Int32) (cz1 : Int32) (cz2 : Int32) (cz3 : Int32) (cz4 : Int32) (cz5 : Int32) (cz6 : Int32) (cz7 : Int32) (cz8 : Int32) (cz9 : Int32) (cz10 : Int32) (cz11 : Int32) (h0 : Heap) (v : Option Value) (h : Heap) (L : List Loc) : Prop := v = none ∧ Fk h0.size [x] L ∧ Keep h0 h [x] ∧ Exa Z h x "java/lang/String" ∧ Fld Z h x "java/lang/String" "coder" "B" (.int (1 : Int32))
set_option maxRecDepth 65536 in
set_option maxHeartbeats 40000000 in
theorem rm_ic_12 (l : Launch) (Z : State) (a0 : Array Value) (hw : ∀ d ∈ tables_1, d.before a0 Z = true) (ws : List Jvm.Cond) (x : Addr) (b : Addr) (kc : ClassId) (G1 : Int32) (cz0 : Int32) (cz1 : Int32) (cz2 : Int32) (cz3 : Int32) (cz4 : Int32) (cz5 : Int32) (cz6 : Int32) (cz7 : Int32) (cz8 : Int32) (cz9 : Int32) (cz10 : Int32) (cz11 : Int32) (h0 : Heap) (O0 : Old Z Z.heap.size h0) (sH : Sta Z Z.heap "java/lang/StringUTF16" "HI_BYTE_SHIFT" "I" (.int (0 : Int32))) (sL : Sta Z Z.heap "java/lang/StringUTF16" "LO_BYTE_SHIFT" "I" (.int (8 : Int32))) (sA : Sta Z Z.heap "java/lang/StringUTF16" "$assertionsDisabled" "Z" (.int (1 : Int32))) (SG1 : Sta Z Z.heap "java/lang/String" "COMPACT_STRINGS" "Z" (.int G1)) (nG1 : ¬ G1 = 0) (hE : Exa Z h0 x "java/lang/String") (hV : Fld Z h0 x "java/lang/String" "value" "[B" .null) (hC : Fld Z h0 x "java/lang/String" "coder" "B" (.int (0 : Int32))) (hxz : Z.heap.size ≤ x) (hA : Arv Z h0 b kc .char (12 : Int32) [(.int cz0), (.int cz1), (.int cz2), (.int cz3), (.int cz4), (.int cz5), (.int cz6), (.int cz7), (.int cz8), (.int cz9), (.int cz10), (.int cz11)] (.int (0 : Int32))) (hccz0 : Chr cz0) (hccz1 : Chr cz1) (hccz2 : Chr cz2) (hccz3 : Chr cz3) (hccz4 : Chr cz4) (hccz5 : Chr cz5) (hccz6 : Chr cz6) (hccz7 : Chr cz7) (hccz8 : Chr cz8) (hccz9 : Chr cz9) (hccz10 : Chr cz10) (hccz11 : Chr cz11) (hNL : NL12 cz0 cz1 cz2 cz3 cz4 cz5 cz6 cz7 cz8 cz9 cz10 cz11) :
    Ctr l Z (⟨"java/lang/String", "<init>", "([C)V"⟩ : MethodName) jdk_42_method_3_code 2 none ws ({ frames := 5, cells := 2, slots := 36, locals := 74 } : Room) #[(.ref x), (.ref b)] h0 (Q_rm_ic_12 Z x b kc G1 cz0 cz1 cz2 cz3 cz4 cz5 cz6 cz7 cz8 cz9 cz10 cz11 h0) := by
  refine Ctr.intro (Ls := fun _ => #[.val (.ref x), .val (.ref b)]) (plainFor_of_name pn0) (fun m => by first | rfl | (simp [entryFrame, mkF, argsToLocals, Value.category]; done)) ?_
  intro p e s m below meth c s₁ hx hby hml hr hlk hZ hown hnm hs0 X0 e0
  have w : ∀ (k : Nat) (d : Jvm.Cond), tables_1[k]? = some d → d.before a0 Z = true := fun k d q => hw d (List.mem_of_getElem? q)
  have N0 := Fk.nil h0.size [x]
  refine Wk.aloadN X0 hx (hb hby d6_0) rfl rfl rfl ?_
  refine Wk.aloadN X0 hx (hb hby d6_1) rfl rfl rfl ?_
  refine Wk.iconst X0 hx (v := (0 : Int32)) (hb hby d6_2) rfl rfl ?_
  refine Wk.aloadN X0 hx (hb hby d6_3) rfl rfl rfl ?_
  refine Wk.arraylength X0 hx hZ e0 hA (hb hby d6_4) rfl ?_
  refine Wk.aconstNull X0 hx (hb hby d6_5) rfl ?_
  refine Wk.callI X0 hx hZ rfl hown (w 40 _ rfl) (w 41 _ rfl) (w 43 _ rfl) (by decide) (as' := [(.ref b), (.int (0 : Int32)), (.int (12 : Int32)), .null]) (backOf (W := 0) (rm_iv_12 l Z a0 hw [] x b kc G1 cz0 cz1 cz2 cz3 cz4 cz5 cz6 cz7 cz8 cz9 cz10 cz11 h0 O0 sH sL sA SG1 nG1 hE hV hC hxz hA hccz0 hccz1 hccz2 hccz3 hccz4 hccz5 hccz6 hccz7 hccz8 hccz9 hccz10 hccz11 hNL) hZ (w 43 _ rfl) (w 1 _ rfl) (by decide) (by decide)) e0 (by rw [hml]; rfl) (rest := []) (lenOf pd14 rfl) rfl (Nat.le_of_eq rfl) (hb hby d6_6) rfl (by decide) (by decide) ?_
  intro T1 h1 v1 L1 X1 e1 hQ1
  obtain ⟨rfl, Nq1, K1, q1_0, q1_1⟩ := hQ1
  have N1 := Fk.app N0 Nq1 (Nat.le_refl _) (allS (Or.inl (List.mem_of_getElem? (i := 0) rfl)) all0)
  have O2 : Old Z Z.heap.size h1 := O0.keep K1 (allS hxz all0)
  show Wp p e below _ _ T1 (mkF m 9 #[.val (.ref x), .val (.ref b)] [])
  have KK3 : Keep h0 h1 [x] := ((Keep.refl h0 [x]).trans K1 (allS (Or.inl (List.mem_of_getElem? (i := 0) rfl)) all0))
  exact Wk.ret0' X1 hx hlk hr (hb hby d6_9) (by decide) (by decide) (Qc := Q_rm_ic_12 Z x b kc G1 cz0 cz1 cz2 cz3 cz4 cz5 cz6 cz7 cz8 cz9 cz10 cz11 h0) e1 ⟨rfl, N1, KK3, q1_0, q1_1⟩
def Q_rm_nbl13 (Z : State) (h0 : Heap) (v : Option Value) (h : Heap) (L : List Loc) : Prop := v = some (.int (26 : Int32)) ∧ Fk h0.size [] L ∧ h = h0
set_option maxRecDepth 65536 in
set_option maxHeartbeats 40000000 in
theorem rm_nbl13 (l : Launch) (Z : State) (a0 : Array Value) (hw : ∀ d ∈ tables_1, d.before a0 Z = true) (ws : List Jvm.Cond) (h0 : Heap) (O0 : Old Z Z.heap.size h0) :
    Ctr l Z (⟨"java/lang/StringUTF16", "newBytesLength", "(I)I"⟩ : MethodName) jdk_52_method_3_code 1 (some .int) ws ({ frames := 0, cells := 0, slots := 0, locals := 0 } : Room) #[(.int (13 : Int32))] h0 (Q_rm_nbl13 Z h0) := by
  refine Ctr.intro (Ls := fun _ => #[.val (.int (13 : Int32))]) (plainFor_of_name pn7) (fun m => by first | rfl | (simp [entryFrame, mkF, argsToLocals, Value.category]; done)) ?_
  intro p e s m below meth c s₁ hx hby hml hr hlk hZ hown hnm hs0 X0 e0
  have w : ∀ (k : Nat) (d : Jvm.Cond), tables_1[k]? = some d → d.before a0 Z = true := fun k d q => hw d (List.mem_of_getElem? q)
  have N0 := Fk.nil h0.size []
  refine Wk.iloadN X0 hx (hb hby d18_0) rfl rfl ?_
  refine Wk.ifYes X0 hx (hb hby d18_1) (by decide) (q := 12) rfl ((if0 _ _).trans (flt (by decide : ¬ ((13 : Int32) < (0 : Int32)))).2.1) ?_
  refine Wk.iloadN X0 hx (hb hby d18_12) rfl rfl ?_
  refine Wk.ldcInt X0 hx hZ hown (w 97 _ rfl) (hb hby d18_13) rfl ?_
  refine Wk.icmpYes X0 hx (hb hby d18_15) (by decide) (q := 55) rfl (tlt (by decide : (13 : Int32) < (1073741823 : Int32))).1 ?_
  refine Wk.iloadN X0 hx (hb hby d18_55) rfl rfl ?_
  refine Wk.iconst X0 hx (v := (1 : Int32)) (hb hby d18_56) rfl rfl ?_
  refine Wk.ishl X0 hx (hb hby d18_57) rfl ?_
  rw [(by decide : (((13 : Int32) <<< ((1 : Int32) &&& 31)) : Int32) = (26 : Int32))]
  exact Wk.retI' X0 hx hlk hr (hb hby d18_58) (by decide) (by decide) (Qc := Q_rm_nbl13 Z h0) e0 ⟨rfl, N0, rfl⟩
def Q_rm_nbf13 (Z : State) (h0 : Heap) (v : Option Value) (h : Heap) (L : List Loc) : Prop := ∃ t : Addr, ∃ kb : ClassId, v = some (.ref t) ∧ Fk h0.size [] L ∧ Keep h0 h [] ∧ h0.size ≤ t ∧ Arv Z h t kb .byte (26 : Int32) [(.int (0 : Int32)), (.int (0 : Int32)), (.int (0 : Int32)), (.int (0 : Int32)), (.int (0 : Int32)), (.int (0 : Int32)), (.int (0 : Int32)), (.int (0 : Int32)), (.int (0 : Int32)), (.int (0 : Int32)), (.int (0 : Int32)), (.int (0 : Int32)), (.int (0 : Int32)), (.int (0 : Int32)), (.int (0 : Int32)), (.int (0 : Int32)), (.int (0 : Int32)), (.int (0 : Int32)), (.int (0 : Int32)), (.int (0 : Int32)), (.int (0 : Int32)), (.int (0 : Int32)), (.int (0 : Int32)), (.int (0 : Int32)), (.int (0 : Int32)), (.int (0 : Int32))] (.int (0 : Int32))
set_option maxRecDepth 65536 in
set_option maxHeartbeats 40000000 in
theorem rm_nbf13 (l : Launch) (Z : State) (a0 : Array Value) (hw : ∀ d ∈ tables_1, d.before a0 Z = true) (ws : List Jvm.Cond) (h0 : Heap) (O0 : Old Z Z.heap.size h0) :
    Ctr l Z (⟨"java/lang/StringUTF16", "newBytesFor", "(I)[B"⟩ : MethodName) jdk_52_method_2_code 1 (some (.array .byte)) ws ({ frames := 1, cells := 1, slots := 26, locals := 12 } : Room) #[(.int (13 : Int32))] h0 (Q_rm_nbf13 Z h0) := by
  refine Ctr.intro (Ls := fun _ => #[.val (.int (13 : Int32))]) (plainFor_of_name pn7) (fun m => by first | rfl | (simp [entryFrame, mkF, argsToLocals, Value.category]; done)) ?_
  intro p e s m below meth c s₁ hx hby hml hr hlk hZ hown hnm hs0 X0 e0
  have w : ∀ (k : Nat) (d : Jvm.Cond), tables_1[k]? = some d → d.before a0 Z = true := fun k d q => hw d (List.mem_of_getElem? q)
  have N0 := Fk.nil h0.size []
  refine Wk.iloadN X0 hx (hb hby d17_0) rfl rfl ?_
  refine Wk.callS X0 hx hZ hown (w 94 _ rfl) (w 95 _ rfl) (w 49 _ rfl) (w 96 _ rfl) (by decide) (as' := [(.int (13 : Int32))]) (backOf (W := 0) (rm_nbl13 l Z a0 hw [] h0 O0) hZ (w 96 _ rfl) (w 49 _ rfl) (by decide) (by decide)) e0 (by rw [hml]; rfl) (rest := []) (lenOf pd8 rfl) rfl (Nat.le_of_eq rfl) (hb hby d17_1) rfl (by decide) (by decide) ?_
  intro T1 h1 v1 L1 X1 e1 hQ1
  obtain ⟨rfl, Nq1, K1⟩ := hQ1
  have N1 := Fk.app N0 Nq1 (Nat.le_refl _) all0
  rw [K1] at e1
  show Wp p e below _ _ T1 (mkF m 4 #[.val (.int (13 : Int32))] [(.int (26 : Int32))])
  refine Wk.newarray X1 hx hZ (w 3 _ rfl) e1 (hb hby d17_4) rfl (by decide) 26 (by decide) (by decide) (by decide) (by decide) ?_
  intro T2 h2 a2 kA2 g2 X2 e2 E2 A2
  have O3 : Old Z Z.heap.size h2 := O0.ext E2
  have V2 : Arv Z h2 a2 kA2 .byte (26 : Int32) [(.int (0 : Int32)), (.int (0 : Int32)), (.int (0 : Int32)), (.int (0 : Int32)), (.int (0 : Int32)), (.int (0 : Int32)), (.int (0 : Int32)), (.int (0 : Int32)), (.int (0 : Int32)), (.int (0 : Int32)), (.int (0 : Int32)), (.int (0 : Int32)), (.int (0 : Int32)), (.int (0 : Int32)), (.int (0 : Int32)), (.int (0 : Int32)), (.int (0 : Int32)), (.int (0 : Int32)), (.int (0 : Int32)), (.int (0 : Int32)), (.int (0 : Int32)), (.int (0 : Int32)), (.int (0 : Int32)), (.int (0 : Int32)), (.int (0 : Int32)), (.int (0 : Int32))] (.int (0 : Int32)) := A2.pad (pad_rep [] (.int (0 : Int32)) 26)
  have KK4 : Keep h0 h2 [] := ((Keep.refl h0 []).ext E2)
  exact Wk.retA' X2 hx hlk hr rfl rfl (hb hby d17_6) (by decide) (by decide) (Qc := Q_rm_nbf13 Z h0) e2 ⟨a2, kA2, rfl, N1, KK4, (Nat.le_of_eq g2), V2⟩
def Q_rm_tob13 (Z : State) (b : Addr) (kc : ClassId) (cz0 : Int32) (cz1 : Int32) (cz2 : Int32) (cz3 : Int32) (cz4 : Int32) (cz5 : Int32) (cz6 : Int32) (cz7 : Int32) (cz8 : Int32) (cz9 : Int32) (cz10 : Int32) (cz11 : Int32) (cz12 : Int32) (h0 : Heap) (v : Option Value) (h : Heap) (L : List Loc) : Prop := ∃ t : Addr, ∃ kb : ClassId, v = some (.ref t) ∧ Fk h0.size [] L ∧ Keep h0 h [] ∧ h0.size ≤ t ∧ Arv Z h t kb .byte (26 : Int32) [(.int (own_b0 cz0)), (.int (own_b1 cz0)), (.int (own_b0 cz1)), (.int (own_b1 cz1)), (.int (own_b0 cz2)), (.int (own_b1 cz2)), (.int (own_b0 cz3)), (.int (own_b1 cz3)), (.int (own_b0 cz4)), (.int (own_b1 cz4)), (.int (own_b0 cz5)), (.int (own_b1 cz5)), (.int (own_b0 cz6)), (.int (own_b1 cz6)), (.int (own_b0 cz7)), (.int (own_b1 cz7)), (.int (own_b0 cz8)), (.int (own_b1 cz8)), (.int (own_b0 cz9)), (.int (own_b1 cz9)), (.int (own_b0 cz10)), (.int (own_b1 cz10)), (.int (own_b0 cz11)), (.int (own_b1 cz11)), (.int (own_b0 cz12)), (.int (own_b1 cz12))] (.int (0 : Int32))
set_option maxRecDepth 65536 in
set_option maxHeartbeats 40000000 in
theorem rm_tob13 (l : Launch) (Z : State) (a0 : Array Value) (hw : ∀ d ∈ tables_1, d.before a0 Z = true) (ws : List Jvm.Cond) (b : Addr) (kc : ClassId) (cz0 : Int32) (cz1 : Int32) (cz2 : Int32) (cz3 : Int32) (cz4 : Int32) (cz5 : Int32) (cz6 : Int32) (cz7 : Int32) (cz8 : Int32) (cz9 : Int32) (cz10 : Int32) (cz11 : Int32) (cz12 : Int32) (h0 : Heap) (O0 : Old Z Z.heap.size h0) (sH : Sta Z Z.heap "java/lang/StringUTF16" "HI_BYTE_SHIFT" "I" (.int (0 : Int32))) (sL : Sta Z Z.heap "java/lang/StringUTF16" "LO_BYTE_SHIFT" "I" (.int (8 : Int32))) (sA : Sta Z Z.heap "java/lang/StringUTF16" "$assertionsDisabled" "Z" (.int (1 : Int32))) (hA : Arv Z h0 b kc .char (13 : Int32) [(.int cz0), (.int cz1), (.int cz2), (.int cz3), (.int cz4), (.int cz5), (.int cz6), (.int cz7), (.int cz8), (.int cz9), (.int cz10), (.int cz11), (.int cz12)] (.int (0 : Int32))) :
    Ctr l Z (⟨"java/lang/StringUTF16", "toBytes", "([CII)[B"⟩ : MethodName) jdk_52_method_14_code 5 (some (.array .byte)) ws ({ frames := 2, cells := 1, slots := 26, locals := 24 } : Room) #[(.ref b), (.int (0 : Int32)), (.int (13 : Int32))] h0 (Q_rm_tob13 Z b kc cz0 cz1 cz2 cz3 cz4 cz5 cz6 cz7 cz8 cz9 cz10 cz11 cz12 h0) := by
  refine Ctr.intro (Ls := fun _ => #[.val (.ref b), .val (.int (0 : Int32)), .val (.int (13 : Int32)), .unset, .unset]) (plainFor_of_name pn7) (fun m => by first | rfl | (simp [entryFrame, mkF, argsToLocals, Value.category]; done)) ?_
  intro p e s m below meth c s₁ hx hby hml hr hlk hZ hown hnm hs0 X0 e0
  have w : ∀ (k : Nat) (d : Jvm.Cond), tables_1[k]? = some d → d.before a0 Z = true := fun k d q => hw d (List.mem_of_getElem? q)
  have N0 := Fk.nil h0.size []
  refine Wk.iloadN X0 hx (hb hby d16_0) rfl rfl ?_
  refine Wk.callS X0 hx hZ hown (w 91 _ rfl) (w 92 _ rfl) (w 49 _ rfl) (w 93 _ rfl) (by decide) (as' := [(.int (13 : Int32))]) (backOf (W := 0) (rm_nbf13 l Z a0 hw [] h0 O0) hZ (w 93 _ rfl) (w 49 _ rfl) (by decide) (by decide)) e0 (by rw [hml]; rfl) (rest := []) (lenOf pd9 rfl) rfl (Nat.le_of_eq rfl) (hb hby d16_1) rfl (by decide) (by decide) ?_
  intro T1 h1 v1 L1 X1 e1 hQ1
  obtain ⟨t1, kb1, rfl, Nq1, K1, q1_0, q1_1⟩ := hQ1
  have N1 := Fk.app N0 Nq1 (Nat.le_refl _) all0
  have O2 : Old Z Z.heap.size h1 := O0.keep K1 all0
  show Wp p e below _ _ T1 (mkF m 4 #[.val (.ref b), .val (.int (0 : Int32)), .val (.int (13 : Int32)), .unset, .unset] [(.ref t1)])
  refine Wk.astoreN X1 hx (Ls' := #[.val (.ref b), .val (.int (0 : Int32)), .val (.int (13 : Int32)), .val (.ref t1), .unset]) (hb hby d16_4) rfl rfl rfl ?_
  refine Wk.iconst X1 hx (v := (0 : Int32)) (hb hby d16_5) rfl rfl ?_
  refine Wk.istore X1 hx (Ls' := #[.val (.ref b), .val (.int (0 : Int32)), .val (.int (13 : Int32)), .val (.ref t1), .val (.int (0 : Int32))]) (hb hby d16_6) rfl rfl ?_
  refine Wk.iload X1 hx (hb hby d16_8) rfl rfl ?_
  refine Wk.iloadN X1 hx (hb hby d16_10) rfl rfl ?_
  refine Wk.icmpNo X1 hx (hb hby d16_11) rfl (tlt (by decide : (0 : Int32) < (13 : Int32))).2.1 ?_
  refine Wk.aloadN X1 hx (hb hby d16_14) rfl rfl rfl ?_
  refine Wk.iload X1 hx (hb hby d16_15) rfl rfl ?_
  refine Wk.aloadN X1 hx (hb hby d16_17) rfl rfl rfl ?_
  refine Wk.iloadN X1 hx (hb hby d16_18) rfl rfl ?_
  have KK3 : Keep h0 h1 [] := ((Keep.refl h0 []).trans K1 all0)
  have f4 := (hA.keep KK3 nin0)
  refine Wk.caload X1 hx hZ e1 f4 (by decide) (by decide) (v := cz0) rfl (hb hby d16_19) rfl ?_
  refine Wk.callS X1 hx hZ hown (w 98 _ rfl) (w 99 _ rfl) (w 49 _ rfl) (w 100 _ rfl) (by decide) (as' := [(.ref t1), (.int (0 : Int32)), (.int cz0)]) (backOf (W := 0) (rm_put l Z a0 hw [] t1 (0 : Int32) cz0 kb1 (26 : Int32) _ 0 h1 O2 sH sL sA q1_1 (by decide) (by decide) (by decide) (by decide) (by decide) (by decide) (Nat.le_of_ble_eq_true rfl) (Nat.le_trans (Nat.le_trans (Nat.le_trans (Nat.le_of_eq O0.1.symm) O0.2.1) (Keep.refl h0 []).1) q1_0)) hZ (w 100 _ rfl) (w 49 _ rfl) (by decide) (by decide)) e1 (by rw [hml]; rfl) (rest := []) (lenOf pd10 rfl) rfl (Nat.le_of_eq rfl) (hb hby d16_20) rfl (by decide) (by decide) ?_
  intro T5 h5 v5 L5 X5 e5 hQ5
  obtain ⟨rfl, Nq5, K5, q5_0⟩ := hQ5
  have N5 := Fk.app N1 Nq5 KK3.1 (allS (Or.inr q1_0) all0)
  have O6 : Old Z Z.heap.size h5 := O2.keep K5 (allS (Nat.le_trans (Nat.le_trans (Nat.le_trans (Nat.le_of_eq O0.1.symm) O0.2.1) (Keep.refl h0 []).1) q1_0) all0)
  have Vl7 : Arv Z h5 t1 kb1 .byte (26 : Int32) [(.int (own_b0 cz0)), (.int (own_b1 cz0)), (.int (0 : Int32)), (.int (0 : Int32)), (.int (0 : Int32)), (.int (0 : Int32)), (.int (0 : Int32)), (.int (0 : Int32)), (.int (0 : Int32)), (.int (0 : Int32)), (.int (0 : Int32)), (.int (0 : Int32)), (.int (0 : Int32)), (.int (0 : Int32)), (.int (0 : Int32)), (.int (0 : Int32)), (.int (0 : Int32)), (.int (0 : Int32)), (.int (0 : Int32)), (.int (0 : Int32)), (.int (0 : Int32)), (.int (0 : Int32)), (.int (0 : Int32)), (.int (0 : Int32)), (.int (0 : Int32)), (.int (0 : Int32))] (.int (0 : Int32)) := q5_0
  show Wp p e below _ _ T5 (mkF m 23 #[.val (.ref b), .val (.int (0 : Int32)), .val (.int (13 : Int32)), .val (.ref t1), .val (.int (0 : Int32))] [])
  refine Wk.iinc X5 hx (Ls' := #[.val (.ref b), .val (.int (1 : Int32)), .val (.int (13 : Int32)), .val (.ref t1), .val (.int (0 : Int32))]) (hb hby d16_23) rfl rfl rfl ?_
  refine Wk.iinc X5 hx (Ls' := #[.val (.ref b), .val (.int (1 : Int32)), .val (.int (13 : Int32)), .val (.ref t1), .val (.int (1 : Int32))]) (hb hby d16_26) rfl rfl rfl ?_
  refine Wk.goto X5 hx (hb hby d16_29) (by decide) (q := 8) rfl ?_
  refine Wk.iload X5 hx (hb hby d16_8) rfl rfl ?_
  refine Wk.iloadN X5 hx (hb hby d16_10) rfl rfl ?_
  refine Wk.icmpNo X5 hx (hb hby d16_11) rfl (tlt (by decide : (1 : Int32) < (13 : Int32))).2.1 ?_
  refine Wk.aloadN X5 hx (hb hby d16_14) rfl rfl rfl ?_
  refine Wk.iload X5 hx (hb hby d16_15) rfl rfl ?_
  refine Wk.aloadN X5 hx (hb hby d16_17) rfl rfl rfl ?_
  refine Wk.iloadN X5 hx (hb hby d16_18) rfl rfl ?_
  have KK8 : Keep h0 h5 [] := (KK3.trans K5 (allS (Or.inr q1_0) all0))
  have f9 := (hA.keep KK8 nin0)
  refine Wk.caload X5 hx hZ e5 f9 (by decide) (by decide) (v := cz1) rfl (hb hby d16_19) rfl ?_
  refine Wk.callS X5 hx hZ hown (w 98 _ rfl) (w 99 _ rfl) (w 49 _ rfl) (w 100 _ rfl) (by decide) (as' := [(.ref t1), (.int (1 : Int32)), (.int cz1)]) (backOf (W := 0) (rm_put l Z a0 hw [] t1 (1 : Int32) cz1 kb1 (26 : Int32) _ 2 h5 O6 sH sL sA Vl7 (by decide) (by decide) (by decide) (by decide) (by decide) (by decide) (Nat.le_of_ble_eq_true rfl) (Nat.le_trans (Nat.le_trans (Nat.le_trans (Nat.le_of_eq O0.1.symm) O0.2.1) (Keep.refl h0 []).1) q1_0)) hZ (w 100 _ rfl) (w 49 _ rfl) (by decide) (by decide)) e5 (by rw [hml]; rfl) (rest := []) (lenOf pd10 rfl) rfl (Nat.le_of_eq rfl) (hb hby d16_20) rfl (by decide) (by decide) ?_
  intro T10 h10 v10 L10 X10 e10 hQ10
  obtain ⟨rfl, Nq10, K10, q10_0⟩ := hQ10
  have N10 := Fk.app N5 Nq10 KK8.1 (allS (Or.inr q1_0) all0)
  have O11 : Old Z Z.heap.size h10 := O6.keep K10 (allS (Nat.le_trans (Nat.le_trans (Nat.le_trans (Nat.le_of_eq O0.1.symm) O0.2.1) (Keep.refl h0 []).1) q1_0) all0)
  have Vl12 : Arv Z h10 t1 kb1 .byte (26 : Int32) [(.int (own_b0 cz0)), (.int (own_b1 cz0)), (.int (own_b0 cz1)), (.int (own_b1 cz1)), (.int (0 : Int32)), (.int (0 : Int32)), (.int (0 : Int32)), (.int (0 : Int32)), (.int (0 : Int32)), (.int (0 : Int32)), (.int (0 : Int32)), (.int (0 : Int32)), (.int (0 : Int32)), (.int (0 : Int32)), (.int (0 : Int32)), (.int (0 : Int32)), (.int (0 : Int32)), (.int (0 : Int32)), (.int (0 : Int32)), (.int (0 : Int32)), (.int (0 : Int32)), (.int (0 : Int32)), (.int (0 : Int32)), (.int (0 : Int32)), (.int (0 : Int32)), (.int (0 : Int32))] (.int (0 : Int32)) := q10_0
  show Wp p e below _ _ T10 (mkF m 23 #[.val (.ref b), .val (.int (1 : Int32)), .val (.int (13 : Int32)), .val (.ref t1), .val (.int (1 : Int32))] [])
  refine Wk.iinc X10 hx (Ls' := #[.val (.ref b), .val (.int (2 : Int32)), .val (.int (13 : Int32)), .val (.ref t1), .val (.int (1 : Int32))]) (hb hby d16_23) rfl rfl rfl ?_
  refine Wk.iinc X10 hx (Ls' := #[.val (.ref b), .val (.int (2 : Int32)), .val (.int (13 : Int32)), .val (.ref t1), .val (.int (2 : Int32))]) (hb hby d16_26) rfl rfl rfl ?_
  refine Wk.goto X10 hx (hb hby d16_29) (by decide) (q := 8) rfl ?_
  refine Wk.iload X10 hx (hb hby d16_8) rfl rfl ?_
  refine Wk.iloadN X10 hx (hb hby d16_10) rfl rfl ?_
  refine Wk.icmpNo X10 hx (hb hby d16_11) rfl (tlt (by decide : (2 : Int32) < (13 : Int32))).2.1 ?_
  refine Wk.aloadN X10 hx (hb hby d16_14) rfl rfl rfl ?_
  refine Wk.iload X10 hx (hb hby d16_15) rfl rfl ?_
  refine Wk.aloadN X10 hx (hb hby d16_17) rfl rfl rfl ?_
  refine Wk.iloadN X10 hx (hb hby d16_18) rfl rfl ?_
  have KK13 : Keep h0 h10 [] := (KK8.trans K10 (allS (Or.inr q1_0) all0))
  have f14 := (hA.keep KK13 nin0)
  refine Wk.caload X10 hx hZ e10 f14 (by decide) (by decide) (v := cz2) rfl (hb hby d16_19) rfl ?_
  refine Wk.callS X10 hx hZ hown (w 98 _ rfl) (w 99 _ rfl) (w 49 _ rfl) (w 100 _ rfl) (by decide) (as' := [(.ref t1), (.int (2 : Int32)), (.int cz2)]) (backOf (W := 0) (rm_put l Z a0 hw [] t1 (2 : Int32) cz2 kb1 (26 : Int32) _ 4 h10 O11 sH sL sA Vl12 (by decide) (by decide) (by decide) (by decide) (by decide) (by decide) (Nat.le_of_ble_eq_true rfl) (Nat.le_trans (Nat.le_trans (Nat.le_trans (Nat.le_of_eq O0.1.symm) O0.2.1) (Keep.refl h0 []).1) q1_0)) hZ (w 100 _ rfl) (w 49 _ rfl) (by decide) (by decide)) e10 (by rw [hml]; rfl) (rest := []) (lenOf pd10 rfl) rfl (Nat.le_of_eq rfl) (hb hby d16_20) rfl (by decide) (by decide) ?_
  intro T15 h15 v15 L15 X15 e15 hQ15
  obtain ⟨rfl, Nq15, K15, q15_0⟩ := hQ15
  have N15 := Fk.app N10 Nq15 KK13.1 (allS (Or.inr q1_0) all0)
  have O16 : Old Z Z.heap.size h15 := O11.keep K15 (allS (Nat.le_trans (Nat.le_trans (Nat.le_trans (Nat.le_of_eq O0.1.symm) O0.2.1) (Keep.refl h0 []).1) q1_0) all0)
  have Vl17 : Arv Z h15 t1 kb1 .byte (26 : Int32) [(.int (own_b0 cz0)), (.int (own_b1 cz0)), (.int (own_b0 cz1)), (.int (own_b1 cz1)), (.int (own_b0 cz2)), (.int (own_b1 cz2)), (.int (0 : Int32)), (.int (0 : Int32)), (.int (0 : Int32)), (.int (0 : Int32)), (.int (0 : Int32)), (.int (0 : Int32)), (.int (0 : Int32)), (.int (0 : Int32)), (.int (0 : Int32)), (.int (0 : Int32)), (.int (0 : Int32)), (.int (0 : Int32)), (.int (0 : Int32)), (.int (0 : Int32)), (.int (0 : Int32)), (.int (0 : Int32)), (.int (0 : Int32)), (.int (0 : Int32)), (.int (0 : Int32)), (.int (0 : Int32))] (.int (0 : Int32)) := q15_0
  show Wp p e below _ _ T15 (mkF m 23 #[.val (.ref b), .val (.int (2 : Int32)), .val (.int (13 : Int32)), .val (.ref t1), .val (.int (2 : Int32))] [])
  refine Wk.iinc X15 hx (Ls' := #[.val (.ref b), .val (.int (3 : Int32)), .val (.int (13 : Int32)), .val (.ref t1), .val (.int (2 : Int32))]) (hb hby d16_23) rfl rfl rfl ?_
  refine Wk.iinc X15 hx (Ls' := #[.val (.ref b), .val (.int (3 : Int32)), .val (.int (13 : Int32)), .val (.ref t1), .val (.int (3 : Int32))]) (hb hby d16_26) rfl rfl rfl ?_
  refine Wk.goto X15 hx (hb hby d16_29) (by decide) (q := 8) rfl ?_
  refine Wk.iload X15 hx (hb hby d16_8) rfl rfl ?_
  refine Wk.iloadN X15 hx (hb hby d16_10) rfl rfl ?_
  refine Wk.icmpNo X15 hx (hb hby d16_11) rfl (tlt (by decide : (3 : Int32) < (13 : Int32))).2.1 ?_
  refine Wk.aloadN X15 hx (hb hby d16_14) rfl rfl rfl ?_
  refine Wk.iload X15 hx (hb hby d16_15) rfl rfl ?_
  refine Wk.aloadN X15 hx (hb hby d16_17) rfl rfl rfl ?_
  refine Wk.iloadN X15 hx (hb hby d16_18) rfl rfl ?_
  have KK18 : Keep h0 h15 [] := (KK13.trans K15 (allS (Or.inr q1_0) all0))
  have f19 := (hA.keep KK18 nin0)
  refine Wk.caload X15 hx hZ e15 f19 (by decide) (by decide) (v := cz3) rfl (hb hby d16_19) rfl ?_
  refine Wk.callS X15 hx hZ hown (w 98 _ rfl) (w 99 _ rfl) (w 49 _ rfl) (w 100 _ rfl) (by decide) (as' := [(.ref t1), (.int (3 : Int32)), (.int cz3)]) (backOf (W := 0) (rm_put l Z a0 hw [] t1 (3 : Int32) cz3 kb1 (26 : Int32) _ 6 h15 O16 sH sL sA Vl17 (by decide) (by decide) (by decide) (by decide) (by decide) (by decide) (Nat.le_of_ble_eq_true rfl) (Nat.le_trans (Nat.le_trans (Nat.le_trans (Nat.le_of_eq O0.1.symm) O0.2.1) (Keep.refl h0 []).1) q1_0)) hZ (w 100 _ rfl) (w 49 _ rfl) (by decide) (by decide)) e15 (by rw [hml]; rfl) (rest := []) (lenOf pd10 rfl) rfl (Nat.le_of_eq rfl) (hb hby d16_20) rfl (by decide) (by decide) ?_
  intro T20 h20 v20 L20 X20 e20 hQ20
  obtain ⟨rfl, Nq20, K20, q20_0⟩ := hQ20
  have N20 := Fk.app N15 Nq20 KK18.1 (allS (Or.inr q1_0) all0)
  have O21 : Old Z Z.heap.size h20 := O16.keep K20 (allS (Nat.le_trans (Nat.le_trans (Nat.le_trans (Nat.le_of_eq O0.1.symm) O0.2.1) (Keep.refl h0 []).1) q1_0) all0)
  have Vl22 : Arv Z h20 t1 kb1 .byte (26 : Int32) [(.int (own_b0 cz0)), (.int (own_b1 cz0)), (.int (own_b0 cz1)), (.int (own_b1 cz1)), (.int (own_b0 cz2)), (.int (own_b1 cz2)), (.int (own_b0 cz3)), (.int (own_b1 cz3)), (.int (0 : Int32)), (.int (0 : Int32)), (.int (0 : Int32)), (.int (0 : Int32)), (.int (0 : Int32)), (.int (0 : Int32)), (.int (0 : Int32)), (.int (0 : Int32)), (.int (0 : Int32)), (.int (0 : Int32)), (.int (0 : Int32)), (.int (0 : Int32)), (.int (0 : Int32)), (.int (0 : Int32)), (.int (0 : Int32)), (.int (0 : Int32)), (.int (0 : Int32)), (.int (0 : Int32))] (.int (0 : Int32)) := q20_0
  show Wp p e below _ _ T20 (mkF m 23 #[.val (.ref b), .val (.int (3 : Int32)), .val (.int (13 : Int32)), .val (.ref t1), .val (.int (3 : Int32))] [])
  refine Wk.iinc X20 hx (Ls' := #[.val (.ref b), .val (.int (4 : Int32)), .val (.int (13 : Int32)), .val (.ref t1), .val (.int (3 : Int32))]) (hb hby d16_23) rfl rfl rfl ?_
  refine Wk.iinc X20 hx (Ls' := #[.val (.ref b), .val (.int (4 : Int32)), .val (.int (13 : Int32)), .val (.ref t1), .val (.int (4 : Int32))]) (hb hby d16_26) rfl rfl rfl ?_
  refine Wk.goto X20 hx (hb hby d16_29) (by decide) (q := 8) rfl ?_
  refine Wk.iload X20 hx (hb hby d16_8) rfl rfl ?_
  refine Wk.iloadN X20 hx (hb hby d16_10) rfl rfl ?_
  refine Wk.icmpNo X20 hx (hb hby d16_11) rfl (tlt (by decide : (4 : Int32) < (13 : Int32))).2.1 ?_
  refine Wk.aloadN X20 hx (hb hby d16_14) rfl rfl rfl ?_
  refine Wk.iload X20 hx (hb hby d16_15) rfl rfl ?_
  refine Wk.aloadN X20 hx (hb hby d16_17) rfl rfl rfl ?_
  refine Wk.iloadN X20 hx (hb hby d16_18) rfl rfl ?_
  have KK23 : Keep h0 h20 [] := (KK18.trans K20 (allS (Or.inr q1_0) all0))
  have f24 := (hA.keep KK23 nin0)
  refine Wk.caload X20 hx hZ e20 f24 (by decide) (by decide) (v := cz4) rfl (hb hby d16_19) rfl ?_
  refine Wk.callS X20 hx hZ hown (w 98 _ rfl) (w 99 _ rfl) (w 49 _ rfl) (w 100 _ rfl) (by decide) (as' := [(.ref t1), (.int (4 : Int32)), (.int cz4)]) (backOf (W := 0) (rm_put l Z a0 hw [] t1 (4 : Int32) cz4 kb1 (26 : Int32) _ 8 h20 O21 sH sL sA Vl22 (by decide) (by decide) (by decide) (by decide) (by decide) (by decide) (Nat.le_of_ble_eq_true rfl) (Nat.le_trans (Nat.le_trans (Nat.le_trans (Nat.le_of_eq O0.1.symm) O0.2.1) (Keep.refl h0 []).1) q1_0)) hZ (w 100 _ rfl) (w 49 _ rfl) (by decide) (by decide)) e20 (by rw [hml]; rfl) (rest := []) (lenOf pd10 rfl) rfl (Nat.le_of_eq rfl) (hb hby d16_20) rfl (by decide) (by decide) ?_
  intro T25 h25 v25 L25 X25 e25 hQ25
  obtain ⟨rfl, Nq25, K25, q25_0⟩ := hQ25
  have N25 := Fk.app N20 Nq25 KK23.1 (allS (Or.inr q1_0) all0)
  have O26 : Old Z Z.heap.size h25 := O21.keep K25 (allS (Nat.le_trans (Nat.le_trans (Nat.le_trans (Nat.le_of_eq O0.1.symm) O0.2.1) (Keep.refl h0 []).1) q1_0) all0)
  have Vl27 : Arv Z h25 t1 kb1 .byte (26 : Int32) [(.int (own_b0 cz0)), (.int (own_b1 cz0)), (.int (own_b0 cz1)), (.int (own_b1 cz1)), (.int (own_b0 cz2)), (.int (own_b1 cz2)), (.int (own_b0 cz3)), (.int (own_b1 cz3)), (.int (own_b0 cz4)), (.int (own_b1 cz4)), (.int (0 : Int32)), (.int (0 : Int32)), (.int (0 : Int32)), (.int (0 : Int32)), (.int (0 : Int32)), (.int (0 : Int32)), (.int (0 : Int32)), (.int (0 : Int32)), (.int (0 : Int32)), (.int (0 : Int32)), (.int (0 : Int32)), (.int (0 : Int32)), (.int (0 : Int32)), (.int (0 : Int32)), (.int (0 : Int32)), (.int (0 : Int32))] (.int (0 : Int32)) := q25_0
  show Wp p e below _ _ T25 (mkF m 23 #[.val (.ref b), .val (.int (4 : Int32)), .val (.int (13 : Int32)), .val (.ref t1), .val (.int (4 : Int32))] [])
  refine Wk.iinc X25 hx (Ls' := #[.val (.ref b), .val (.int (5 : Int32)), .val (.int (13 : Int32)), .val (.ref t1), .val (.int (4 : Int32))]) (hb hby d16_23) rfl rfl rfl ?_
  refine Wk.iinc X25 hx (Ls' := #[.val (.ref b), .val (.int (5 : Int32)), .val (.int (13 : Int32)), .val (.ref t1), .val (.int (5 : Int32))]) (hb hby d16_26) rfl rfl rfl ?_
  refine Wk.goto X25 hx (hb hby d16_29) (by decide) (q := 8) rfl ?_
  refine Wk.iload X25 hx (hb hby d16_8) rfl rfl ?_
  refine Wk.iloadN X25 hx (hb hby d16_10) rfl rfl ?_
  refine Wk.icmpNo X25 hx (hb hby d16_11) rfl (tlt (by decide : (5 : Int32) < (13 : Int32))).2.1 ?_
  refine Wk.aloadN X25 hx (hb hby d16_14) rfl rfl rfl ?_
  refine Wk.iload X25 hx (hb hby d16_15) rfl rfl ?_
  refine Wk.aloadN X25 hx (hb hby d16_17) rfl rfl rfl ?_
  refine Wk.iloadN X25 hx (hb hby d16_18) rfl rfl ?_
  have KK28 : Keep h0 h25 [] := (KK23.trans K25 (allS (Or.inr q1_0) all0))
  have f29 := (hA.keep KK28 nin0)
  refine Wk.caload X25 hx hZ e25 f29 (by decide) (by decide) (v := cz5) rfl (hb hby d16_19) rfl ?_
  refine Wk.callS X25 hx hZ hown (w 98 _ rfl) (w 99 _ rfl) (w 49 _ rfl) (w 100 _ rfl) (by decide) (as' := [(.ref t1), (.int (5 : Int32)), (.int cz5)]) (backOf (W := 0) (rm_put l Z a0 hw [] t1 (5 : Int32) cz5 kb1 (26 : Int32) _ 10 h25 O26 sH sL sA Vl27 (by decide) (by decide) (by decide) (by decide) (by decide) (by decide) (Nat.le_of_ble_eq_true rfl) (Nat.le_trans (Nat.le_trans (Nat.le_trans (Nat.le_of_eq O0.1.symm) O0.2.1) (Keep.refl h0 []).1) q1_0)) hZ (w 100 _ rfl) (w 49 _ rfl) (by decide) (by decide)) e25 (by rw [hml]; rfl) (rest := []) (lenOf pd10 rfl) rfl (Nat.le_of_eq rfl) (hb hby d16_20) rfl (by decide) (by decide) ?_
  intro T30 h30 v30 L30 X30 e30 hQ30
  obtain ⟨rfl, Nq30, K30, q30_0⟩ := hQ30
  have N30 := Fk.app N25 Nq30 KK28.1 (allS (Or.inr q1_0) all0)
  have O31 : Old Z Z.heap.size h30 := O26.keep K30 (allS (Nat.le_trans (Nat.le_trans (Nat.le_trans (Nat.le_of_eq O0.1.symm) O0.2.1) (Keep.refl h0 []).1) q1_0) all0)
  have Vl32 : Arv Z h30 t1 kb1 .byte (26 : Int32) [(.int (own_b0 cz0)), (.int (own_b1 cz0)), (.int (own_b0 cz1)), (.int (own_b1 cz1)), (.int (own_b0 cz2)), (.int (own_b1 cz2)), (.int (own_b0 cz3)), (.int (own_b1 cz3)), (.int (own_b0 cz4)), (.int (own_b1 cz4)), (.int (own_b0 cz5)), (.int (own_b1 cz5)), (.int (0 : Int32)), (.int (0 : Int32)), (.int (0 : Int32)), (.int (0 : Int32)), (.int (0 : Int32)), (.int (0 : Int32)), (.int (0 : Int32)), (.int (0 : Int32)), (.int (0 : Int32)), (.int (0 : Int32)), (.int (0 : Int32)), (.int (0 : Int32)), (.int (0 : Int32)), (.int (0 : Int32))] (.int (0 : Int32)) := q30_0
  show Wp p e below _ _ T30 (mkF m 23 #[.val (.ref b), .val (.int (5 : Int32)), .val (.int (13 : Int32)), .val (.ref t1), .val (.int (5 : Int32))] [])
  refine Wk.iinc X30 hx (Ls' := #[.val (.ref b), .val (.int (6 : Int32)), .val (.int (13 : Int32)), .val (.ref t1), .val (.int (5 : Int32))]) (hb hby d16_23) rfl rfl rfl ?_
  refine Wk.iinc X30 hx (Ls' := #[.val (.ref b), .val (.int (6 : Int32)), .val (.int (13 : Int32)), .val (.ref t1), .val (.int (6 : Int32))]) (hb hby d16_26) rfl rfl rfl ?_
  refine Wk.goto X30 hx (hb hby d16_29) (by decide) (q := 8) rfl ?_
  refine Wk.iload X30 hx (hb hby d16_8) rfl rfl ?_
  refine Wk.iloadN X30 hx (hb hby d16_10) rfl rfl ?_
  refine Wk.icmpNo X30 hx (hb hby d16_11) rfl (tlt (by decide : (6 : Int32) < (13 : Int32))).2.1 ?_
  refine Wk.aloadN X30 hx (hb hby d16_14) rfl rfl rfl ?_
  refine Wk.iload X30 hx (hb hby d16_15) rfl rfl ?_
  refine Wk.aloadN X30 hx (hb hby d16_17) rfl rfl rfl ?_
  refine Wk.iloadN X30 hx (hb hby d16_18) rfl rfl ?_
  have KK33 : Keep h0 h30 [] := (KK28.trans K30 (allS (Or.inr q1_0) all0))
  have f34 := (hA.keep KK33 nin0)
  refine Wk.caload X30 hx hZ e30 f34 (by decide) (by decide) (v := cz6) rfl (hb hby d16_19) rfl ?_
  refine Wk.callS X30 hx hZ hown (w 98 _ rfl) (w 99 _ rfl) (w 49 _ rfl) (w 100 _ rfl) (by decide) (as' := [(.ref t1), (.int (6 : Int32)), (.int cz6)]) (backOf (W := 0) (rm_put l Z a0 hw [] t1 (6 : Int32) cz6 kb1 (26 : Int32) _ 12 h30 O31 sH sL sA Vl32 (by decide) (by decide) (by decide) (by decide) (by decide) (by decide) (Nat.le_of_ble_eq_true rfl) (Nat.le_trans (Nat.le_trans (Nat.le_trans (Nat.le_of_eq O0.1.symm) O0.2.1) (Keep.refl h0 []).1) q1_0)) hZ (w 100 _ rfl) (w 49 _ rfl) (by decide) (by decide)) e30 (by rw [hml]; rfl) (rest := []) (lenOf pd10 rfl) rfl (Nat.le_of_eq rfl) (hb hby d16_20) rfl (by decide) (by decide) ?_
  intro T35 h35 v35 L35 X35 e35 hQ35
  obtain ⟨rfl, Nq35, K35, q35_0⟩ := hQ35
  have N35 := Fk.app N30 Nq35 KK33.1 (allS (Or.inr q1_0) all0)
  have O36 : Old Z Z.heap.size h35 := O31.keep K35 (allS (Nat.le_trans (Nat.le_trans (Nat.le_trans (Nat.le_of_eq O0.1.symm) O0.2.1) (Keep.refl h0 []).1) q1_0) all0)
  have Vl37 : Arv Z h35 t1 kb1 .byte (26 : Int32) [(.int (own_b0 cz0)), (.int (own_b1 cz0)), (.int (own_b0 cz1)), (.int (own_b1 cz1)), (.int (own_b0 cz2)), (.int (own_b1 cz2)), (.int (own_b0 cz3)), (.int (own_b1 cz3)), (.int (own_b0 cz4)), (.int (own_b1 cz4)), (.int (own_b0 cz5)), (.int (own_b1 cz5)), (.int (own_b0 cz6)), (.int (own_b1 cz6)), (.int (0 : Int32)), (.int (0 : Int32)), (.int (0 : Int32)), (.int (0 : Int32)), (.int (0 : Int32)), (.int (0 : Int32)), (.int (0 : Int32)), (.int (0 : Int32)), (.int (0 : Int32)), (.int (0 : Int32)), (.int (0 : Int32)), (.int (0 : Int32))] (.int (0 : Int32)) := q35_0
  show Wp p e below _ _ T35 (mkF m 23 #[.val (.ref b), .val (.int (6 : Int32)), .val (.int (13 : Int32)), .val (.ref t1), .val (.int (6 : Int32))] [])
  refine Wk.iinc X35 hx (Ls' := #[.val (.ref b), .val (.int (7 : Int32)), .val (.int (13 : Int32)), .val (.ref t1), .val (.int (6 : Int32))]) (hb hby d16_23) rfl rfl rfl ?_
  refine Wk.iinc X35 hx (Ls' := #[.val (.ref b), .val (.int (7 : Int32)), .val (.int (13 : Int32)), .val (.ref t1), .val (.int (7 : Int32))]) (hb hby d16_26) rfl rfl rfl ?_
  refine Wk.goto X35 hx (hb hby d16_29) (by decide) (q := 8) rfl ?_
  refine Wk.iload X35 hx (hb hby d16_8) rfl rfl ?_
  refine Wk.iloadN X35 hx (hb hby d16_10) rfl rfl ?_
  refine Wk.icmpNo X35 hx (hb hby d16_11) rfl (tlt (by decide : (7 : Int32) < (13 : Int32))).2.1 ?_
  refine Wk.aloadN X35 hx (hb hby d16_14) rfl rfl rfl ?_
  refine Wk.iload X35 hx (hb hby d16_15) rfl rfl ?_
  refine Wk.aloadN X35 hx (hb hby d16_17) rfl rfl rfl ?_
  refine Wk.iloadN X35 hx (hb hby d16_18) rfl rfl ?_
  have KK38 : Keep h0 h35 [] := (KK33.trans K35 (allS (Or.inr q1_0) all0))
  have f39 := (hA.keep KK38 nin0)
  refine Wk.caload X35 hx hZ e35 f39 (by decide) (by decide) (v := cz7) rfl (hb hby d16_19) rfl ?_
  refine Wk.callS X35 hx hZ hown (w 98 _ rfl) (w 99 _ rfl) (w 49 _ rfl) (w 100 _ rfl) (by decide) (as' := [(.ref t1), (.int (7 : Int32)), (.int cz7)]) (backOf (W := 0) (rm_put l Z a0 hw [] t1 (7 : Int32) cz7 kb1 (26 : Int32) _ 14 h35 O36 sH sL sA Vl37 (by decide) (by decide) (by decide) (by decide) (by decide) (by decide) (Nat.le_of_ble_eq_true rfl) (Nat.le_trans (Nat.le_trans (Nat.le_trans (Nat.le_of_eq O0.1.symm) O0.2.1) (Keep.refl h0 []).1) q1_0)) hZ (w 100 _ rfl) (w 49 _ rfl) (by decide) (by decide)) e35 (by rw [hml]; rfl) (rest := []) (lenOf pd10 rfl) rfl (Nat.le_of_eq rfl) (hb hby d16_20) rfl (by decide) (by decide) ?_
  intro T40 h40 v40 L40 X40 e40 hQ40
  obtain ⟨rfl, Nq40, K40, q40_0⟩ := hQ40
  have N40 := Fk.app N35 Nq40 KK38.1 (allS (Or.inr q1_0) all0)
  have O41 : Old Z Z.heap.size h40 := O36.keep K40 (allS (Nat.le_trans (Nat.le_trans (Nat.le_trans (Nat.le_of_eq O0.1.symm) O0.2.1) (Keep.refl h0 []).1) q1_0) all0)
  have Vl42 : Arv Z h40 t1 kb1 .byte (26 : Int32) [(.int (own_b0 cz0)), (.int (own_b1 cz0)), (.int (own_b0 cz1)), (.int (own_b1 cz1)), (.int (own_b0 cz2)), (.int (own_b1 cz2)), (.int (own_b0 cz3)), (.int (own_b1 cz3)), (.int (own_b0 cz4)), (.int (own_b1 cz4)), (.int (own_b0 cz5)), (.int (own_b1 cz5)), (.int (own_b0 cz6)), (.int (own_b1 cz6)), (.int (own_b0 cz7)), (.int (own_b1 cz7)), (.int (0 : Int32)), (.int (0 : Int32)), (.int (0 : Int32)), (.int (0 : Int32)), (.int (0 : Int32)), (.int (0 : Int32)), (.int (0 : Int32)), (.int (0 : Int32)), (.int (0 : Int32)), (.int (0 : Int32))] (.int (0 : Int32)) := q40_0
  show Wp p e below _ _ T40 (mkF m 23 #[.val (.ref b), .val (.int (7 : Int32)), .val (.int (13 : Int32)), .val (.ref t1), .val (.int (7 : Int32))] [])
  refine Wk.iinc X40 hx (Ls' := #[.val (.ref b), .val (.int (8 : Int32)), .val (.int (13 : Int32)), .val (.ref t1), .val (.int (7 : Int32))]) (hb hby d16_23) rfl rfl rfl ?_
  refine Wk.iinc X40 hx (Ls' := #[.val (.ref b), .val (.int (8 : Int32)), .val (.int (13 : Int32)), .val (.ref t1), .val (.int (8 : Int32))]) (hb hby d16_26) rfl rfl rfl ?_
  refine Wk.goto X40 hx (hb hby d16_29) (by decide) (q := 8) rfl ?_
  refine Wk.iload X40 hx (hb hby d16_8) rfl rfl ?_
  refine Wk.iloadN X40 hx (hb hby d16_10) rfl rfl ?_
  refine Wk.icmpNo X40 hx (hb hby d16_11) rfl (tlt (by decide : (8 : Int32) < (13 : Int32))).2.1 ?_
  refine Wk.aloadN X40 hx (hb hby d16_14) rfl rfl rfl ?_
  refine Wk.iload X40 hx (hb hby d16_15) rfl rfl ?_
  refine Wk.aloadN X40 hx (hb hby d16_17) rfl rfl rfl ?_
  refine Wk.iloadN X40 hx (hb hby d16_18) rfl rfl ?_
  have KK43 : Keep h0 h40 [] := (KK38.trans K40 (allS (Or.inr q1_0) all0))
  have f44 := (hA.keep KK43 nin0)
  refine Wk.caload X40 hx hZ e40 f44 (by decide) (by decide) (v := cz8) rfl (hb hby d16_19) rfl ?_
  refine Wk.callS X40 hx hZ hown (w 98 _ rfl) (w 99 _ rfl) (w 49 _ rfl) (w 100 _ rfl) (by decide) (as' := [(.ref t1), (.int (8 : Int32)), (.int cz8)]) (backOf (W := 0) (rm_put l Z a0 hw [] t1 (8 : Int32) cz8 kb1 (26 : Int32) _ 16 h40 O41 sH sL sA Vl42 (by decide) (by decide) (by decide) (by decide) (by decide) (by decide) (Nat.le_of_ble_eq_true rfl) (Nat.le_trans (Nat.le_trans (Nat.le_trans (Nat.le_of_eq O0.1.symm) O0.2.1) (Keep.refl h0 []).1) q1_0)) hZ (w 100 _ rfl) (w 49 _ rfl) (by decide) (by decide)) e40 (by rw [hml]; rfl) (rest := []) (lenOf pd10 rfl) rfl (Nat.le_of_eq rfl) (hb hby d16_20) rfl (by decide) (by decide) ?_
  intro T45 h45 v45 L45 X45 e45 hQ45
  obtain ⟨rfl, Nq45, K45, q45_0⟩ := hQ45
  have N45 := Fk.app N40 Nq45 KK43.1 (allS (Or.inr q1_0) all0)
  have O46 : Old Z Z.heap.size h45 := O41.keep K45 (allS (Nat.le_trans (Nat.le_trans (Nat.le_trans (Nat.le_of_eq O0.1.symm) O0.2.1) (Keep.refl h0 []).1) q1_0) all0)
  have Vl47 : Arv Z h45 t1 kb1 .byte (26 : Int32) [(.int (own_b0 cz0)), (.int (own_b1 cz0)), (.int (own_b0 cz1)), (.int (own_b1 cz1)), (.int (own_b0 cz2)), (.int (own_b1 cz2)), (.int (own_b0 cz3)), (.int (own_b1 cz3)), (.int (own_b0 cz4)), (.int (own_b1 cz4)), (.int (own_b0 cz5)), (.int (own_b1 cz5)), (.int (own_b0 cz6)), (.int (own_b1 cz6)), (.int (own_b0 cz7)), (.int (own_b1 cz7)), (.int (own_b0 cz8)), (.int (own_b1 cz8)), (.int (0 : Int32)), (.int (0 : Int32)), (.int (0 : Int32)), (.int (0 : Int32)), (.int (0 : Int32)), (.int (0 : Int32)), (.int (0 : Int32)), (.int (0 : Int32))] (.int (0 : Int32)) := q45_0
  show Wp p e below _ _ T45 (mkF m 23 #[.val (.ref b), .val (.int (8 : Int32)), .val (.int (13 : Int32)), .val (.ref t1), .val (.int (8 : Int32))] [])
  refine Wk.iinc X45 hx (Ls' := #[.val (.ref b), .val (.int (9 : Int32)), .val (.int (13 : Int32)), .val (.ref t1), .val (.int (8 : Int32))]) (hb hby d16_23) rfl rfl rfl ?_
  refine Wk.iinc X45 hx (Ls' := #[.val (.ref b), .val (.int (9 : Int32)), .val (.int (13 : Int32)), .val (.ref t1), .val (.int (9 : Int32))]) (hb hby d16_26) rfl rfl rfl ?_
  refine Wk.goto X45 hx (hb hby d16_29) (by decide) (q := 8) rfl ?_
  refine Wk.iload X45 hx (hb hby d16_8) rfl rfl ?_
  refine Wk.iloadN X45 hx (hb hby d16_10) rfl rfl ?_
  refine Wk.icmpNo X45 hx (hb hby d16_11) rfl (tlt (by decide : (9 : Int32) < (13 : Int32))).2.1 ?_
  refine Wk.aloadN X45 hx (hb hby d16_14) rfl rfl rfl ?_
  refine Wk.iload X45 hx (hb hby d16_15) rfl rfl ?_
  refine Wk.aloadN X45 hx (hb hby d16_17) rfl rfl rfl ?_
  refine Wk.iloadN X45 hx (hb hby d16_18) rfl rfl ?_
  have KK48 : Keep h0 h45 [] := (KK43.trans K45 (allS (Or.inr q1_0) all0))
  have f49 := (hA.keep KK48 nin0)
  refine Wk.caload X45 hx hZ e45 f49 (by decide) (by decide) (v := cz9) rfl (hb hby d16_19) rfl ?_
  refine Wk.callS X45 hx hZ hown (w 98 _ rfl) (w 99 _ rfl) (w 49 _ rfl) (w 100 _ rfl) (by decide) (as' := [(.ref t1), (.int (9 : Int32)), (.int cz9)]) (backOf (W := 0) (rm_put l Z a0 hw [] t1 (9 : Int32) cz9 kb1 (26 : Int32) _ 18 h45 O46 sH sL sA Vl47 (by decide) (by decide) (by decide) (by decide) (by decide) (by decide) (Nat.le_of_ble_eq_true rfl) (Nat.le_trans (Nat.le_trans (Nat.le_trans (Nat.le_of_eq O0.1.symm) O0.2.1) (Keep.refl h0 []).1) q1_0)) hZ (w 100 _ rfl) (w 49 _ rfl) (by decide) (by decide)) e45 (by rw [hml]; rfl) (rest := []) (lenOf pd10 rfl) rfl (Nat.le_of_eq rfl) (hb hby d16_20) rfl (by decide) (by decide) ?_
  intro T50 h50 v50 L50 X50 e50 hQ50
  obtain ⟨rfl, Nq50, K50, q50_0⟩ := hQ50
  have N50 := Fk.app N45 Nq50 KK48.1 (allS (Or.inr q1_0) all0)
  have O51 : Old Z Z.heap.size h50 := O46.keep K50 (allS (Nat.le_trans (Nat.le_trans (Nat.le_trans (Nat.le_of_eq O0.1.symm) O0.2.1) (Keep.refl h0 []).1) q1_0) all0)
  have Vl52 : Arv Z h50 t1 kb1 .byte (26 : Int32) [(.int (own_b0 cz0)), (.int (own_b1 cz0)), (.int (own_b0 cz1)), (.int (own_b1 cz1)), (.int (own_b0 cz2)), (.int (own_b1 cz2)), (.int (own_b0 cz3)), (.int (own_b1 cz3)), (.int (own_b0 cz4)), (.int (own_b1 cz4)), (.int (own_b0 cz5)), (.int (own_b1 cz5)), (.int (own_b0 cz6)), (.int (own_b1 cz6)), (.int (own_b0 cz7)), (.int (own_b1 cz7)), (.int (own_b0 cz8)), (.int (own_b1 cz8)), (.int (own_b0 cz9)), (.int (own_b1 cz9)), (.int (0 : Int32)), (.int (0 : Int32)), (.int (0 : Int32)), (.int (0 : Int32)), (.int (0 : Int32)), (.int (0 : Int32))] (.int (0 : Int32)) := q50_0
  show Wp p e below _ _ T50 (mkF m 23 #[.val (.ref b), .val (.int (9 : Int32)), .val (.int (13 : Int32)), .val (.ref t1), .val (.int (9 : Int32))] [])
  refine Wk.iinc X50 hx (Ls' := #[.val (.ref b), .val (.int (10 : Int32)), .val (.int (13 : Int32)), .val (.ref t1), .val (.int (9 : Int32))]) (hb hby d16_23) rfl rfl rfl ?_
  refine Wk.iinc X50 hx (Ls' := #[.val (.ref b), .val (.int (10 : Int32)), .val (.int (13 : Int32)), .val (.ref t1), .val (.int (10 : Int32))]) (hb hby d16_26) rfl rfl rfl ?_
  refine Wk.goto X50 hx (hb hby d16_29) (by decide) (q := 8) rfl ?_
  refine Wk.iload X50 hx (hb hby d16_8) rfl rfl ?_
  refine Wk.iloadN X50 hx (hb hby d16_10) rfl rfl ?_
  refine Wk.icmpNo X50 hx (hb hby d16_11) rfl (tlt (by decide : (10 : Int32) < (13 : Int32))).2.1 ?_
  refine Wk.aloadN X50 hx (hb hby d16_14) rfl rfl rfl ?_
  refine Wk.iload X50 hx (hb hby d16_15) rfl rfl ?_
  refine Wk.aloadN X50 hx (hb hby d16_17) rfl rfl rfl ?_
  refine Wk.iloadN X50 hx (hb hby d16_18) rfl rfl ?_
  have KK53 : Keep h0 h50 [] := (KK48.trans K50 (allS (Or.inr q1_0) all0))
  have f54 := (hA.keep KK53 nin0)
  refine Wk.caload X50 hx hZ e50 f54 (by decide) (by decide) (v := cz10) rfl (hb hby d16_19) rfl ?_
  refine Wk.callS X50 hx hZ hown (w 98 _ rfl) (w 99 _ rfl) (w 49 _ rfl) (w 100 _ rfl) (by decide) (as' := [(.ref t1), (.int (10 : Int32)), (.int cz10)]) (backOf (W := 0) (rm_put l Z a0 hw [] t1 (10 : Int32) cz10 kb1 (26 : Int32) _ 20 h50 O51 sH sL sA Vl52 (by decide) (by decide) (by decide) (by decide) (by decide) (by decide) (Nat.le_of_ble_eq_true rfl) (Nat.le_trans (Nat.le_trans (Nat.le_trans (Nat.le_of_eq O0.1.symm) O0.2.1) (Keep.refl h0 []).1) q1_0)) hZ (w 100 _ rfl) (w 49 _ rfl) (by decide) (by decide)) e50 (by rw [hml]; rfl) (rest := []) (lenOf pd10 rfl) rfl (Nat.le_of_eq rfl) (hb hby d16_20) rfl (by decide) (by decide) ?_
  intro T55 h55 v55 L55 X55 e55 hQ55
  obtain ⟨rfl, Nq55, K55, q55_0⟩ := hQ55
  have N55 := Fk.app N50 Nq55 KK53.1 (allS (Or.inr q1_0) all0)
  have O56 : Old Z Z.heap.size h55 := O51.keep K55 (allS (Nat.le_trans (Nat.le_trans (Nat.le_trans (Nat.le_of_eq O0.1.symm) O0.2.1) (Keep.refl h0 []).1) q1_0) all0)
  have Vl57 : Arv Z h55 t1 kb1 .byte (26 : Int32) [(.int (own_b0 cz0)), (.int (own_b1 cz0)), (.int (own_b0 cz1)), (.int (own_b1 cz1)), (.int (own_b0 cz2)), (.int (own_b1 cz2)), (.int (own_b0 cz3)), (.int (own_b1 cz3)), (.int (own_b0 cz4)), (.int (own_b1 cz4)), (.int (own_b0 cz5)), (.int (own_b1 cz5)), (.int (own_b0 cz6)), (.int (own_b1 cz6)), (.int (own_b0 cz7)), (.int (own_b1 cz7)), (.int (own_b0 cz8)), (.int (own_b1 cz8)), (.int (own_b0 cz9)), (.int (own_b1 cz9)), (.int (own_b0 cz10)), (.int (own_b1 cz10)), (.int (0 : Int32)), (.int (0 : Int32)), (.int (0 : Int32)), (.int (0 : Int32))] (.int (0 : Int32)) := q55_0
  show Wp p e below _ _ T55 (mkF m 23 #[.val (.ref b), .val (.int (10 : Int32)), .val (.int (13 : Int32)), .val (.ref t1), .val (.int (10 : Int32))] [])
  refine Wk.iinc X55 hx (Ls' := #[.val (.ref b), .val (.int (11 : Int32)), .val (.int (13 : Int32)), .val (.ref t1), .val (.int (10 : Int32))]) (hb hby d16_23) rfl rfl rfl ?_
  refine Wk.iinc X55 hx (Ls' := #[.val (.ref b), .val (.int (11 : Int32)), .val (.int (13 : Int32)), .val (.ref t1), .val (.int (11 : Int32))]) (hb hby d16_26) rfl rfl rfl ?_
  refine Wk.goto X55 hx (hb hby d16_29) (by decide) (q := 8) rfl ?_
  refine Wk.iload X55 hx (hb hby d16_8) rfl rfl ?_
  refine Wk.iloadN X55 hx (hb hby d16_10) rfl rfl ?_
  refine Wk.icmpNo X55 hx (hb hby d16_11) rfl (tlt (by decide : (11 : Int32) < (13 : Int32))).2.1 ?_
  refine Wk.aloadN X55 hx (hb hby d16_14) rfl rfl rfl ?_
  refine Wk.iload X55 hx (hb hby d16_15) rfl rfl ?_
  refine Wk.aloadN X55 hx (hb hby d16_17) rfl rfl rfl ?_
  refine Wk.iloadN X55 hx (hb hby d16_18) rfl rfl ?_
  have KK58 : Keep h0 h55 [] := (KK53.trans K55 (allS (Or.inr q1_0) all0))
  have f59 := (hA.keep KK58 nin0)
  refine Wk.caload X55 hx hZ e55 f59 (by decide) (by decide) (v := cz11) rfl (hb hby d16_19) rfl ?_
  refine Wk.callS X55 hx hZ hown (w 98 _ rfl) (w 99 _ rfl) (w 49 _ rfl) (w 100 _ rfl) (by decide) (as' := [(.ref t1), (.int (11 : Int32)), (.int cz11)]) (backOf (W := 0) (rm_put l Z a0 hw [] t1 (11 : Int32) cz11 kb1 (26 : Int32) _ 22 h55 O56 sH sL sA Vl57 (by decide) (by decide) (by decide) (by decide) (by decide) (by decide) (Nat.le_of_ble_eq_true rfl) (Nat.le_trans (Nat.le_trans (Nat.le_trans (Nat.le_of_eq O0.1.symm) O0.2.1) (Keep.refl h0 []).1) q1_0)) hZ (w 100 _ rfl) (w 49 _ rfl) (by decide) (by decide)) e55 (by rw [hml]; rfl) (rest := []) (lenOf pd10 rfl) rfl (Nat.le_of_eq rfl) (hb hby d16_20) rfl (by decide) (by decide) ?_
  intro T60 h60 v60 L60 X60 e60 hQ60
  obtain ⟨rfl, Nq60, K60, q60_0⟩ := hQ60
  have N60 := Fk.app N55 Nq60 KK58.1 (allS (Or.inr q1_0) all0)
  have O61 : Old Z Z.heap.size h60 := O56.keep K60 (allS (Nat.le_trans (Nat.le_trans (Nat.le_trans (Nat.le_of_eq O0.1.symm) O0.2.1) (Keep.refl h0 []).1) q1_0) all0)
  have Vl62 : Arv Z h60 t1 kb1 .byte (26 : Int32) [(.int (own_b0 cz0)), (.int (own_b1 cz0)), (.int (own_b0 cz1)), (.int (own_b1 cz1)), (.int (own_b0 cz2)), (.int (own_b1 cz2)), (.int (own_b0 cz3)), (.int (own_b1 cz3)), (.int (own_b0 cz4)), (.int (own_b1 cz4)), (.int (own_b0 cz5)), (.int (own_b1 cz5)), (.int (own_b0 cz6)), (.int (own_b1 cz6)), (.int (own_b0 cz7)), (.int (own_b1 cz7)), (.int (own_b0 cz8)), (.int (own_b1 cz8)), (.int (own_b0 cz9)), (.int (own_b1 cz9)), (.int (own_b0 cz10)), (.int (own_b1 cz10)), (.int (own_b0 cz11)), (.int (own_b1 cz11)), (.int (0 : Int32)), (.int (0 : Int32))] (.int (0 : Int32)) := q60_0
  show Wp p e below _ _ T60 (mkF m 23 #[.val (.ref b), .val (.int (11 : Int32)), .val (.int (13 : Int32)), .val (.ref t1), .val (.int (11 : Int32))] [])
  refine Wk.iinc X60 hx (Ls' := #[.val (.ref b), .val (.int (12 : Int32)), .val (.int (13 : Int32)), .val (.ref t1), .val (.int (11 : Int32))]) (hb hby d16_23) rfl rfl rfl ?_
  refine Wk.iinc X60 hx (Ls' := #[.val (.ref b), .val (.int (12 : Int32)), .val (.int (13 : Int32)), .val (.ref t1), .val (.int (12 : Int32))]) (hb hby d16_26) rfl rfl rfl ?_
  refine Wk.goto X60 hx (hb hby d16_29) (by decide) (q := 8) rfl ?_
  refine Wk.iload X60 hx (hb hby d16_8) rfl rfl ?_
  refine Wk.iloadN X60 hx (hb hby d16_10) rfl rfl ?_
  refine Wk.icmpNo X60 hx (hb hby d16_11) rfl (tlt (by decide : (12 : Int32) < (13 : Int32))).2.1 ?_
  refine Wk.aloadN X60 hx (hb hby d16_14) rfl rfl rfl ?_
  refine Wk.iload X60 hx (hb hby d16_15) rfl rfl ?_
  refine Wk.aloadN X60 hx (hb hby d16_17) rfl rfl rfl ?_
  refine Wk.iloadN X60 hx (hb hby d16_18) rfl rfl ?_
  have KK63 : Keep h0 h60 [] := (KK58.trans K60 (allS (Or.inr q1_0) all0))
  have f64 := (hA.keep KK63 nin0)
  refine Wk.caload X60 hx hZ e60 f64 (by decide) (by decide) (v := cz12) rfl (hb hby d16_19) rfl ?_
  refine Wk.callS X60 hx hZ hown (w 98 _ rfl) (w 99 _ rfl) (w 49 _ rfl) (w 100 _ rfl) (by decide) (as' := [(.ref t1), (.int (12 : Int32)), (.int cz12)]) (backOf (W := 0) (rm_put l Z a0 hw [] t1 (12 : Int32) cz12 kb1 (26 : Int32) _ 24 h60 O61 sH sL sA Vl62 (by decide) (by decide) (by decide) (by decide) (by decide) (by decide) (Nat.le_of_ble_eq_true rfl) (Nat.le_trans (Nat.le_trans (Nat.le_trans (Nat.le_of_eq O0.1.symm) O0.2.1) (Keep.refl h0 []).1) q1_0)) hZ (w 100 _ rfl) (w 49 _ rfl) (by decide) (by decide)) e60 (by rw [hml]; rfl) (rest := []) (lenOf pd10 rfl) rfl (Nat.le_of_eq rfl) (hb hby d16_20) rfl (by decide) (by decide) ?_
  intro T65 h65 v65 L65 X65 e65 hQ65
  obtain ⟨rfl, Nq65, K65, q65_0⟩ := hQ65
  have N65 := Fk.app N60 Nq65 KK63.1 (allS (Or.inr q1_0) all0)
  have O66 : Old Z Z.heap.size h65 := O61.keep K65 (allS (Nat.le_trans (Nat.le_trans (Nat.le_trans (Nat.le_of_eq O0.1.symm) O0.2.1) (Keep.refl h0 []).1) q1_0) all0)
  have Vl67 : Arv Z h65 t1 kb1 .byte (26 : Int32) [(.int (own_b0 cz0)), (.int (own_b1 cz0)), (.int (own_b0 cz1)), (.int (own_b1 cz1)), (.int (own_b0 cz2)), (.int (own_b1 cz2)), (.int (own_b0 cz3)), (.int (own_b1 cz3)), (.int (own_b0 cz4)), (.int (own_b1 cz4)), (.int (own_b0 cz5)), (.int (own_b1 cz5)), (.int (own_b0 cz6)), (.int (own_b1 cz6)), (.int (own_b0 cz7)), (.int (own_b1 cz7)), (.int (own_b0 cz8)), (.int (own_b1 cz8)), (.int (own_b0 cz9)), (.int (own_b1 cz9)), (.int (own_b0 cz10)), (.int (own_b1 cz10)), (.int (own_b0 cz11)), (.int (own_b1 cz11)), (.int (own_b0 cz12)), (.int (own_b1 cz12))] (.int (0 : Int32)) := q65_0
  show Wp p e below _ _ T65 (mkF m 23 #[.val (.ref b), .val (.int (12 : Int32)), .val (.int (13 : Int32)), .val (.ref t1), .val (.int (12 : Int32))] [])
  refine Wk.iinc X65 hx (Ls' := #[.val (.ref b), .val (.int (13 : Int32)), .val (.int (13 : Int32)), .val (.ref t1), .val (.int (12 : Int32))]) (hb hby d16_23) rfl rfl rfl ?_
  refine Wk.iinc X65 hx (Ls' := #[.val (.ref b), .val (.int (13 : Int32)), .val (.int (13 : Int32)), .val (.ref t1), .val (.int (13 : Int32))]) (hb hby d16_26) rfl rfl rfl ?_
  refine Wk.goto X65 hx (hb hby d16_29) (by decide) (q := 8) rfl ?_
  refine Wk.iload X65 hx (hb hby d16_8) rfl rfl ?_
  refine Wk.iloadN X65 hx (hb hby d16_10) rfl rfl ?_
  refine Wk.icmpYes X65 hx (hb hby d16_11) (by decide) (q := 32) rfl (flt (by decide : ¬ ((13 : Int32) < (13 : Int32)))).2.1 ?_
  refine Wk.aloadN X65 hx (hb hby d16_32) rfl rfl rfl ?_
  have KK68 : Keep h0 h65 [] := (KK63.trans K65 (allS (Or.inr q1_0) all0))
  exact Wk.retA' X65 hx hlk hr rfl rfl (hb hby d16_33) (by decide) (by decide) (Qc := Q_rm_tob13 Z b kc cz0 cz1 cz2 cz3 cz4 cz5 cz6 cz7 cz8 cz9 cz10 cz11 cz12 h0) e65 ⟨t1, kb1, rfl, N65, KK68, q1_0, Vl67⟩
def Q_rm_cfa13 (Z : State) (t : Addr) (kb : ClassId) (vs : List Value) (h0 : Heap) (v : Option Value) (h : Heap) (L : List Loc) : Prop := v = some (.int (1 : Int32)) ∧ Fk h0.size [] L ∧ h = h0
set_option maxRecDepth 65536 in
set_option maxHeartbeats 40000000 in
theorem rm_cfa13 (l : Launch) (Z : State) (a0 : Array Value) (hw : ∀ d ∈ tables_1, d.before a0 Z = true) (ws : List Jvm.Cond) (t : Addr) (kb : ClassId) (vs : List Value) (h0 : Heap) (O0 : Old Z Z.heap.size h0) (hA : Arv Z h0 t kb .byte (26 : Int32) vs (.int (0 : Int32))) :
    Ctr l Z (⟨"java/lang/StringUTF16", "coderFromArrayLen", "([BI)B"⟩ : MethodName) jdk_52_method_15_code 2 (some .byte) ws ({ frames := 0, cells := 0, slots := 0, locals := 0 } : Room) #[(.ref t), (.int (13 : Int32))] h0 (Q_rm_cfa13 Z t kb vs h0) := by
  refine Ctr.intro (Ls := fun _ => #[.val (.ref t), .val (.int (13 : Int32))]) (plainFor_of_name pn7) (fun m => by first | rfl | (simp [entryFrame, mkF, argsToLocals, Value.category]; done)) ?_
  intro p e s m below meth c s₁ hx hby hml hr hlk hZ hown hnm hs0 X0 e0
  have w : ∀ (k : Nat) (d : Jvm.Cond), tables_1[k]? = some d → d.before a0 Z = true := fun k d q => hw d (List.mem_of_getElem? q)
  have N0 := Fk.nil h0.size []
  refine Wk.iloadN X0 hx (hb hby d11_0) rfl rfl ?_
  refine Wk.aloadN X0 hx (hb hby d11_1) rfl rfl rfl ?_
  refine Wk.arraylength X0 hx hZ e0 hA (hb hby d11_2) rfl ?_
  refine Wk.isub X0 hx (hb hby d11_3) rfl ?_
  rw [(by decide : (((13 : Int32) - (26 : Int32)) : Int32) = (-13 : Int32))]
  refine Wk.bipush X0 hx (v := (31 : Int32)) (hb hby d11_4) rfl rfl ?_
  refine Wk.iushr X0 hx (hb hby d11_6) rfl ?_
  rw [(by decide : ((((-13 : Int32).toUInt32 >>> ((31 : Int32) &&& 31).toUInt32).toInt32) : Int32) = (1 : Int32))]
  refine Wk.i2b X0 hx (hb hby d11_7) rfl ?_
  intro c1 hc1
  obtain rfl : c1 = (1 : Int32) := hc1.trans (by decide)
  exact Wk.retZ' X0 hx hlk hr (by simp) (hb hby d11_8) (by decide) (by decide) (Qc := Q_rm_cfa13 Z t kb vs h0) e0 ⟨rfl, N0, rfl⟩
def Q_rm_cp5_13 (Z : State) (b : Addr) (kc : ClassId) (t : Addr) (kb : ClassId) (cz0 : Int32) (cz1 : Int32) (cz2 : Int32) (cz3 : Int32) (cz4 : Int32) (cz5 : Int32) (cz6 : Int32) (cz7 : Int32) (cz8 : Int32) (cz9 : Int32) (cz10 : Int32) (cz11 : Int32) (cz12 : Int32) (h0 : Heap) (v : Option Value) (h : Heap) (L : List Loc) : Prop := ∃ r : Int32, v = some (.int r) ∧ Fk h0.size [t] L ∧ Keep h0 h [t] ∧ Fst13 cz0 cz1 cz2 cz3 cz4 cz5 cz6 cz7 cz8 cz9 cz10 cz11 cz12 r
set_option maxRecDepth 65536 in
set_option maxHeartbeats 40000000 in
theorem rm_cp5_13 (l : Launch) (Z : State) (a0 : Array Value) (hw : ∀ d ∈ tables_1, d.before a0 Z = true) (ws : List Jvm.Cond) (b : Addr) (kc : ClassId) (t : Addr) (kb : ClassId) (cz0 : Int32) (cz1 : Int32) (cz2 : Int32) (cz3 : Int32) (cz4 : Int32) (cz5 : Int32) (cz6 : Int32) (cz7 : Int32) (cz8 : Int32) (cz9 : Int32) (cz10 : Int32) (cz11 : Int32) (cz12 : Int32) (h0 : Heap) (O0 : Old Z Z.heap.size h0) (hA : Arv Z h0 b kc .char (13 : Int32) [(.int cz0), (.int cz1), (.int cz2), (.int cz3), (.int cz4), (.int cz5), (.int cz6), (.int cz7), (.int cz8), (.int cz9), (.int cz10), (.int cz11), (.int cz12)] (.int (0 : Int32))) (hT : Arv Z h0 t kb .byte (13 : Int32) [(.int (0 : Int32)), (.int (0 : Int32)), (.int (0 : Int32)), (.int (0 : Int32)), (.int (0 : Int32)), (.int (0 : Int32)), (.int (0 : Int32)), (.int (0 : Int32)), (.int (0 : Int32)), (.int (0 : Int32)), (.int (0 : Int32)), (.int (0 : Int32)), (.int (0 : Int32))] (.int (0 : Int32))) (ht : Z.heap.size ≤ t) (hbt : b ≠ t) (hNL : NL13 cz0 cz1 cz2 cz3 cz4 cz5 cz6 cz7 cz8 cz9 cz10 cz11 cz12) :
    Ctr l Z (⟨"java/lang/StringUTF16", "compress", "([CI[BII)I"⟩ : MethodName) jdk_52_method_21_code 7 (some .int) ws ({ frames := 0, cells := 0, slots := 0, locals := 0 } : Room) #[(.ref b), (.int (0 : Int32)), (.ref t), (.int (0 : Int32)), (.int (13 : Int32))] h0 (Q_rm_cp5_13 Z b kc t kb cz0 cz1 cz2 cz3 cz4 cz5 cz6 cz7 cz8 cz9 cz10 cz11 cz12 h0) := by
  refine Ctr.intro (Ls := fun _ => #[.val (.ref b), .val (.int (0 : Int32)), .val (.ref t), .val (.int (0 : Int32)), .val (.int (13 : Int32)), .unset, .unset]) (plainFor_of_name pn7) (fun m => by first | rfl | (simp [entryFrame, mkF, argsToLocals, Value.category]; done)) ?_
  intro p e s m below meth c s₁ hx hby hml hr hlk hZ hown hnm hs0 X0 e0
  have w : ∀ (k : Nat) (d : Jvm.Cond), tables_1[k]? = some d → d.before a0 Z = true := fun k d q => hw d (List.mem_of_getElem? q)
  have N0 := Fk.nil h0.size [t]
  refine Wk.iconst X0 hx (v := (0 : Int32)) (hb hby d10_0) rfl rfl ?_
  refine Wk.istore X0 hx (Ls' := #[.val (.ref b), .val (.int (0 : Int32)), .val (.ref t), .val (.int (0 : Int32)), .val (.int (13 : Int32)), .val (.int (0 : Int32)), .unset]) (hb hby d10_1) rfl rfl ?_
  refine Wk.iload X0 hx (hb hby d10_3) rfl rfl ?_
  refine Wk.iload X0 hx (hb hby d10_5) rfl rfl ?_
  refine Wk.icmpNo X0 hx (hb hby d10_7) rfl (tlt (by decide : (0 : Int32) < (13 : Int32))).2.1 ?_
  refine Wk.aloadN X0 hx (hb hby d10_10) rfl rfl rfl ?_
  refine Wk.iloadN X0 hx (hb hby d10_11) rfl rfl ?_
  refine Wk.caload X0 hx hZ e0 hA (by decide) (by decide) (v := cz0) rfl (hb hby d10_12) rfl ?_
  refine Wk.istore X0 hx (Ls' := #[.val (.ref b), .val (.int (0 : Int32)), .val (.ref t), .val (.int (0 : Int32)), .val (.int (13 : Int32)), .val (.int (0 : Int32)), .val (.int cz0)]) (hb hby d10_13) rfl rfl ?_
  refine Wk.iload X0 hx (hb hby d10_15) rfl rfl ?_
  refine Wk.sipush X0 hx (v := (255 : Int32)) (hb hby d10_17) rfl rfl ?_
  by_cases hc1 : (255 : Int32) < cz0
  · skip
    refine Wk.icmpNo X0 hx (hb hby d10_20) rfl (tlt hc1).2.2.2 ?_
    refine Wk.iload X0 hx (hb hby d10_23) rfl rfl ?_
    exact Wk.retI' X0 hx hlk hr (hb hby d10_25) (by decide) (by decide) (Qc := Q_rm_cp5_13 Z b kc t kb cz0 cz1 cz2 cz3 cz4 cz5 cz6 cz7 cz8 cz9 cz10 cz11 cz12 h0) e0 ⟨(0 : Int32), rfl, N0, (Keep.refl h0 [t]), (Or.inl ⟨hc1, rfl⟩)⟩
  refine Wk.icmpYes X0 hx (hb hby d10_20) (by decide) (q := 26) rfl (flt hc1).2.2.2 ?_
  refine Wk.aloadN X0 hx (hb hby d10_26) rfl rfl rfl ?_
  refine Wk.iloadN X0 hx (hb hby d10_27) rfl rfl ?_
  refine Wk.iload X0 hx (hb hby d10_28) rfl rfl ?_
  refine Wk.i2b X0 hx (hb hby d10_30) rfl ?_
  intro c2 hc2
  refine Wk.bastore X0 hx hZ e0 hT (by decide) (by decide) 0 rfl (Nat.le_of_ble_eq_true rfl) (w := (nar .byte c2)) rfl (hb hby d10_31) rfl ?_
  intro T3 h3 L3 M3 X3 e3 W3 A3
  have N3 := M3 _ _ N0 (Or.inl (List.mem_of_getElem? (i := 0) rfl))
  have O4 : Old Z Z.heap.size h3 := O0.wr W3 ht
  have V3 : Arv Z h3 t kb .byte (13 : Int32) [(.int (nar .byte c2)), (.int (0 : Int32)), (.int (0 : Int32)), (.int (0 : Int32)), (.int (0 : Int32)), (.int (0 : Int32)), (.int (0 : Int32)), (.int (0 : Int32)), (.int (0 : Int32)), (.int (0 : Int32)), (.int (0 : Int32)), (.int (0 : Int32)), (.int (0 : Int32))] (.int (0 : Int32)) := A3
  refine Wk.iinc X3 hx (Ls' := #[.val (.ref b), .val (.int (1 : Int32)), .val (.ref t), .val (.int (0 : Int32)), .val (.int (13 : Int32)), .val (.int (0 : Int32)), .val (.int cz0)]) (hb hby d10_32) rfl rfl rfl ?_
  refine Wk.iinc X3 hx (Ls' := #[.val (.ref b), .val (.int (1 : Int32)), .val (.ref t), .val (.int (1 : Int32)), .val (.int (13 : Int32)), .val (.int (0 : Int32)), .val (.int cz0)]) (hb hby d10_35) rfl rfl rfl ?_
  refine Wk.iinc X3 hx (Ls' := #[.val (.ref b), .val (.int (1 : Int32)), .val (.ref t), .val (.int (1 : Int32)), .val (.int (13 : Int32)), .val (.int (1 : Int32)), .val (.int cz0)]) (hb hby d10_38) rfl rfl rfl ?_
  refine Wk.goto X3 hx (hb hby d10_41) (by decide) (q := 3) rfl ?_
  have KK5 : Keep h0 h3 [t] := ((Keep.refl h0 [t]).wr W3 (Or.inl (List.mem_of_getElem? (i := 0) rfl)))
  refine Wk.iload X3 hx (hb hby d10_3) rfl rfl ?_
  refine Wk.iload X3 hx (hb hby d10_5) rfl rfl ?_
  refine Wk.icmpNo X3 hx (hb hby d10_7) rfl (tlt (by decide : (1 : Int32) < (13 : Int32))).2.1 ?_
  refine Wk.aloadN X3 hx (hb hby d10_10) rfl rfl rfl ?_
  refine Wk.iloadN X3 hx (hb hby d10_11) rfl rfl ?_
  have f6 := (hA.keep KK5 (ninS hbt nin0))
  refine Wk.caload X3 hx hZ e3 f6 (by decide) (by decide) (v := cz1) rfl (hb hby d10_12) rfl ?_
  refine Wk.istore X3 hx (Ls' := #[.val (.ref b), .val (.int (1 : Int32)), .val (.ref t), .val (.int (1 : Int32)), .val (.int (13 : Int32)), .val (.int (1 : Int32)), .val (.int cz1)]) (hb hby d10_13) rfl rfl ?_
  refine Wk.iload X3 hx (hb hby d10_15) rfl rfl ?_
  refine Wk.sipush X3 hx (v := (255 : Int32)) (hb hby d10_17) rfl rfl ?_
  by_cases hc7 : (255 : Int32) < cz1
  · skip
    refine Wk.icmpNo X3 hx (hb hby d10_20) rfl (tlt hc7).2.2.2 ?_
    refine Wk.iload X3 hx (hb hby d10_23) rfl rfl ?_
    exact Wk.retI' X3 hx hlk hr (hb hby d10_25) (by decide) (by decide) (Qc := Q_rm_cp5_13 Z b kc t kb cz0 cz1 cz2 cz3 cz4 cz5 cz6 cz7 cz8 cz9 cz10 cz11 cz12 h0) e3 ⟨(1 : Int32), rfl, N3, KK5, (Or.inr (Or.inl ⟨hc7, rfl⟩))⟩
  refine Wk.icmpYes X3 hx (hb hby d10_20) (by decide) (q := 26) rfl (flt hc7).2.2.2 ?_
  refine Wk.aloadN X3 hx (hb hby d10_26) rfl rfl rfl ?_
  refine Wk.iloadN X3 hx (hb hby d10_27) rfl rfl ?_
  refine Wk.iload X3 hx (hb hby d10_28) rfl rfl ?_
  refine Wk.i2b X3 hx (hb hby d10_30) rfl ?_
  intro c8 hc8
  refine Wk.bastore X3 hx hZ e3 V3 (by decide) (by decide) 1 rfl (Nat.le_of_ble_eq_true rfl) (w := (nar .byte c8)) rfl (hb hby d10_31) rfl ?_
  intro T9 h9 L9 M9 X9 e9 W9 A9
  have N9 := M9 _ _ N3 (Or.inl (List.mem_of_getElem? (i := 0) rfl))
  have O10 : Old Z Z.heap.size h9 := O4.wr W9 ht
  have V9 : Arv Z h9 t kb .byte (13 : Int32) [(.int (nar .byte c2)), (.int (nar .byte c8)), (.int (0 : Int32)), (.int (0 : Int32)), (.int (0 : Int32)), (.int (0 : Int32)), (.int (0 : Int32)), (.int (0 : Int32)), (.int (0 : Int32)), (.int (0 : Int32)), (.int (0 : Int32)), (.int (0 : Int32)), (.int (0 : Int32))] (.int (0 : Int32)) := A9
  refine Wk.iinc X9 hx (Ls' := #[.val (.ref b), .val (.int (2 : Int32)), .val (.ref t), .val (.int (1 : Int32)), .val (.int (13 : Int32)), .val (.int (1 : Int32)), .val (.int cz1)]) (hb hby d10_32) rfl rfl rfl ?_
  refine Wk.iinc X9 hx (Ls' := #[.val (.ref b), .val (.int (2 : Int32)), .val (.ref t), .val (.int (2 : Int32)), .val (.int (13 : Int32)), .val (.int (1 : Int32)), .val (.int cz1)]) (hb hby d10_35) rfl rfl rfl ?_
  refine Wk.iinc X9 hx (Ls' := #[.val (.ref b), .val (.int (2 : Int32)), .val (.ref t), .val (.int (2 : Int32)), .val (.int (13 : Int32)), .val (.int (2 : Int32)), .val (.int cz1)]) (hb hby d10_38) rfl rfl rfl ?_
  refine Wk.goto X9 hx (hb hby d10_41) (by decide) (q := 3) rfl ?_
  have KK11 : Keep h0 h9 [t] := (KK5.wr W9 (Or.inl (List.mem_of_getElem? (i := 0) rfl)))
  refine Wk.iload X9 hx (hb hby d10_3) rfl rfl ?_
  refine Wk.iload X9 hx (hb hby d10_5) rfl rfl ?_
  refine Wk.icmpNo X9 hx (hb hby d10_7) rfl (tlt (by decide : (2 : Int32) < (13 : Int32))).2.1 ?_
  refine Wk.aloadN X9 hx (hb hby d10_10) rfl rfl rfl ?_
  refine Wk.iloadN X9 hx (hb hby d10_11) rfl rfl ?_
  have KK12 : Keep h3 h9 [t] := ((Keep.refl h3 [t]).wr W9 (Or.inl (List.mem_of_getElem? (i := 0) rfl)))
  have f13 := (f6.keep KK12 (ninS hbt nin0))
  refine Wk.caload X9 hx hZ e9 f13 (by decide) (by decide) (v := cz2) rfl (hb hby d10_12) rfl ?_
  refine Wk.istore X9 hx (Ls' := #[.val (.ref b), .val (.int (2 : Int32)), .val (.ref t), .val (.int (2 : Int32)), .val (.int (13 : Int32)), .val (.int (2 : Int32)), .val (.int cz2)]) (hb hby d10_13) rfl rfl ?_
  refine Wk.iload X9 hx (hb hby d10_15) rfl rfl ?_
  refine Wk.sipush X9 hx (v := (255 : Int32)) (hb hby d10_17) rfl rfl ?_
  by_cases hc14 : (255 : Int32) < cz2
  · skip
    refine Wk.icmpNo X9 hx (hb hby d10_20) rfl (tlt hc14).2.2.2 ?_
    refine Wk.iload X9 hx (hb hby d10_23) rfl rfl ?_
    exact Wk.retI' X9 hx hlk hr (hb hby d10_25) (by decide) (by decide) (Qc := Q_rm_cp5_13 Z b kc t kb cz0 cz1 cz2 cz3 cz4 cz5 cz6 cz7 cz8 cz9 cz10 cz11 cz12 h0) e9 ⟨(2 : Int32), rfl, N9, KK11, (Or.inr (Or.inr (Or.inl ⟨hc14, rfl⟩)))⟩
  refine Wk.icmpYes X9 hx (hb hby d10_20) (by decide) (q := 26) rfl (flt hc14).2.2.2 ?_
  refine Wk.aloadN X9 hx (hb hby d10_26) rfl rfl rfl ?_
  refine Wk.iloadN X9 hx (hb hby d10_27) rfl rfl ?_
  refine Wk.iload X9 hx (hb hby d10_28) rfl rfl ?_
  refine Wk.i2b X9 hx (hb hby d10_30) rfl ?_
  intro c15 hc15
  refine Wk.bastore X9 hx hZ e9 V9 (by decide) (by decide) 2 rfl (Nat.le_of_ble_eq_true rfl) (w := (nar .byte c15)) rfl (hb hby d10_31) rfl ?_
  intro T16 h16 L16 M16 X16 e16 W16 A16
  have N16 := M16 _ _ N9 (Or.inl (List.mem_of_getElem? (i := 0) rfl))
  have O17 : Old Z Z.heap.size h16 := O10.wr W16 ht
  have V16 : Arv Z h16 t kb .byte (13 : Int32) [(.int (nar .byte c2)), (.int (nar .byte c8)), (.int (nar .byte c15)), (.int (0 : Int32)), (.int (0 : Int32)), (.int (0 : Int32)), (.int (0 : Int32)), (.int (0 : Int32)), (.int (0 : Int32)), (.int (0 : Int32)), (.int (0 : Int32)), (.int (0 : Int32)), (.int (0 : Int32))] (.int (0 : Int32)) := A16
  refine Wk.iinc X16 hx (Ls' := #[.val (.ref b), .val (.int (3 : Int32)), .val (.ref t), .val (.int (2 : Int32)), .val (.int (13 : Int32)), .val (.int (2 : Int32)), .val (.int cz2)]) (hb hby d10_32) rfl rfl rfl ?_
  refine Wk.iinc X16 hx (Ls' := #[.val (.ref b), .val (.int (3 : Int32)), .val (.ref t), .val (.int (3 : Int32)), .val (.int (13 : Int32)), .val (.int (2 : Int32)), .val (.int cz2)]) (hb hby d10_35) rfl rfl rfl ?_
  refine Wk.iinc X16 hx (Ls' := #[.val (.ref b), .val (.int (3 : Int32)), .val (.ref t), .val (.int (3 : Int32)), .val (.int (13 : Int32)), .val (.int (3 : Int32)), .val (.int cz2)]) (hb hby d10_38) rfl rfl rfl ?_
  refine Wk.goto X16 hx (hb hby d10_41) (by decide) (q := 3) rfl ?_
  have KK18 : Keep h0 h16 [t] := (KK11.wr W16 (Or.inl (List.mem_of_getElem? (i := 0) rfl)))
  refine Wk.iload X16 hx (hb hby d10_3) rfl rfl ?_
  refine Wk.iload X16 hx (hb hby d10_5) rfl rfl ?_
  refine Wk.icmpNo X16 hx (hb hby d10_7) rfl (tlt (by decide : (3 : Int32) < (13 : Int32))).2.1 ?_
  refine Wk.aloadN X16 hx (hb hby d10_10) rfl rfl rfl ?_
  refine Wk.iloadN X16 hx (hb hby d10_11) rfl rfl ?_
  have KK19 : Keep h9 h16 [t] := ((Keep.refl h9 [t]).wr W16 (Or.inl (List.mem_of_getElem? (i := 0) rfl)))
  have f20 := (f13.keep KK19 (ninS hbt nin0))
  refine Wk.caload X16 hx hZ e16 f20 (by decide) (by decide) (v := cz3) rfl (hb hby d10_12) rfl ?_
  refine Wk.istore X16 hx (Ls' := #[.val (.ref b), .val (.int (3 : Int32)), .val (.ref t), .val (.int (3 : Int32)), .val (.int (13 : Int32)), .val (.int (3 : Int32)), .val (.int cz3)]) (hb hby d10_13) rfl rfl ?_
  refine Wk.iload X16 hx (hb hby d10_15) rfl rfl ?_
  refine Wk.sipush X16 hx (v := (255 : Int32)) (hb hby d10_17) rfl rfl ?_
  by_cases hc21 : (255 : Int32) < cz3
  · skip
    refine Wk.icmpNo X16 hx (hb hby d10_20) rfl (tlt hc21).2.2.2 ?_
    refine Wk.iload X16 hx (hb hby d10_23) rfl rfl ?_
    exact Wk.retI' X16 hx hlk hr (hb hby d10_25) (by decide) (by decide) (Qc := Q_rm_cp5_13 Z b kc t kb cz0 cz1 cz2 cz3 cz4 cz5 cz6 cz7 cz8 cz9 cz10 cz11 cz12 h0) e16 ⟨(3 : Int32), rfl, N16, KK18, (Or.inr (Or.inr (Or.inr (Or.inl ⟨hc21, rfl⟩))))⟩
  refine Wk.icmpYes X16 hx (hb hby d10_20) (by decide) (q := 26) rfl (flt hc21).2.2.2 ?_
  refine Wk.aloadN X16 hx (hb hby d10_26) rfl rfl rfl ?_
  refine Wk.iloadN X16 hx (hb hby d10_27) rfl rfl ?_
  refine Wk.iload X16 hx (hb hby d10_28) rfl rfl ?_
  refine Wk.i2b X16 hx (hb hby d10_30) rfl ?_
  intro c22 hc22
  refine Wk.bastore X16 hx hZ e16 V16 (by decide) (by decide) 3 rfl (Nat.le_of_ble_eq_true rfl) (w := (nar .byte c22)) rfl (hb hby d10_31) rfl ?_
  intro T23 h23 L23 M23 X23 e23 W23 A23
  have N23 := M23 _ _ N16 (Or.inl (List.mem_of_getElem? (i := 0) rfl))
  have O24 : Old Z Z.heap.size h23 := O17.wr W23 ht
  have V23 : Arv Z h23 t kb .byte (13 : Int32) [(.int (nar .byte c2)), (.int (nar .byte c8)), (.int (nar .byte c15)), (.int (nar .byte c22)), (.int (0 : Int32)), (.int (0 : Int32)), (.int (0 : Int32)), (.int (0 : Int32)), (.int (0 : Int32)), (.int (0 : Int32)), (.int (0 : Int32)), (.int (0 : Int32)), (.int (0 : Int32))] (.int (0 : Int32)) := A23
  refine Wk.iinc X23 hx (Ls' := #[.val (.ref b), .val (.int (4 : Int32)), .val (.ref t), .val (.int (3 : Int32)), .val (.int (13 : Int32)), .val (.int (3 : Int32)), .val (.int cz3)]) (hb hby d10_32) rfl rfl rfl ?_
  refine Wk.iinc X23 hx (Ls' := #[.val (.ref b), .val (.int (4 : Int32)), .val (.ref t), .val (.int (4 : Int32)), .val (.int (13 : Int32)), .val (.int (3 : Int32)), .val (.int cz3)]) (hb hby d10_35) rfl rfl rfl ?_
  refine Wk.iinc X23 hx (Ls' := #[.val (.ref b), .val (.int (4 : Int32)), .val (.ref t), .val (.int (4 : Int32)), .val (.int (13 : Int32)), .val (.int (4 : Int32)), .val (.int cz3)]) (hb hby d10_38) rfl rfl rfl ?_
  refine Wk.goto X23 hx (hb hby d10_41) (by decide) (q := 3) rfl ?_
  have KK25 : Keep h0 h23 [t] := (KK18.wr W23 (Or.inl (List.mem_of_getElem? (i := 0) rfl)))
  refine Wk.iload X23 hx (hb hby d10_3) rfl rfl ?_
  refine Wk.iload X23 hx (hb hby d10_5) rfl rfl ?_
  refine Wk.icmpNo X23 hx (hb hby d10_7) rfl (tlt (by decide : (4 : Int32) < (13 : Int32))).2.1 ?_
  refine Wk.aloadN X23 hx (hb hby d10_10) rfl rfl rfl ?_
  refine Wk.iloadN X23 hx (hb hby d10_11) rfl rfl ?_
  have KK26 : Keep h16 h23 [t] := ((Keep.refl h16 [t]).wr W23 (Or.inl (List.mem_of_getElem? (i := 0) rfl)))
  have f27 := (f20.keep KK26 (ninS hbt nin0))
  refine Wk.caload X23 hx hZ e23 f27 (by decide) (by decide) (v := cz4) rfl (hb hby d10_12) rfl ?_
  refine Wk.istore X23 hx (Ls' := #[.val (.ref b), .val (.int (4 : Int32)), .val (.ref t), .val (.int (4 : Int32)), .val (.int (13 : Int32)), .val (.int (4 : Int32)), .val (.int cz4)]) (hb hby d10_13) rfl rfl ?_
  refine Wk.iload X23 hx (hb hby d10_15) rfl rfl ?_
  refine Wk.sipush X23 hx (v := (255 : Int32)) (hb hby d10_17) rfl rfl ?_
  by_cases hc28 : (255 : Int32) < cz4
  · skip
    refine Wk.icmpNo X23 hx (hb hby d10_20) rfl (tlt hc28).2.2.2 ?_
    refine Wk.iload X23 hx (hb hby d10_23) rfl rfl ?_
    exact Wk.retI' X23 hx hlk hr (hb hby d10_25) (by decide) (by decide) (Qc := Q_rm_cp5_13 Z b kc t kb cz0 cz1 cz2 cz3 cz4 cz5 cz6 cz7 cz8 cz9 cz10 cz11 cz12 h0) e23 ⟨(4 : Int32), rfl, N23, KK25, (Or.inr (Or.inr (Or.inr (Or.inr (Or.inl ⟨hc28, rfl⟩)))))⟩
  refine Wk.icmpYes X23 hx (hb hby d10_20) (by decide) (q := 26) rfl (flt hc28).2.2.2 ?_
  refine Wk.aloadN X23 hx (hb hby d10_26) rfl rfl rfl ?_
  refine Wk.iloadN X23 hx (hb hby d10_27) rfl rfl ?_
  refine Wk.iload X23 hx (hb hby d10_28) rfl rfl ?_
  refine Wk.i2b X23 hx (hb hby d10_30) rfl ?_
  intro c29 hc29
  refine Wk.bastore X23 hx hZ e23 V23 (by decide) (by decide) 4 rfl (Nat.le_of_ble_eq_true rfl) (w := (nar .byte c29)) rfl (hb hby d10_31) rfl ?_
  intro T30 h30 L30 M30 X30 e30 W30 A30
  have N30 := M30 _ _ N23 (Or.inl (List.mem_of_getElem? (i := 0) rfl))
  have O31 : Old Z Z.heap.size h30 := O24.wr W30 ht
  have V30 : Arv Z h30 t kb .byte (13 : Int32) [(.int (nar .byte c2)), (.int (nar .byte c8)), (.int (nar .byte c15)), (.int (nar .byte c22)), (.int (nar .byte c29)), (.int (0 : Int32)), (.int (0 : Int32)), (.int (0 : Int32)), (.int (0 : Int32)), (.int (0 : Int32)), (.int (0 : Int32)), (.int (0 : Int32)), (.int (0 : Int32))] (.int (0 : Int32)) := A30
  refine Wk.iinc X30 hx (Ls' := #[.val (.ref b), .val (.int (5 : Int32)), .val (.ref t), .val (.int (4 : Int32)), .val (.int (13 : Int32)), .val (.int (4 : Int32)), .val (.int cz4)]) (hb hby d10_32) rfl rfl rfl ?_
  refine Wk.iinc X30 hx (Ls' := #[.val (.ref b), .val (.int (5 : Int32)), .val (.ref t), .val (.int (5 : Int32)), .val (.int (13 : Int32)), .val (.int (4 : Int32)), .val (.int cz4)]) (hb hby d10_35) rfl rfl rfl ?_
  refine Wk.iinc X30 hx (Ls' := #[.val (.ref b), .val (.int (5 : Int32)), .val (.ref t), .val (.int (5 : Int32)), .val (.int (13 : Int32)), .val (.int (5 : Int32)), .val (.int cz4)]) (hb hby d10_38) rfl rfl rfl ?_
  refine Wk.goto X30 hx (hb hby d10_41) (by decide) (q := 3) rfl ?_
  have KK32 : Keep h0 h30 [t] := (KK25.wr W30 (Or.inl (List.mem_of_getElem? (i := 0) rfl)))
  refine Wk.iload X30 hx (hb hby d10_3) rfl rfl ?_
  refine Wk.iload X30 hx (hb hby d10_5) rfl rfl ?_
  refine Wk.icmpNo X30 hx (hb hby d10_7) rfl (tlt (by decide : (5 : Int32) < (13 : Int32))).2.1 ?_
  refine Wk.aloadN X30 hx (hb hby d10_10) rfl rfl rfl ?_
  refine Wk.iloadN X30 hx (hb hby d10_11) rfl rfl ?_
  have KK33 : Keep h23 h30 [t] := ((Keep.refl h23 [t]).wr W30 (Or.inl (List.mem_of_getElem? (i := 0) rfl)))
  have f34 := (f27.keep KK33 (ninS hbt nin0))
  refine Wk.caload X30 hx hZ e30 f34 (by decide) (by decide) (v := cz5) rfl (hb hby d10_12) rfl ?_
  refine Wk.istore X30 hx (Ls' := #[.val (.ref b), .val (.int (5 : Int32)), .val (.ref t), .val (.int (5 : Int32)), .val (.int (13 : Int32)), .val (.int (5 : Int32)), .val (.int cz5)]) (hb hby d10_13) rfl rfl ?_
  refine Wk.iload X30 hx (hb hby d10_15) rfl rfl ?_
  refine Wk.sipush X30 hx (v := (255 : Int32)) (hb hby d10_17) rfl rfl ?_
  by_cases hc35 : (255 : Int32) < cz5
  · skip
    refine Wk.icmpNo X30 hx (hb hby d10_20) rfl (tlt hc35).2.2.2 ?_
    refine Wk.iload X30 hx (hb hby d10_23) rfl rfl ?_
    exact Wk.retI' X30 hx hlk hr (hb hby d10_25) (by decide) (by decide) (Qc := Q_rm_cp5_13 Z b kc t kb cz0 cz1 cz2 cz3 cz4 cz5 cz6 cz7 cz8 cz9 cz10 cz11 cz12 h0) e30 ⟨(5 : Int32), rfl, N30, KK32, (Or.inr (Or.inr (Or.inr (Or.inr (Or.inr (Or.inl ⟨hc35, rfl⟩))))))⟩
  refine Wk.icmpYes X30 hx (hb hby d10_20) (by decide) (q := 26) rfl (flt hc35).2.2.2 ?_
  refine Wk.aloadN X30 hx (hb hby d10_26) rfl rfl rfl ?_
  refine Wk.iloadN X30 hx (hb hby d10_27) rfl rfl ?_
  refine Wk.iload X30 hx (hb hby d10_28) rfl rfl ?_
  refine Wk.i2b X30 hx (hb hby d10_30) rfl ?_
  intro c36 hc36
  refine Wk.bastore X30 hx hZ e30 V30 (by decide) (by decide) 5 rfl (Nat.le_of_ble_eq_true rfl) (w := (nar .byte c36)) rfl (hb hby d10_31) rfl ?_
  intro T37 h37 L37 M37 X37 e37 W37 A37
  have N37 := M37 _ _ N30 (Or.inl (List.mem_of_getElem? (i := 0) rfl))
  have O38 : Old Z Z.heap.size h37 := O31.wr W37 ht
  have V37 : Arv Z h37 t kb .byte (13 : Int32) [(.int (nar .byte c2)), (.int (nar .byte c8)), (.int (nar .byte c15)), (.int (nar .byte c22)), (.int (nar .byte c29)), (.int (nar .byte c36)), (.int (0 : Int32)), (.int (0 : Int32)), (.int (0 : Int32)), (.int (0 : Int32)), (.int (0 : Int32)), (.int (0 : Int32)), (.int (0 : Int32))] (.int (0 : Int32)) := A37
  refine Wk.iinc X37 hx (Ls' := #[.val (.ref b), .val (.int (6 : Int32)), .val (.ref t), .val (.int (5 : Int32)), .val (.int (13 : Int32)), .val (.int (5 : Int32)), .val (.int cz5)]) (hb hby d10_32) rfl rfl rfl ?_
  refine Wk.iinc X37 hx (Ls' := #[.val (.ref b), .val (.int (6 : Int32)), .val (.ref t), .val (.int (6 : Int32)), .val (.int (13 : Int32)), .val (.int (5 : Int32)), .val (.int cz5)]) (hb hby d10_35) rfl rfl rfl ?_
  refine Wk.iinc X37 hx (Ls' := #[.val (.ref b), .val (.int (6 : Int32)), .val (.ref t), .val (.int (6 : Int32)), .val (.int (13 : Int32)), .val (.int (6 : Int32)), .val (.int cz5)]) (hb hby d10_38) rfl rfl rfl ?_
  refine Wk.goto X37 hx (hb hby d10_41) (by decide) (q := 3) rfl ?_
  have KK39 : Keep h0 h37 [t] := (KK32.wr W37 (Or.inl (List.mem_of_getElem? (i := 0) rfl)))
  refine Wk.iload X37 hx (hb hby d10_3) rfl rfl ?_
  refine Wk.iload X37 hx (hb hby d10_5) rfl rfl ?_
  refine Wk.icmpNo X37 hx (hb hby d10_7) rfl (tlt (by decide : (6 : Int32) < (13 : Int32))).2.1 ?_
  refine Wk.aloadN X37 hx (hb hby d10_10) rfl rfl rfl ?_
  refine Wk.iloadN X37 hx (hb hby d10_11) rfl rfl ?_
  have KK40 : Keep h30 h37 [t] := ((Keep.refl h30 [t]).wr W37 (Or.inl (List.mem_of_getElem? (i := 0) rfl)))
  have f41 := (f34.keep KK40 (ninS hbt nin0))
  refine Wk.caload X37 hx hZ e37 f41 (by decide) (by decide) (v := cz6) rfl (hb hby d10_12) rfl ?_
  refine Wk.istore X37 hx (Ls' := #[.val (.ref b), .val (.int (6 : Int32)), .val (.ref t), .val (.int (6 : Int32)), .val (.int (13 : Int32)), .val (.int (6 : Int32)), .val (.int cz6)]) (hb hby d10_13) rfl rfl ?_
  refine Wk.iload X37 hx (hb hby d10_15) rfl rfl ?_
  refine Wk.sipush X37 hx (v := (255 : Int32)) (hb hby d10_17) rfl rfl ?_
  by_cases hc42 : (255 : Int32) < cz6
  · skip
    refine Wk.icmpNo X37 hx (hb hby d10_20) rfl (tlt hc42).2.2.2 ?_
    refine Wk.iload X37 hx (hb hby d10_23) rfl rfl ?_
    exact Wk.retI' X37 hx hlk hr (hb hby d10_25) (by decide) (by decide) (Qc := Q_rm_cp5_13 Z b kc t kb cz0 cz1 cz2 cz3 cz4 cz5 cz6 cz7 cz8 cz9 cz10 cz11 cz12 h0) e37 ⟨(6 : Int32), rfl, N37, KK39, (Or.inr (Or.inr (Or.inr (Or.inr (Or.inr (Or.inr (Or.inl ⟨hc42, rfl⟩)))))))⟩
  refine Wk.icmpYes X37 hx (hb hby d10_20) (by decide) (q := 26) rfl (flt hc42).2.2.2 ?_
  refine Wk.aloadN X37 hx (hb hby d10_26) rfl rfl rfl ?_
  refine Wk.iloadN X37 hx (hb hby d10_27) rfl rfl ?_
  refine Wk.iload X37 hx (hb hby d10_28) rfl rfl ?_
  refine Wk.i2b X37 hx (hb hby d10_30) rfl ?_
  intro c43 hc43
  refine Wk.bastore X37 hx hZ e37 V37 (by decide) (by decide) 6 rfl (Nat.le_of_ble_eq_true rfl) (w := (nar .byte c43)) rfl (hb hby d10_31) rfl ?_
  intro T44 h44 L44 M44 X44 e44 W44 A44
  have N44 := M44 _ _ N37 (Or.inl (List.mem_of_getElem? (i := 0) rfl))
  have O45 : Old Z Z.heap.size h44 := O38.wr W44 ht
  have V44 : Arv Z h44 t kb .byte (13 : Int32) [(.int (nar .byte c2)), (.int (nar .byte c8)), (.int (nar .byte c15)), (.int (nar .byte c22)), (.int (nar .byte c29)), (.int (nar .byte c36)), (.int (nar .byte c43)), (.int (0 : Int32)), (.int (0 : Int32)), (.int (0 : Int32)), (.int (0 : Int32)), (.int (0 : Int32)), (.int (0 : Int32))] (.int (0 : Int32)) := A44
  refine Wk.iinc X44 hx (Ls' := #[.val (.ref b), .val (.int (7 : Int32)), .val (.ref t), .val (.int (6 : Int32)), .val (.int (13 : Int32)), .val (.int (6 : Int32)), .val (.int cz6)]) (hb hby d10_32) rfl rfl rfl ?_
  refine Wk.iinc X44 hx (Ls' := #[.val (.ref b), .val (.int (7 : Int32)), .val (.ref t), .val (.int (7 : Int32)), .val (.int (13 : Int32)), .val (.int (6 : Int32)), .val (.int cz6)]) (hb hby d10_35) rfl rfl rfl ?_
  refine Wk.iinc X44 hx (Ls' := #[.val (.ref b), .val (.int (7 : Int32)), .val (.ref t), .val (.int (7 : Int32)), .val (.int (13 : Int32)), .val (.int (7 : Int32)), .val (.int cz6)]) (hb hby d10_38) rfl rfl rfl ?_
  refine Wk.goto X44 hx (hb hby d10_41) (by decide) (q := 3) rfl ?_
  have KK46 : Keep h0 h44 [t] := (KK39.wr W44 (Or.inl (List.mem_of_getElem? (i := 0) rfl)))
  refine Wk.iload X44 hx (hb hby d10_3) rfl rfl ?_
  refine Wk.iload X44 hx (hb hby d10_5) rfl rfl ?_
  refine Wk.icmpNo X44 hx (hb hby d10_7) rfl (tlt (by decide : (7 : Int32) < (13 : Int32))).2.1 ?_
  refine Wk.aloadN X44 hx (hb hby d10_10) rfl rfl rfl ?_
  refine Wk.iloadN X44 hx (hb hby d10_11) rfl rfl ?_
  have KK47 : Keep h37 h44 [t] := ((Keep.refl h37 [t]).wr W44 (Or.inl (List.mem_of_getElem? (i := 0) rfl)))
  have f48 := (f41.keep KK47 (ninS hbt nin0))
  refine Wk.caload X44 hx hZ e44 f48 (by decide) (by decide) (v := cz7) rfl (hb hby d10_12) rfl ?_
  refine Wk.istore X44 hx (Ls' := #[.val (.ref b), .val (.int (7 : Int32)), .val (.ref t), .val (.int (7 : Int32)), .val (.int (13 : Int32)), .val (.int (7 : Int32)), .val (.int cz7)]) (hb hby d10_13) rfl rfl ?_
  refine Wk.iload X44 hx (hb hby d10_15) rfl rfl ?_
  refine Wk.sipush X44 hx (v := (255 : Int32)) (hb hby d10_17) rfl rfl ?_
  by_cases hc49 : (255 : Int32) < cz7
  · skip
    refine Wk.icmpNo X44 hx (hb hby d10_20) rfl (tlt hc49).2.2.2 ?_
    refine Wk.iload X44 hx (hb hby d10_23) rfl rfl ?_
    exact Wk.retI' X44 hx hlk hr (hb hby d10_25) (by decide) (by decide) (Qc := Q_rm_cp5_13 Z b kc t kb cz0 cz1 cz2 cz3 cz4 cz5 cz6 cz7 cz8 cz9 cz10 cz11 cz12 h0) e44 ⟨(7 : Int32), rfl, N44, KK46, (Or.inr (Or.inr (Or.inr (Or.inr (Or.inr (Or.inr (Or.inr (Or.inl ⟨hc49, rfl⟩))))))))⟩
  refine Wk.icmpYes X44 hx (hb hby d10_20) (by decide) (q := 26) rfl (flt hc49).2.2.2 ?_
  refine Wk.aloadN X44 hx (hb hby d10_26) rfl rfl rfl ?_
  refine Wk.iloadN X44 hx (hb hby d10_27) rfl rfl ?_
  refine Wk.iload X44 hx (hb hby d10_28) rfl rfl ?_
  refine Wk.i2b X44 hx (hb hby d10_30) rfl ?_
  intro c50 hc50
  refine Wk.bastore X44 hx hZ e44 V44 (by decide) (by decide) 7 rfl (Nat.le_of_ble_eq_true rfl) (w := (nar .byte c50)) rfl (hb hby d10_31) rfl ?_
  intro T51 h51 L51 M51 X51 e51 W51 A51
  have N51 := M51 _ _ N44 (Or.inl (List.mem_of_getElem? (i := 0) rfl))
  have O52 : Old Z Z.heap.size h51 := O45.wr W51 ht
  have V51 : Arv Z h51 t kb .byte (13 : Int32) [(.int (nar .byte c2)), (.int (nar .byte c8)), (.int (nar .byte c15)), (.int (nar .byte c22)), (.int (nar .byte c29)), (.int (nar .byte c36)), (.int (nar .byte c43)), (.int (nar .byte c50)), (.int (0 : Int32)), (.int (0 : Int32)), (.int (0 : Int32)), (.int (0 : Int32)), (.int (0 : Int32))] (.int (0 : Int32)) := A51
  refine Wk.iinc X51 hx (Ls' := #[.val (.ref b), .val (.int (8 : Int32)), .val (.ref t), .val (.int (7 : Int32)), .val (.int (13 : Int32)), .val (.int (7 : Int32)), .val (.int cz7)]) (hb hby d10_32) rfl rfl rfl ?_
  refine Wk.iinc X51 hx (Ls' := #[.val (.ref b), .val (.int (8 : Int32)), .val (.ref t), .val (.int (8 : Int32)), .val (.int (13 : Int32)), .val (.int (7 : Int32)), .val (.int cz7)]) (hb hby d10_35) rfl rfl rfl ?_
  refine Wk.iinc X51 hx (Ls' := #[.val (.ref b), .val (.int (8 : Int32)), .val (.ref t), .val (.int (8 : Int32)), .val (.int (13 : Int32)), .val (.int (8 : Int32)), .val (.int cz7)]) (hb hby d10_38) rfl rfl rfl ?_
  refine Wk.goto X51 hx (hb hby d10_41) (by decide) (q := 3) rfl ?_
  have KK53 : Keep h0 h51 [t] := (KK46.wr W51 (Or.inl (List.mem_of_getElem? (i := 0) rfl)))
  refine Wk.iload X51 hx (hb hby d10_3) rfl rfl ?_
  refine Wk.iload X51 hx (hb hby d10_5) rfl rfl ?_
  refine Wk.icmpNo X51 hx (hb hby d10_7) rfl (tlt (by decide : (8 : Int32) < (13 : Int32))).2.1 ?_
  refine Wk.aloadN X51 hx (hb hby d10_10) rfl rfl rfl ?_
  refine Wk.iloadN X51 hx (hb hby d10_11) rfl rfl ?_
  have KK54 : Keep h44 h51 [t] := ((Keep.refl h44 [t]).wr W51 (Or.inl (List.mem_of_getElem? (i := 0) rfl)))
  have f55 := (f48.keep KK54 (ninS hbt nin0))
  refine Wk.caload X51 hx hZ e51 f55 (by decide) (by decide) (v := cz8) rfl (hb hby d10_12) rfl ?_
  refine Wk.istore X51 hx (Ls' := #[.val (.ref b), .val (.int (8 : Int32)), .val (.ref t), .val (.int (8 : Int32)), .val (.int (13 : Int32)), .val (.int (8 : Int32)), .val (.int cz8)]) (hb hby d10_13) rfl rfl ?_
  refine Wk.iload X51 hx (hb hby d10_15) rfl rfl ?_
  refine Wk.sipush X51 hx (v := (255 : Int32)) (hb hby d10_17) rfl rfl ?_
  by_cases hc56 : (255 : Int32) < cz8
  · skip
    refine Wk.icmpNo X51 hx (hb hby d10_20) rfl (tlt hc56).2.2.2 ?_
    refine Wk.iload X51 hx (hb hby d10_23) rfl rfl ?_
    exact Wk.retI' X51 hx hlk hr (hb hby d10_25) (by decide) (by decide) (Qc := Q_rm_cp5_13 Z b kc t kb cz0 cz1 cz2 cz3 cz4 cz5 cz6 cz7 cz8 cz9 cz10 cz11 cz12 h0) e51 ⟨(8 : Int32), rfl, N51, KK53, (Or.inr (Or.inr (Or.inr (Or.inr (Or.inr (Or.inr (Or.inr (Or.inr (Or.inl ⟨hc56, rfl⟩)))))))))⟩
  refine Wk.icmpYes X51 hx (hb hby d10_20) (by decide) (q := 26) rfl (flt hc56).2.2.2 ?_
  refine Wk.aloadN X51 hx (hb hby d10_26) rfl rfl rfl ?_
  refine Wk.iloadN X51 hx (hb hby d10_27) rfl rfl ?_
  refine Wk.iload X51 hx (hb hby d10_28) rfl rfl ?_
  refine Wk.i2b X51 hx (hb hby d10_30) rfl ?_
  intro c57 hc57
  refine Wk.bastore X51 hx hZ e51 V51 (by decide) (by decide) 8 rfl (Nat.le_of_ble_eq_true rfl) (w := (nar .byte c57)) rfl (hb hby d10_31) rfl ?_
  intro T58 h58 L58 M58 X58 e58 W58 A58
  have N58 := M58 _ _ N51 (Or.inl (List.mem_of_getElem? (i := 0) rfl))
  have O59 : Old Z Z.heap.size h58 := O52.wr W58 ht
  have V58 : Arv Z h58 t kb .byte (13 : Int32) [(.int (nar .byte c2)), (.int (nar .byte c8)), (.int (nar .byte c15)), (.int (nar .byte c22)), (.int (nar .byte c29)), (.int (nar .byte c36)), (.int (nar .byte c43)), (.int (nar .byte c50)), (.int (nar .byte c57)), (.int (0 : Int32)), (.int (0 : Int32)), (.int (0 : Int32)), (.int (0 : Int32))] (.int (0 : Int32)) := A58
  refine Wk.iinc X58 hx (Ls' := #[.val (.ref b), .val (.int (9 : Int32)), .val (.ref t), .val (.int (8 : Int32)), .val (.int (13 : Int32)), .val (.int (8 : Int32)), .val (.int cz8)]) (hb hby d10_32) rfl rfl rfl ?_
  refine Wk.iinc X58 hx (Ls' := #[.val (.ref b), .val (.int (9 : Int32)), .val (.ref t), .val (.int (9 : Int32)), .val (.int (13 : Int32)), .val (.int (8 : Int32)), .val (.int cz8)]) (hb hby d10_35) rfl rfl rfl ?_
  refine Wk.iinc X58 hx (Ls' := #[.val (.ref b), .val (.int (9 : Int32)), .val (.ref t), .val (.int (9 : Int32)), .val (.int (13 : Int32)), .val (.int (9 : Int32)), .val (.int cz8)]) (hb hby d10_38) rfl rfl rfl ?_
  refine Wk.goto X58 hx (hb hby d10_41) (by decide) (q := 3) rfl ?_
  have KK60 : Keep h0 h58 [t] := (KK53.wr W58 (Or.inl (List.mem_of_getElem? (i := 0) rfl)))
  refine Wk.iload X58 hx (hb hby d10_3) rfl rfl ?_
  refine Wk.iload X58 hx (hb hby d10_5) rfl rfl ?_
  refine Wk.icmpNo X58 hx (hb hby d10_7) rfl (tlt (by decide : (9 : Int32) < (13 : Int32))).2.1 ?_
  refine Wk.aloadN X58 hx (hb hby d10_10) rfl rfl rfl ?_
  refine Wk.iloadN X58 hx (hb hby d10_11) rfl rfl ?_
  have KK61 : Keep h51 h58 [t] := ((Keep.refl h51 [t]).wr W58 (Or.inl (List.mem_of_getElem? (i := 0) rfl)))
  have f62 := (f55.keep KK61 (ninS hbt nin0))
  refine Wk.caload X58 hx hZ e58 f62 (by decide) (by decide) (v := cz9) rfl (hb hby d10_12) rfl ?_
  refine Wk.istore X58 hx (Ls' := #[.val (.ref b), .val (.int (9 : Int32)), .val (.ref t), .val (.int (9 : Int32)), .val (.int (13 : Int32)), .val (.int (9 : Int32)), .val (.int cz9)]) (hb hby d10_13) rfl rfl ?_
  refine Wk.iload X58 hx (hb hby d10_15) rfl rfl ?_
  refine Wk.sipush X58 hx (v := (255 : Int32)) (hb hby d10_17) rfl rfl ?_
  by_cases hc63 : (255 : Int32) < cz9
  · skip
    refine Wk.icmpNo X58 hx (hb hby d10_20) rfl (tlt hc63).2.2.2 ?_
    refine Wk.iload X58 hx (hb hby d10_23) rfl rfl ?_
    exact Wk.retI' X58 hx hlk hr (hb hby d10_25) (by decide) (by decide) (Qc := Q_rm_cp5_13 Z b kc t kb cz0 cz1 cz2 cz3 cz4 cz5 cz6 cz7 cz8 cz9 cz10 cz11 cz12 h0) e58 ⟨(9 : Int32), rfl, N58, KK60, (Or.inr (Or.inr (Or.inr (Or.inr (Or.inr (Or.inr (Or.inr (Or.inr (Or.inr (Or.inl ⟨hc63, rfl⟩))))))))))⟩
  refine Wk.icmpYes X58 hx (hb hby d10_20) (by decide) (q := 26) rfl (flt hc63).2.2.2 ?_
  refine Wk.aloadN X58 hx (hb hby d10_26) rfl rfl rfl ?_
  refine Wk.iloadN X58 hx (hb hby d10_27) rfl rfl ?_
  refine Wk.iload X58 hx (hb hby d10_28) rfl rfl ?_
  refine Wk.i2b X58 hx (hb hby d10_30) rfl ?_
  intro c64 hc64
  refine Wk.bastore X58 hx hZ e58 V58 (by decide) (by decide) 9 rfl (Nat.le_of_ble_eq_true rfl) (w := (nar .byte c64)) rfl (hb hby d10_31) rfl ?_
  intro T65 h65 L65 M65 X65 e65 W65 A65
  have N65 := M65 _ _ N58 (Or.inl (List.mem_of_getElem? (i := 0) rfl))
  have O66 : Old Z Z.heap.size h65 := O59.wr W65 ht
  have V65 : Arv Z h65 t kb .byte (13 : Int32) [(.int (nar .byte c2)), (.int (nar .byte c8)), (.int (nar .byte c15)), (.int (nar .byte c22)), (.int (nar .byte c29)), (.int (nar .byte c36)), (.int (nar .byte c43)), (.int (nar .byte c50)), (.int (nar .byte c57)), (.int (nar .byte c64)), (.int (0 : Int32)), (.int (0 : Int32)), (.int (0 : Int32))] (.int (0 : Int32)) := A65
  refine Wk.iinc X65 hx (Ls' := #[.val (.ref b), .val (.int (10 : Int32)), .val (.ref t), .val (.int (9 : Int32)), .val (.int (13 : Int32)), .val (.int (9 : Int32)), .val (.int cz9)]) (hb hby d10_32) rfl rfl rfl ?_
  refine Wk.iinc X65 hx (Ls' := #[.val (.ref b), .val (.int (10 : Int32)), .val (.ref t), .val (.int (10 : Int32)), .val (.int (13 : Int32)), .val (.int (9 : Int32)), .val (.int cz9)]) (hb hby d10_35) rfl rfl rfl ?_
  refine Wk.iinc X65 hx (Ls' := #[.val (.ref b), .val (.int (10 : Int32)), .val (.ref t), .val (.int (10 : Int32)), .val (.int (13 : Int32)), .val (.int (10 : Int32)), .val (.int cz9)]) (hb hby d10_38) rfl rfl rfl ?_
  refine Wk.goto X65 hx (hb hby d10_41) (by decide) (q := 3) rfl ?_
  have KK67 : Keep h0 h65 [t] := (KK60.wr W65 (Or.inl (List.mem_of_getElem? (i := 0) rfl)))
  refine Wk.iload X65 hx (hb hby d10_3) rfl rfl ?_
  refine Wk.iload X65 hx (hb hby d10_5) rfl rfl ?_
  refine Wk.icmpNo X65 hx (hb hby d10_7) rfl (tlt (by decide : (10 : Int32) < (13 : Int32))).2.1 ?_
  refine Wk.aloadN X65 hx (hb hby d10_10) rfl rfl rfl ?_
  refine Wk.iloadN X65 hx (hb hby d10_11) rfl rfl ?_
  have KK68 : Keep h58 h65 [t] := ((Keep.refl h58 [t]).wr W65 (Or.inl (List.mem_of_getElem? (i := 0) rfl)))
  have f69 := (f62.keep KK68 (ninS hbt nin0))
  refine Wk.caload X65 hx hZ e65 f69 (by decide) (by decide) (v := cz10) rfl (hb hby d10_12) rfl ?_
  refine Wk.istore X65 hx (Ls' := #[.val (.ref b), .val (.int (10 : Int32)), .val (.ref t), .val (.int (10 : Int32)), .val (.int (13 : Int32)), .val (.int (10 : Int32)), .val (.int cz10)]) (hb hby d10_13) rfl rfl ?_
  refine Wk.iload X65 hx (hb hby d10_15) rfl rfl ?_
  refine Wk.sipush X65 hx (v := (255 : Int32)) (hb hby d10_17) rfl rfl ?_
  by_cases hc70 : (255 : Int32) < cz10
  · skip
    refine Wk.icmpNo X65 hx (hb hby d10_20) rfl (tlt hc70).2.2.2 ?_
    refine Wk.iload X65 hx (hb hby d10_23) rfl rfl ?_
    exact Wk.retI' X65 hx hlk hr (hb hby d10_25) (by decide) (by decide) (Qc := Q_rm_cp5_13 Z b kc t kb cz0 cz1 cz2 cz3 cz4 cz5 cz6 cz7 cz8 cz9 cz10 cz11 cz12 h0) e65 ⟨(10 : Int32), rfl, N65, KK67, (Or.inr (Or.inr (Or.inr (Or.inr (Or.inr (Or.inr (Or.inr (Or.inr (Or.inr (Or.inr (Or.inl ⟨hc70, rfl⟩)))))))))))⟩
  refine Wk.icmpYes X65 hx (hb hby d10_20) (by decide) (q := 26) rfl (flt hc70).2.2.2 ?_
  refine Wk.aloadN X65 hx (hb hby d10_26) rfl rfl rfl ?_
  refine Wk.iloadN X65 hx (hb hby d10_27) rfl rfl ?_
  refine Wk.iload X65 hx (hb hby d10_28) rfl rfl ?_
  refine Wk.i2b X65 hx (hb hby d10_30) rfl ?_
  intro c71 hc71
  refine Wk.bastore X65 hx hZ e65 V65 (by decide) (by decide) 10 rfl (Nat.le_of_ble_eq_true rfl) (w := (nar .byte c71)) rfl (hb hby d10_31) rfl ?_
  intro T72 h72 L72 M72 X72 e72 W72 A72
  have N72 := M72 _ _ N65 (Or.inl (List.mem_of_getElem? (i := 0) rfl))
  have O73 : Old Z Z.heap.size h72 := O66.wr W72 ht
  have V72 : Arv Z h72 t kb .byte (13 : Int32) [(.int (nar .byte c2)), (.int (nar .byte c8)), (.int (nar .byte c15)), (.int (nar .byte c22)), (.int (nar .byte c29)), (.int (nar .byte c36)), (.int (nar .byte c43)), (.int (nar .byte c50)), (.int (nar .byte c57)), (.int (nar .byte c64)), (.int (nar .byte c71)), (.int (0 : Int32)), (.int (0 : Int32))] (.int (0 : Int32)) := A72
  refine Wk.iinc X72 hx (Ls' := #[.val (.ref b), .val (.int (11 : Int32)), .val (.ref t), .val (.int (10 : Int32)), .val (.int (13 : Int32)), .val (.int (10 : Int32)), .val (.int cz10)]) (hb hby d10_32) rfl rfl rfl ?_
  refine Wk.iinc X72 hx (Ls' := #[.val (.ref b), .val (.int (11 : Int32)), .val (.ref t), .val (.int (11 : Int32)), .val (.int (13 : Int32)), .val (.int (10 : Int32)), .val (.int cz10)]) (hb hby d10_35) rfl rfl rfl ?_
  refine Wk.iinc X72 hx (Ls' := #[.val (.ref b), .val (.int (11 : Int32)), .val (.ref t), .val (.int (11 : Int32)), .val (.int (13 : Int32)), .val (.int (11 : Int32)), .val (.int cz10)]) (hb hby d10_38) rfl rfl rfl ?_
  refine Wk.goto X72 hx (hb hby d10_41) (by decide) (q := 3) rfl ?_
  have KK74 : Keep h0 h72 [t] := (KK67.wr W72 (Or.inl (List.mem_of_getElem? (i := 0) rfl)))
  refine Wk.iload X72 hx (hb hby d10_3) rfl rfl ?_
  refine Wk.iload X72 hx (hb hby d10_5) rfl rfl ?_
  refine Wk.icmpNo X72 hx (hb hby d10_7) rfl (tlt (by decide : (11 : Int32) < (13 : Int32))).2.1 ?_
  refine Wk.aloadN X72 hx (hb hby d10_10) rfl rfl rfl ?_
  refine Wk.iloadN X72 hx (hb hby d10_11) rfl rfl ?_
  have KK75 : Keep h65 h72 [t] := ((Keep.refl h65 [t]).wr W72 (Or.inl (List.mem_of_getElem? (i := 0) rfl)))
  have f76 := (f69.keep KK75 (ninS hbt nin0))
  refine Wk.caload X72 hx hZ e72 f76 (by decide) (by decide) (v := cz11) rfl (hb hby d10_12) rfl ?_
  refine Wk.istore X72 hx (Ls' := #[.val (.ref b), .val (.int (11 : Int32)), .val (.ref t), .val (.int (11 : Int32)), .val (.int (13 : Int32)), .val (.int (11 : Int32)), .val (.int cz11)]) (hb hby d10_13) rfl rfl ?_
  refine Wk.iload X72 hx (hb hby d10_15) rfl rfl ?_
  refine Wk.sipush X72 hx (v := (255 : Int32)) (hb hby d10_17) rfl rfl ?_
  by_cases hc77 : (255 : Int32) < cz11
  · skip
    refine Wk.icmpNo X72 hx (hb hby d10_20) rfl (tlt hc77).2.2.2 ?_
    refine Wk.iload X72 hx (hb hby d10_23) rfl rfl ?_
    exact Wk.retI' X72 hx hlk hr (hb hby d10_25) (by decide) (by decide) (Qc := Q_rm_cp5_13 Z b kc t kb cz0 cz1 cz2 cz3 cz4 cz5 cz6 cz7 cz8 cz9 cz10 cz11 cz12 h0) e72 ⟨(11 : Int32), rfl, N72, KK74, (Or.inr (Or.inr (Or.inr (Or.inr (Or.inr (Or.inr (Or.inr (Or.inr (Or.inr (Or.inr (Or.inr (Or.inl ⟨hc77, rfl⟩))))))))))))⟩
  refine Wk.icmpYes X72 hx (hb hby d10_20) (by decide) (q := 26) rfl (flt hc77).2.2.2 ?_
  refine Wk.aloadN X72 hx (hb hby d10_26) rfl rfl rfl ?_
  refine Wk.iloadN X72 hx (hb hby d10_27) rfl rfl ?_
  refine Wk.iload X72 hx (hb hby d10_28) rfl rfl ?_
  refine Wk.i2b X72 hx (hb hby d10_30) rfl ?_
  intro c78 hc78
  refine Wk.bastore X72 hx hZ e72 V72 (by decide) (by decide) 11 rfl (Nat.le_of_ble_eq_true rfl) (w := (nar .byte c78)) rfl (hb hby d10_31) rfl ?_
  intro T79 h79 L79 M79 X79 e79 W79 A79
  have N79 := M79 _ _ N72 (Or.inl (List.mem_of_getElem? (i := 0) rfl))
  have O80 : Old Z Z.heap.size h79 := O73.wr W79 ht
  have V79 : Arv Z h79 t kb .byte (13 : Int32) [(.int (nar .byte c2)), (.int (nar .byte c8)), (.int (nar .byte c15)), (.int (nar .byte c22)), (.int (nar .byte c29)), (.int (nar .byte c36)), (.int (nar .byte c43)), (.int (nar .byte c50)), (.int (nar .byte c57)), (.int (nar .byte c64)), (.int (nar .byte c71)), (.int (nar .byte c78)), (.int (0 : Int32))] (.int (0 : Int32)) := A79
  refine Wk.iinc X79 hx (Ls' := #[.val (.ref b), .val (.int (12 : Int32)), .val (.ref t), .val (.int (11 : Int32)), .val (.int (13 : Int32)), .val (.int (11 : Int32)), .val (.int cz11)]) (hb hby d10_32) rfl rfl rfl ?_
  refine Wk.iinc X79 hx (Ls' := #[.val (.ref b), .val (.int (12 : Int32)), .val (.ref t), .val (.int (12 : Int32)), .val (.int (13 : Int32)), .val (.int (11 : Int32)), .val (.int cz11)]) (hb hby d10_35) rfl rfl rfl ?_
  refine Wk.iinc X79 hx (Ls' := #[.val (.ref b), .val (.int (12 : Int32)), .val (.ref t), .val (.int (12 : Int32)), .val (.int (13 : Int32)), .val (.int (12 : Int32)), .val (.int cz11)]) (hb hby d10_38) rfl rfl rfl ?_
  refine Wk.goto X79 hx (hb hby d10_41) (by decide) (q := 3) rfl ?_
  have KK81 : Keep h0 h79 [t] := (KK74.wr W79 (Or.inl (List.mem_of_getElem? (i := 0) rfl)))
  refine Wk.iload X79 hx (hb hby d10_3) rfl rfl ?_
  refine Wk.iload X79 hx (hb hby d10_5) rfl rfl ?_
  refine Wk.icmpNo X79 hx (hb hby d10_7) rfl (tlt (by decide : (12 : Int32) < (13 : Int32))).2.1 ?_
  refine Wk.aloadN X79 hx (hb hby d10_10) rfl rfl rfl ?_
  refine Wk.iloadN X79 hx (hb hby d10_11) rfl rfl ?_
  have KK82 : Keep h72 h79 [t] := ((Keep.refl h72 [t]).wr W79 (Or.inl (List.mem_of_getElem? (i := 0) rfl)))
  have f83 := (f76.keep KK82 (ninS hbt nin0))
  refine Wk.caload X79 hx hZ e79 f83 (by decide) (by decide) (v := cz12) rfl (hb hby d10_12) rfl ?_
  refine Wk.istore X79 hx (Ls' := #[.val (.ref b), .val (.int (12 : Int32)), .val (.ref t), .val (.int (12 : Int32)), .val (.int (13 : Int32)), .val (.int (12 : Int32)), .val (.int cz12)]) (hb hby d10_13) rfl rfl ?_
  refine Wk.iload X79 hx (hb hby d10_15) rfl rfl ?_
  refine Wk.sipush X79 hx (v := (255 : Int32)) (hb hby d10_17) rfl rfl ?_
  by_cases hc84 : (255 : Int32) < cz12
  · skip
    refine Wk.icmpNo X79 hx (hb hby d10_20) rfl (tlt hc84).2.2.2 ?_
    refine Wk.iload X79 hx (hb hby d10_23) rfl rfl ?_
    exact Wk.retI' X79 hx hlk hr (hb hby d10_25) (by decide) (by decide) (Qc := Q_rm_cp5_13 Z b kc t kb cz0 cz1 cz2 cz3 cz4 cz5 cz6 cz7 cz8 cz9 cz10 cz11 cz12 h0) e79 ⟨(12 : Int32), rfl, N79, KK81, (Or.inr (Or.inr (Or.inr (Or.inr (Or.inr (Or.inr (Or.inr (Or.inr (Or.inr (Or.inr (Or.inr (Or.inr (⟨hc84, rfl⟩)))))))))))))⟩
  refine Wk.icmpYes X79 hx (hb hby d10_20) (by decide) (q := 26) rfl (flt hc84).2.2.2 ?_
  refine Wk.aloadN X79 hx (hb hby d10_26) rfl rfl rfl ?_
  refine Wk.iloadN X79 hx (hb hby d10_27) rfl rfl ?_
  refine Wk.iload X79 hx (hb hby d10_28) rfl rfl ?_
  refine Wk.i2b X79 hx (hb hby d10_30) rfl ?_
  intro c85 hc85
  refine Wk.bastore X79 hx hZ e79 V79 (by decide) (by decide) 12 rfl (Nat.le_of_ble_eq_true rfl) (w := (nar .byte c85)) rfl (hb hby d10_31) rfl ?_
  intro T86 h86 L86 M86 X86 e86 W86 A86
  have N86 := M86 _ _ N79 (Or.inl (List.mem_of_getElem? (i := 0) rfl))
  have O87 : Old Z Z.heap.size h86 := O80.wr W86 ht
  have V86 : Arv Z h86 t kb .byte (13 : Int32) [(.int (nar .byte c2)), (.int (nar .byte c8)), (.int (nar .byte c15)), (.int (nar .byte c22)), (.int (nar .byte c29)), (.int (nar .byte c36)), (.int (nar .byte c43)), (.int (nar .byte c50)), (.int (nar .byte c57)), (.int (nar .byte c64)), (.int (nar .byte c71)), (.int (nar .byte c78)), (.int (nar .byte c85))] (.int (0 : Int32)) := A86
  refine Wk.iinc X86 hx (Ls' := #[.val (.ref b), .val (.int (13 : Int32)), .val (.ref t), .val (.int (12 : Int32)), .val (.int (13 : Int32)), .val (.int (12 : Int32)), .val (.int cz12)]) (hb hby d10_32) rfl rfl rfl ?_
  refine Wk.iinc X86 hx (Ls' := #[.val (.ref b), .val (.int (13 : Int32)), .val (.ref t), .val (.int (13 : Int32)), .val (.int (13 : Int32)), .val (.int (12 : Int32)), .val (.int cz12)]) (hb hby d10_35) rfl rfl rfl ?_
  refine Wk.iinc X86 hx (Ls' := #[.val (.ref b), .val (.int (13 : Int32)), .val (.ref t), .val (.int (13 : Int32)), .val (.int (13 : Int32)), .val (.int (13 : Int32)), .val (.int cz12)]) (hb hby d10_38) rfl rfl rfl ?_
  refine Wk.goto X86 hx (hb hby d10_41) (by decide) (q := 3) rfl ?_
  have KK88 : Keep h0 h86 [t] := (KK81.wr W86 (Or.inl (List.mem_of_getElem? (i := 0) rfl)))
  refine Wk.iload X86 hx (hb hby d10_3) rfl rfl ?_
  refine Wk.iload X86 hx (hb hby d10_5) rfl rfl ?_
  refine Wk.icmpYes X86 hx (hb hby d10_7) (by decide) (q := 44) rfl (flt (by decide : ¬ ((13 : Int32) < (13 : Int32)))).2.1 ?_
  exact False.elim (by rcases hNL with hh | hh | hh | hh | hh | hh | hh | hh | hh | hh | hh | hh | hh <;> contradiction)
def Q_rm_cp3_13 (Z : State) (b : Addr) (kc : ClassId) (cz0 : Int32) (cz1 : Int32) (cz2 : Int32) (cz3 : Int32) (cz4 : Int32) (cz5 : Int32) (cz6 : Int32) (cz7 : Int32) (cz8 : Int32) (cz9 : Int32) (cz10 : Int32) (cz11 : Int32) (cz12 : Int32) (h0 : Heap) (v : Option Value) (h : Heap) (L : List Loc) : Prop := ∃ t : Addr, ∃ kb : ClassId, ∃ lb : List Value, v = some (.ref t) ∧ Fk h0.size [] L ∧ Keep h0 h [] ∧ h0.size ≤ t ∧ Arv Z h t kb .byte (26 : Int32) lb (.int (0 : Int32))
set_option maxRecDepth 65536 in
set_option maxHeartbeats 40000000 in
theorem rm_cp3_13 (l : Launch) (Z : State) (a0 : Array Value) (hw : ∀ d ∈ tables_1, d.before a0 Z = true) (ws : List Jvm.Cond) (b : Addr) (kc : ClassId) (cz0 : Int32) (cz1 : Int32) (cz2 : Int32) (cz3 : Int32) (cz4 : Int32) (cz5 : Int32) (cz6 : Int32) (cz7 : Int32) (cz8 : Int32) (cz9 : Int32) (cz10 : Int32) (cz11 : Int32) (cz12 : Int32) (h0 : Heap) (O0 : Old Z Z.heap.size h0) (sH : Sta Z Z.heap "java/lang/StringUTF16" "HI_BYTE_SHIFT" "I" (.int (0 : Int32))) (sL : Sta Z Z.heap "java/lang/StringUTF16" "LO_BYTE_SHIFT" "I" (.int (8 : Int32))) (sA : Sta Z Z.heap "java/lang/StringUTF16" "$assertionsDisabled" "Z" (.int (1 : Int32))) (hA : Arv Z h0 b kc .char (13 : Int32) [(.int cz0), (.int cz1), (.int cz2), (.int cz3), (.int cz4), (.int cz5), (.int cz6), (.int cz7), (.int cz8), (.int cz9), (.int cz10), (.int cz11), (.int cz12)] (.int (0 : Int32))) (hccz0 : Chr cz0) (hccz1 : Chr cz1) (hccz2 : Chr cz2) (hccz3 : Chr cz3) (hccz4 : Chr cz4) (hccz5 : Chr cz5) (hccz6 : Chr cz6) (hccz7 : Chr cz7) (hccz8 : Chr cz8) (hccz9 : Chr cz9) (hccz10 : Chr cz10) (hccz11 : Chr cz11) (hccz12 : Chr cz12) (hNL : NL13 cz0 cz1 cz2 cz3 cz4 cz5 cz6 cz7 cz8 cz9 cz10 cz11 cz12) :
    Ctr l Z (⟨"java/lang/StringUTF16", "compress", "([CII)[B"⟩ : MethodName) jdk_52_method_16_code 6 (some (.array .byte)) ws ({ frames := 3, cells := 2, slots := 39, locals := 40 } : Room) #[(.ref b), (.int (0 : Int32)), (.int (13 : Int32))] h0 (Q_rm_cp3_13 Z b kc cz0 cz1 cz2 cz3 cz4 cz5 cz6 cz7 cz8 cz9 cz10 cz11 cz12 h0) := by
  refine Ctr.intro (Ls := fun _ => #[.val (.ref b), .val (.int (0 : Int32)), .val (.int (13 : Int32)), .unset, .unset, .unset]) (plainFor_of_name pn7) (fun m => by first | rfl | (simp [entryFrame, mkF, argsToLocals, Value.category]; done)) ?_
  intro p e s m below meth c s₁ hx hby hml hr hlk hZ hown hnm hs0 X0 e0
  have w : ∀ (k : Nat) (d : Jvm.Cond), tables_1[k]? = some d → d.before a0 Z = true := fun k d q => hw d (List.mem_of_getElem? q)
  have N0 := Fk.nil h0.size []
  refine Wk.iloadN X0 hx (hb hby d9_0) rfl rfl ?_
  refine Wk.newarray X0 hx hZ (w 3 _ rfl) e0 (hb hby d9_1) rfl (by decide) 13 (by decide) (by decide) (by decide) (by decide) ?_
  intro T1 h1 a1 kA1 g1 X1 e1 E1 A1
  have O2 : Old Z Z.heap.size h1 := O0.ext E1
  have V1 : Arv Z h1 a1 kA1 .byte (13 : Int32) [(.int (0 : Int32)), (.int (0 : Int32)), (.int (0 : Int32)), (.int (0 : Int32)), (.int (0 : Int32)), (.int (0 : Int32)), (.int (0 : Int32)), (.int (0 : Int32)), (.int (0 : Int32)), (.int (0 : Int32)), (.int (0 : Int32)), (.int (0 : Int32)), (.int (0 : Int32))] (.int (0 : Int32)) := A1.pad (pad_rep [] (.int (0 : Int32)) 13)
  refine Wk.astoreN X1 hx (Ls' := #[.val (.ref b), .val (.int (0 : Int32)), .val (.int (13 : Int32)), .val (.ref a1), .unset, .unset]) (hb hby d9_3) rfl rfl rfl ?_
  refine Wk.aloadN X1 hx (hb hby d9_4) rfl rfl rfl ?_
  refine Wk.iloadN X1 hx (hb hby d9_5) rfl rfl ?_
  refine Wk.aloadN X1 hx (hb hby d9_6) rfl rfl rfl ?_
  refine Wk.iconst X1 hx (v := (0 : Int32)) (hb hby d9_7) rfl rfl ?_
  refine Wk.iloadN X1 hx (hb hby d9_8) rfl rfl ?_
  have KK3 : Keep h0 h1 [] := ((Keep.refl h0 []).ext E1)
  have f4 := (hA.keep KK3 nin0)
  refine Wk.callS X1 hx hZ hown (w 51 _ rfl) (w 52 _ rfl) (w 49 _ rfl) (w 53 _ rfl) (by decide) (as' := [(.ref b), (.int (0 : Int32)), (.ref a1), (.int (0 : Int32)), (.int (13 : Int32))]) (backOf (W := 0) (rm_cp5_13 l Z a0 hw [] b kc a1 kA1 cz0 cz1 cz2 cz3 cz4 cz5 cz6 cz7 cz8 cz9 cz10 cz11 cz12 h1 O2 f4 V1 (Nat.le_trans (Nat.le_trans (Nat.le_trans (Nat.le_of_eq O0.1.symm) O0.2.1) (Keep.refl h0 []).1) (Nat.le_of_eq g1)) (Nat.ne_of_lt (Nat.lt_of_lt_of_le hA.lt (Nat.le_of_eq g1))) hNL) hZ (w 53 _ rfl) (w 49 _ rfl) (by decide) (by decide)) e1 (by rw [hml]; rfl) (rest := []) (lenOf pd11 rfl) rfl (Nat.le_of_eq rfl) (hb hby d9_9) rfl (by decide) (by decide) ?_
  intro T5 h5 v5 L5 X5 e5 hQ5
  obtain ⟨r5, rfl, Nq5, K5, q5_0⟩ := hQ5
  have N5 := Fk.app N0 Nq5 KK3.1 (allS (Or.inr (Nat.le_of_eq g1)) all0)
  have O6 : Old Z Z.heap.size h5 := O2.keep K5 (allS (Nat.le_trans (Nat.le_trans (Nat.le_trans (Nat.le_of_eq O0.1.symm) O0.2.1) (Keep.refl h0 []).1) (Nat.le_of_eq g1)) all0)
  show Wp p e below _ _ T5 (mkF m 12 #[.val (.ref b), .val (.int (0 : Int32)), .val (.int (13 : Int32)), .val (.ref a1), .unset, .unset] [(.int r5)])
  refine Wk.istore X5 hx (Ls' := #[.val (.ref b), .val (.int (0 : Int32)), .val (.int (13 : Int32)), .val (.ref a1), .val (.int r5), .unset]) (hb hby d9_12) rfl rfl ?_
  refine Wk.iload X5 hx (hb hby d9_14) rfl rfl ?_
  refine Wk.iloadN X5 hx (hb hby d9_16) rfl rfl ?_
  refine Wk.icmpNo X5 hx (hb hby d9_17) rfl (feq (fun hq => by rcases q5_0 with ⟨_, hr⟩ | ⟨_, hr⟩ | ⟨_, hr⟩ | ⟨_, hr⟩ | ⟨_, hr⟩ | ⟨_, hr⟩ | ⟨_, hr⟩ | ⟨_, hr⟩ | ⟨_, hr⟩ | ⟨_, hr⟩ | ⟨_, hr⟩ | ⟨_, hr⟩ | ⟨_, hr⟩ <;> (rw [hr] at hq; exact absurd hq (by decide)))).1 ?_
  refine Wk.aloadN X5 hx (hb hby d9_20) rfl rfl rfl ?_
  refine Wk.iloadN X5 hx (hb hby d9_21) rfl rfl ?_
  refine Wk.iloadN X5 hx (hb hby d9_22) rfl rfl ?_
  have KK7 : Keep h0 h5 [] := (KK3.trans K5 (allS (Or.inr (Nat.le_of_eq g1)) all0))
  have f8 := (hA.keep KK7 nin0)
  refine Wk.callS X5 hx hZ hown (w 88 _ rfl) (w 89 _ rfl) (w 49 _ rfl) (w 90 _ rfl) (by decide) (as' := [(.ref b), (.int (0 : Int32)), (.int (13 : Int32))]) (backOf (W := 0) (rm_tob13 l Z a0 hw [] b kc cz0 cz1 cz2 cz3 cz4 cz5 cz6 cz7 cz8 cz9 cz10 cz11 cz12 h5 O6 sH sL sA f8) hZ (w 90 _ rfl) (w 49 _ rfl) (by decide) (by decide)) e5 (by rw [hml]; rfl) (rest := []) (lenOf pd12 rfl) rfl (Nat.le_of_eq rfl) (hb hby d9_23) rfl (by decide) (by decide) ?_
  intro T9 h9 v9 L9 X9 e9 hQ9
  obtain ⟨t9, kb9, rfl, Nq9, K9, q9_0, q9_1⟩ := hQ9
  have N9 := Fk.app N5 Nq9 KK7.1 all0
  have O10 : Old Z Z.heap.size h9 := O6.keep K9 all0
  show Wp p e below _ _ T9 (mkF m 26 #[.val (.ref b), .val (.int (0 : Int32)), .val (.int (13 : Int32)), .val (.ref a1), .val (.int r5), .unset] [(.ref t9)])
  refine Wk.astore X9 hx (Ls' := #[.val (.ref b), .val (.int (0 : Int32)), .val (.int (13 : Int32)), .val (.ref a1), .val (.int r5), .val (.ref t9)]) (hb hby d9_26) rfl rfl rfl ?_
  refine Wk.aload X9 hx (hb hby d9_28) rfl rfl rfl ?_
  refine Wk.iload X9 hx (hb hby d9_30) rfl rfl ?_
  obtain ⟨gz, gpl, hg0, hg1, hg2, hg3, hg4, hg5, hg6, hg7, hg8, hg9⟩ : ∃ (gz : Int32) (gpl : Nat), Chr gz ∧ (255 : Int32) < gz ∧ (r5 <<< ((1 : Int32) &&& 31)) < (26 : Int32) ∧ ((r5 <<< ((1 : Int32) &&& 31)) + (1 : Int32)) < (26 : Int32) ∧ ¬ (r5 <<< ((1 : Int32) &&& 31)) < 0 ∧ ¬ ((r5 <<< ((1 : Int32) &&& 31)) + (1 : Int32)) < 0 ∧ (r5 <<< ((1 : Int32) &&& 31)).toNatClampNeg = gpl ∧ ((r5 <<< ((1 : Int32) &&& 31)) + (1 : Int32)).toNatClampNeg = gpl + 1 ∧ ([(.int (own_b0 cz0)), (.int (own_b1 cz0)), (.int (own_b0 cz1)), (.int (own_b1 cz1)), (.int (own_b0 cz2)), (.int (own_b1 cz2)), (.int (own_b0 cz3)), (.int (own_b1 cz3)), (.int (own_b0 cz4)), (.int (own_b1 cz4)), (.int (own_b0 cz5)), (.int (own_b1 cz5)), (.int (own_b0 cz6)), (.int (own_b1 cz6)), (.int (own_b0 cz7)), (.int (own_b1 cz7)), (.int (own_b0 cz8)), (.int (own_b1 cz8)), (.int (own_b0 cz9)), (.int (own_b1 cz9)), (.int (own_b0 cz10)), (.int (own_b1 cz10)), (.int (own_b0 cz11)), (.int (own_b1 cz11)), (.int (own_b0 cz12)), (.int (own_b1 cz12))] : List Value).getD gpl (.int (0 : Int32)) = .int (own_b0 gz) ∧ ([(.int (own_b0 cz0)), (.int (own_b1 cz0)), (.int (own_b0 cz1)), (.int (own_b1 cz1)), (.int (own_b0 cz2)), (.int (own_b1 cz2)), (.int (own_b0 cz3)), (.int (own_b1 cz3)), (.int (own_b0 cz4)), (.int (own_b1 cz4)), (.int (own_b0 cz5)), (.int (own_b1 cz5)), (.int (own_b0 cz6)), (.int (own_b1 cz6)), (.int (own_b0 cz7)), (.int (own_b1 cz7)), (.int (own_b0 cz8)), (.int (own_b1 cz8)), (.int (own_b0 cz9)), (.int (own_b1 cz9)), (.int (own_b0 cz10)), (.int (own_b1 cz10)), (.int (own_b0 cz11)), (.int (own_b1 cz11)), (.int (own_b0 cz12)), (.int (own_b1 cz12))] : List Value).getD (gpl + 1) (.int (0 : Int32)) = .int (own_b1 gz) := by
    rcases q5_0 with ⟨hg, rfl⟩ | ⟨hg, rfl⟩ | ⟨hg, rfl⟩ | ⟨hg, rfl⟩ | ⟨hg, rfl⟩ | ⟨hg, rfl⟩ | ⟨hg, rfl⟩ | ⟨hg, rfl⟩ | ⟨hg, rfl⟩ | ⟨hg, rfl⟩ | ⟨hg, rfl⟩ | ⟨hg, rfl⟩ | ⟨hg, rfl⟩
    · exact ⟨cz0, 0, hccz0, hg, by decide, by decide, by decide, by decide, by decide, by decide, rfl, rfl⟩
    · exact ⟨cz1, 2, hccz1, hg, by decide, by decide, by decide, by decide, by decide, by decide, rfl, rfl⟩
    · exact ⟨cz2, 4, hccz2, hg, by decide, by decide, by decide, by decide, by decide, by decide, rfl, rfl⟩
    · exact ⟨cz3, 6, hccz3, hg, by decide, by decide, by decide, by decide, by decide, by decide, rfl, rfl⟩
    · exact ⟨cz4, 8, hccz4, hg, by decide, by decide, by decide, by decide, by decide, by decide, rfl, rfl⟩
    · exact ⟨cz5, 10, hccz5, hg, by decide, by decide, by decide, by decide, by decide, by decide, rfl, rfl⟩
    · exact ⟨cz6, 12, hccz6, hg, by decide, by decide, by decide, by decide, by decide, by decide, rfl, rfl⟩
    · exact ⟨cz7, 14, hccz7, hg, by decide, by decide, by decide, by decide, by decide, by decide, rfl, rfl⟩
    · exact ⟨cz8, 16, hccz8, hg, by decide, by decide, by decide, by decide, by decide, by decide, rfl, rfl⟩
    · exact ⟨cz9, 18, hccz9, hg, by decide, by decide, by decide, by decide, by decide, by decide, rfl, rfl⟩
    · exact ⟨cz10, 20, hccz10, hg, by decide, by decide, by decide, by decide, by decide, by decide, rfl, rfl⟩
    · exact ⟨cz11, 22, hccz11, hg, by decide, by decide, by decide, by decide, by decide, by decide, rfl, rfl⟩
    · exact ⟨cz12, 24, hccz12, hg, by decide, by decide, by decide, by decide, by decide, by decide, rfl, rfl⟩
  refine Wk.callS X9 hx hZ hown (w 104 _ rfl) (w 105 _ rfl) (w 49 _ rfl) (w 106 _ rfl) (by decide) (as' := [(.ref t9), (.int r5)]) (backOf (W := 0) (rm_get l Z a0 hw [] t9 r5 gz kb9 (26 : Int32) _ gpl h9 O10 sH sL sA q9_1 (by first | assumption | rfl | decide | exact Nat.le_of_ble_eq_true rfl) (by first | assumption | rfl | decide | exact Nat.le_of_ble_eq_true rfl) (by first | assumption | rfl | decide | exact Nat.le_of_ble_eq_true rfl) (by first | assumption | rfl | decide | exact Nat.le_of_ble_eq_true rfl) (by first | assumption | rfl | decide | exact Nat.le_of_ble_eq_true rfl) (by first | assumption | rfl | decide | exact Nat.le_of_ble_eq_true rfl) (by first | assumption | rfl | decide | exact Nat.le_of_ble_eq_true rfl) (by first | assumption | rfl | decide | exact Nat.le_of_ble_eq_true rfl) hg0) hZ (w 106 _ rfl) (w 49 _ rfl) (by decide) (by decide)) e9 (by rw [hml]; rfl) (rest := []) (lenOf pd6 rfl) rfl (Nat.le_of_eq rfl) (hb hby d9_32) rfl (by decide) (by decide) ?_
  intro T11 h11 v11 L11 X11 e11 hQ11
  obtain ⟨rfl, Nq11, K11⟩ := hQ11
  have KK12 : Keep h0 h9 [] := (KK7.trans K9 all0)
  have N11 := Fk.app N9 Nq11 KK12.1 all0
  rw [K11] at e11
  show Wp p e below _ _ T11 (mkF m 35 #[.val (.ref b), .val (.int (0 : Int32)), .val (.int (13 : Int32)), .val (.ref a1), .val (.int r5), .val (.ref t9)] [(.int gz)])
  refine Wk.sipush X11 hx (v := (255 : Int32)) (hb hby d9_35) rfl rfl ?_
  refine Wk.icmpYes X11 hx (hb hby d9_38) (by decide) (q := 54) rfl (tlt hg1).2.2.1 ?_
  refine Wk.aload X11 hx (hb hby d9_54) rfl rfl rfl ?_
  exact Wk.retA' X11 hx hlk hr rfl rfl (hb hby d9_56) (by decide) (by decide) (Qc := Q_rm_cp3_13 Z b kc cz0 cz1 cz2 cz3 cz4 cz5 cz6 cz7 cz8 cz9 cz10 cz11 cz12 h0) e11 ⟨t9, kb9, [(.int (own_b0 cz0)), (.int (own_b1 cz0)), (.int (own_b0 cz1)), (.int (own_b1 cz1)), (.int (own_b0 cz2)), (.int (own_b1 cz2)), (.int (own_b0 cz3)), (.int (own_b1 cz3)), (.int (own_b0 cz4)), (.int (own_b1 cz4)), (.int (own_b0 cz5)), (.int (own_b1 cz5)), (.int (own_b0 cz6)), (.int (own_b1 cz6)), (.int (own_b0 cz7)), (.int (own_b1 cz7)), (.int (own_b0 cz8)), (.int (own_b1 cz8)), (.int (own_b0 cz9)), (.int (own_b1 cz9)), (.int (own_b0 cz10)), (.int (own_b1 cz10)), (.int (own_b0 cz11)), (.int (own_b1 cz11)), (.int (own_b0 cz12)), (.int (own_b1 cz12))], rfl, N11, KK12, (Nat.le_trans KK7.1 q9_0), q9_1⟩
def Q_rm_iv_13 (Z : State) (x : Addr) (b : Addr) (kc : ClassId) (G1 : Int32) (cz0 : Int32) (cz1 : Int32) (cz2 : Int32) (cz3 : Int32) (cz4 : Int32) (cz5 : Int32) (cz6 : Int32) (cz7 : Int32) (cz8 : Int32) (cz9 : Int32) (cz10 : Int32) (cz11 : Int32) (cz12 : Int32) (h0 : Heap) (v : Option Value) (h : Heap) (L : List Loc) : Prop := v = none ∧ Fk h0.size [x] L ∧ Keep h0 h [x] ∧ Exa Z h x "java/lang/String" ∧ Fld Z h x "java/lang/String" "coder" "B" (.int (1 : Int32))
set_option maxRecDepth 65536 in
set_option maxHeartbeats 40000000 in
theorem rm_iv_13 (l : Launch) (Z : State) (a0 : Array Value) (hw : ∀ d ∈ tables_1, d.before a0 Z = true) (ws : List Jvm.Cond) (x : Addr) (b : Addr) (kc : ClassId) (G1 : Int32) (cz0 : Int32) (cz1 : Int32) (cz2 : Int32) (cz3 : Int32) (cz4 : Int32) (cz5 : Int32) (cz6 : Int32) (cz7 : Int32) (cz8 : Int32) (cz9 : Int32) (cz10 : Int32) (cz11 : Int32) (cz12 : Int32) (h0 : Heap) (O0 : Old Z Z.heap.size h0) (sH : Sta Z Z.heap "java/lang/StringUTF16" "HI_BYTE_SHIFT" "I" (.int (0 : Int32))) (sL : Sta Z Z.heap "java/lang/StringUTF16" "LO_BYTE_SHIFT" "I" (.int (8 : Int32))) (sA : Sta Z Z.heap "java/lang/StringUTF16" "$assertionsDisabled" "Z" (.int (1 : Int32))) (SG1 : Sta Z Z.heap "java/lang/String" "COMPACT_STRINGS" "Z" (.int G1)) (nG1 : ¬ G1 = 0) (hE : Exa Z h0 x "java/lang/String") (hV : Fld Z h0 x "java/lang/String" "value" "[B" .null) (hC : Fld Z h0 x "java/lang/String" "coder" "B" (.int (0 : Int32))) (hxz : Z.heap.size ≤ x) (hA : Arv Z h0 b kc .char (13 : Int32) [(.int cz0), (.int cz1), (.int cz2), (.int cz3), (.int cz4), (.int cz5), (.int cz6), (.int cz7), (.int cz8), (.int cz9), (.int cz10), (.int cz11), (.int cz12)] (.int (0 : Int32))) (hccz0 : Chr cz0) (hccz1 : Chr cz1) (hccz2 : Chr cz2) (hccz3 : Chr cz3) (hccz4 : Chr cz4) (hccz5 : Chr cz5) (hccz6 : Chr cz6) (hccz7 : Chr cz7) (hccz8 : Chr cz8) (hccz9 : Chr cz9) (hccz10 : Chr cz10) (hccz11 : Chr cz11) (hccz12 : Chr cz12) (hNL : NL13 cz0 cz1 cz2 cz3 cz4 cz5 cz6 cz7 cz8 cz9 cz10 cz11 cz12) :
    Ctr l Z (⟨"java/lang/String", "<init>", "([CIILjava/lang/Void;)V"⟩ : MethodName) jdk_42_method_149_code 6 none ws ({ frames := 4, cells := 2, slots := 39, locals := 57 } : Room) #[(.ref x), (.ref b), (.int (0 : Int32)), (.int (13 : Int32)), .null] h0 (Q_rm_iv_13 Z x b kc G1 cz0 cz1 cz2 cz3 cz4 cz5 cz6 cz7 cz8 cz9 cz10 cz11 cz12 h0) := by
  refine Ctr.intro (Ls := fun _ => #[.val (.ref x), .val (.ref b), .val (.int (0 : Int32)), .val (.int (13 : Int32)), .val .null, .unset]) (plainFor_of_name pn0) (fun m => by first | rfl | (simp [entryFrame, mkF, argsToLocals, Value.category]; done)) ?_
  intro p e s m below meth c s₁ hx hby hml hr hlk hZ hown hnm hs0 X0 e0
  have w : ∀ (k : Nat) (d : Jvm.Cond), tables_1[k]? = some d → d.before a0 Z = true := fun k d q => hw d (List.mem_of_getElem? q)
  have N0 := Fk.nil h0.size [x]
  refine Wk.aloadN X0 hx (hb hby d7_0) rfl rfl rfl ?_
  refine Wk.objinit X0 hx hZ hown (w 44 _ rfl) (w 45 _ rfl) (w 46 _ rfl) e0 (by rw [hml]; rfl) (hb hby d7_1) rfl (by decide) 0 (Nat.le_of_eq rfl) (by decide) ?_
  intro T1 X1 e1
  refine Wk.iloadN X1 hx (hb hby d7_4) rfl rfl ?_
  refine Wk.ifYes X1 hx (hb hby d7_5) (by decide) (q := 27) rfl ((if0 _ _).trans (feq (by decide : ¬ ((13 : Int32) = (0 : Int32)))).2) ?_
  refine Wk.getstatic X1 hx hZ hown (host := "") (Or.inl (w 21 _ rfl)) Via.refl e1 (SG1.ext O0.2) (hb hby d7_27) rfl ?_
  intro T2 X2 e2
  refine Wk.ifNo X2 hx (hb hby d7_30) rfl ((if0 _ _).trans (feq nG1).1) ?_
  refine Wk.aloadN X2 hx (hb hby d7_33) rfl rfl rfl ?_
  refine Wk.iloadN X2 hx (hb hby d7_34) rfl rfl ?_
  refine Wk.iloadN X2 hx (hb hby d7_35) rfl rfl ?_
  refine Wk.callS X2 hx hZ hown (w 47 _ rfl) (w 48 _ rfl) (w 49 _ rfl) (w 50 _ rfl) (by decide) (as' := [(.ref b), (.int (0 : Int32)), (.int (13 : Int32))]) (backOf (W := 0) (rm_cp3_13 l Z a0 hw [] b kc cz0 cz1 cz2 cz3 cz4 cz5 cz6 cz7 cz8 cz9 cz10 cz11 cz12 h0 O0 sH sL sA hA hccz0 hccz1 hccz2 hccz3 hccz4 hccz5 hccz6 hccz7 hccz8 hccz9 hccz10 hccz11 hccz12 hNL) hZ (w 50 _ rfl) (w 49 _ rfl) (by decide) (by decide)) e2 (by rw [hml]; rfl) (rest := []) (lenOf pd12 rfl) rfl (Nat.le_of_eq rfl) (hb hby d7_36) rfl (by decide) (by decide) ?_
  intro T3 h3 v3 L3 X3 e3 hQ3
  obtain ⟨t3, kb3, lb3, rfl, Nq3, K3, q3_0, q3_1⟩ := hQ3
  have N3 := Fk.app N0 Nq3 (Nat.le_refl _) all0
  have O4 : Old Z Z.heap.size h3 := O0.keep K3 all0
  show Wp p e below _ _ T3 (mkF m 39 #[.val (.ref x), .val (.ref b), .val (.int (0 : Int32)), .val (.int (13 : Int32)), .val .null, .unset] [(.ref t3)])
  refine Wk.astore X3 hx (Ls' := #[.val (.ref x), .val (.ref b), .val (.int (0 : Int32)), .val (.int (13 : Int32)), .val .null, .val (.ref t3)]) (hb hby d7_39) rfl rfl rfl ?_
  refine Wk.aloadN X3 hx (hb hby d7_41) rfl rfl rfl ?_
  refine Wk.aload X3 hx (hb hby d7_42) rfl rfl rfl ?_
  refine Wk.iloadN X3 hx (hb hby d7_44) rfl rfl ?_
  refine Wk.callS X3 hx hZ hown (w 54 _ rfl) (w 55 _ rfl) (w 49 _ rfl) (w 56 _ rfl) (by decide) (as' := [(.ref t3), (.int (13 : Int32))]) (backOf (W := 1) (rm_cfa13 l Z a0 hw [] t3 kb3 lb3 h3 O4 q3_1) hZ (w 56 _ rfl) (w 49 _ rfl) (by decide) (by decide)) e3 (by rw [hml]; rfl) (rest := [(.ref x)]) (lenOf pd13 rfl) rfl (Nat.le_of_eq rfl) (hb hby d7_45) rfl (by decide) (by decide) ?_
  intro T5 h5 v5 L5 X5 e5 hQ5
  obtain ⟨rfl, Nq5, K5⟩ := hQ5
  have KK6 : Keep h0 h3 [] := ((Keep.refl h0 []).trans K3 all0)
  have N5 := Fk.app N3 Nq5 KK6.1 all0
  rw [K5] at e5
  show Wp p e below _ _ T5 (mkF m 48 #[.val (.ref x), .val (.ref b), .val (.int (0 : Int32)), .val (.int (13 : Int32)), .val .null, .val (.ref t3)] [(.int (1 : Int32)), (.ref x)])
  have f7 : Exa Z h3 x "java/lang/String" := (hE.keep KK6)
  have f8 : Fld Z h3 x "java/lang/String" "coder" "B" (.int (0 : Int32)) := (hC.keep KK6 nin0)
  have f10 : Fld Z h3 x "java/lang/String" "value" "[B" .null := (hV.keep KK6 nin0)
  refine Wk.putfieldN X5 hx hZ hown (w 22 _ rfl) Via.refl e5 (v' := (.int (1 : Int32))) f8 f7 (Or.inr ⟨(w 5 _ rfl), rfl, hnm⟩) (w 2 _ rfl) (ty := .byte) (by decide) rfl rfl (hb hby d7_48) rfl ?_
  intro T9 h9 L9 M9 X9 e9 W9 Fw9
  have N9 := M9 _ _ N5 (Or.inl (List.mem_of_getElem? (i := 0) rfl))
  have O11 : Old Z Z.heap.size h9 := O4.wr W9 hxz
  have f12 : Fld Z h9 x "java/lang/String" "value" "[B" .null := f10.other W9 (Or.inr (slot_ne (Or.inr (w 4 _ rfl)) (Or.inr (w 5 _ rfl)) (by decide) (t := (.array .byte)) (t' := .byte) (by decide) (by decide)))
  have E9' : Exa Z h9 x "java/lang/String" := f7.wr W9
  refine Wk.aloadN X9 hx (hb hby d7_51) rfl rfl rfl ?_
  refine Wk.aload X9 hx (hb hby d7_52) rfl rfl rfl ?_
  refine Wk.putfield X9 hx hZ hown (host := "") (Or.inl (w 23 _ rfl)) Via.refl e9 f12 E9' (Or.inr ⟨(w 4 _ rfl), rfl, hnm⟩) (w 2 _ rfl) (ty := (.array .byte)) (by decide) rfl rfl (hb hby d7_54) rfl ?_
  intro T13 h13 L13 M13 X13 e13 W13 Fw13
  have N13 := M13 _ _ N9 (Or.inl (List.mem_of_getElem? (i := 0) rfl))
  have O14 : Old Z Z.heap.size h13 := O11.wr W13 hxz
  have f15 : Fld Z h13 x "java/lang/String" "coder" "B" (.int (1 : Int32)) := Fw9.other W13 (Or.inr (slot_ne (Or.inr (w 5 _ rfl)) (Or.inr (w 4 _ rfl)) (by decide) (t := .byte) (t' := (.array .byte)) (by decide) (by decide)))
  have E13' : Exa Z h13 x "java/lang/String" := E9'.wr W13
  have KK16 : Keep h0 h13 [x] := ((((Keep.refl h0 [x]).trans K3 all0).wr W9 (Or.inl (List.mem_of_getElem? (i := 0) rfl))).wr W13 (Or.inl (List.mem_of_getElem? (i := 0) rfl)))
  exact Wk.ret0' X13 hx hlk hr (hb hby d7_57) (by decide) (by decide) (Qc := Q_rm_iv_13 Z x b kc G1 cz0 cz1 cz2 cz3 cz4 cz5 cz6 cz7 cz8 cz9 cz10 cz11 cz12 h0) e13 ⟨rfl, N13, KK16, E13', f15⟩
def Q_rm_ic_13 (Z : State) (x : Addr) (b : Addr) (kc : ClassId) (G1 : Int32) (cz0 : Int32) (cz1 : Int32) (cz2 : Int32) (cz3 : Int32) (cz4 : Int32) (cz5 : Int32) (cz6 : Int32) (cz7 : Int32) (cz8 : Int32) (cz9 : Int32) (cz10 : Int32) (cz11 : Int32) (cz12 : Int32) (h0 : Heap) (v : Option Value) (h : Heap) (L : List Loc) : Prop := v = none ∧ Fk h0.size [x] L ∧ Keep h0 h [x] ∧ Exa Z h x "java/lang/String" ∧ Fld Z h x "java/lang/String" "coder" "B" (.int (1 : Int32))
set_option maxRecDepth 65536 in
set_option maxHeartbeats 40000000 in
theorem rm_ic_13 (l : Launch) (Z : State) (a0 : Array Value) (hw : ∀ d ∈ tables_1, d.before a0 Z = true) (ws : List Jvm.Cond) (x : Addr) (b : Addr) (kc : ClassId) (G1 : Int32) (cz0 : Int32) (cz1 : Int32) (cz2 : Int32) (cz3 : Int32) (cz4 : Int32) (cz5 : Int32) (cz6 : Int32) (cz7 : Int32) (cz8 : Int32) (cz9 : Int32) (cz10 : Int32) (cz11 : Int32) (cz12 : Int32) (h0 : Heap) (O0 : Old Z Z.heap.size h0) (sH : Sta Z Z.heap "java/lang/StringUTF16" "HI_BYTE_SHIFT" "I" (.int (0 : Int32))) (sL : Sta Z Z.heap "java/lang/StringUTF16" "LO_BYTE_SHIFT" "I" (.int (8 : Int32))) (sA : Sta Z Z.heap "java/lang/StringUTF16" "$assertionsDisabled" "Z" (.int (1 : Int32))) (SG1 : Sta Z Z.heap "java/lang/String" "COMPACT_STRINGS" "Z" (.int G1)) (nG1 : ¬ G1 = 0) (hE : Exa Z h0 x "java/lang/String") (hV : Fld Z h0 x "java/lang/String" "value" "[B" .null) (hC : Fld Z h0 x "java/lang/String" "coder" "B" (.int (0 : Int32))) (hxz : Z.heap.size ≤ x) (hA : Arv Z h0 b kc .char (13 : Int32) [(.int cz0), (.int cz1), (.int cz2), (.int cz3), (.int cz4), (.int cz5), (.int cz6), (.int cz7), (.int cz8), (.int cz9), (.int cz10), (.int cz11), (.int cz12)] (.int (0 : Int32))) (hccz0 : Chr cz0) (hccz1 : Chr cz1) (hccz2 : Chr cz2) (hccz3 : Chr cz3) (hccz4 : Chr cz4) (hccz5 : Chr cz5) (hccz6 : Chr cz6) (hccz7 : Chr cz7) (hccz8 : Chr cz8) (hccz9 : Chr cz9) (hccz10 : Chr cz10) (hccz11 : Chr cz11) (hccz12 : Chr cz12) (hNL : NL13 cz0 cz1 cz2 cz3 cz4 cz5 cz6 cz7 cz8 cz9 cz10 cz11 cz12) :
    Ctr l Z (⟨"java/lang/String", "<init>", "([C)V"⟩ : MethodName) jdk_42_method_3_code 2 none ws ({ frames := 5, cells := 2, slots := 39, locals := 74 } : Room) #[(.ref x), (.ref b)] h0 (Q_rm_ic_13 Z x b kc G1 cz0 cz1 cz2 cz3 cz4 cz5 cz6 cz7 cz8 cz9 cz10 cz11 cz12 h0) := by
  refine Ctr.intro (Ls := fun _ => #[.val (.ref x), .val (.ref b)]) (plainFor_of_name pn0) (fun m => by first | rfl | (simp [entryFrame, mkF, argsToLocals, Value.category]; done)) ?_
  intro p e s m below meth c s₁ hx hby hml hr hlk hZ hown hnm hs0 X0 e0
  have w : ∀ (k : Nat) (d : Jvm.Cond), tables_1[k]? = some d → d.before a0 Z = true := fun k d q => hw d (List.mem_of_getElem? q)
  have N0 := Fk.nil h0.size [x]
  refine Wk.aloadN X0 hx (hb hby d6_0) rfl rfl rfl ?_
  refine Wk.aloadN X0 hx (hb hby d6_1) rfl rfl rfl ?_
  refine Wk.iconst X0 hx (v := (0 : Int32)) (hb hby d6_2) rfl rfl ?_
  refine Wk.aloadN X0 hx (hb hby d6_3) rfl rfl rfl ?_
  refine Wk.arraylength X0 hx hZ e0 hA (hb hby d6_4) rfl ?_
  refine Wk.aconstNull X0 hx (hb hby d6_5) rfl ?_
  refine Wk.callI X0 hx hZ rfl hown (w 40 _ rfl) (w 41 _ rfl) (w 43 _ rfl) (by decide) (as' := [(.ref b), (.int (0 : Int32)), (.int (13 : Int32)), .null]) (backOf (W := 0) (rm_iv_13 l Z a0 hw [] x b kc G1 cz0 cz1 cz2 cz3 cz4 cz5 cz6 cz7 cz8 cz9 cz10 cz11 cz12 h0 O0 sH sL sA SG1 nG1 hE hV hC hxz hA hccz0 hccz1 hccz2 hccz3 hccz4 hccz5 hccz6 hccz7 hccz8 hccz9 hccz10 hccz11 hccz12 hNL) hZ (w 43 _ rfl) (w 1 _ rfl) (by decide) (by decide)) e0 (by rw [hml]; rfl) (rest := []) (lenOf pd14 rfl) rfl (Nat.le_of_eq rfl) (hb hby d6_6) rfl (by decide) (by decide) ?_
  intro T1 h1 v1 L1 X1 e1 hQ1
  obtain ⟨rfl, Nq1, K1, q1_0, q1_1⟩ := hQ1
  have N1 := Fk.app N0 Nq1 (Nat.le_refl _) (allS (Or.inl (List.mem_of_getElem? (i := 0) rfl)) all0)
  have O2 : Old Z Z.heap.size h1 := O0.keep K1 (allS hxz all0)
  show Wp p e below _ _ T1 (mkF m 9 #[.val (.ref x), .val (.ref b)] [])
  have KK3 : Keep h0 h1 [x] := ((Keep.refl h0 [x]).trans K1 (allS (Or.inl (List.mem_of_getElem? (i := 0) rfl)) all0))
  exact Wk.ret0' X1 hx hlk hr (hb hby d6_9) (by decide) (by decide) (Qc := Q_rm_ic_13 Z x b kc G1 cz0 cz1 cz2 cz3 cz4 cz5 cz6 cz7 cz8 cz9 cz10 cz11 cz12 h0) e1 ⟨rfl, N1, KK3, q1_0, q1_1⟩
def Q_rm_nbl14 (Z : State) (h0 : Heap) (v : Option Value) (h : Heap) (L : List Loc) : Prop := v = some (.int (28 : Int32)) ∧ Fk h0.size [] L ∧ h = h0
set_option maxRecDepth 65536 in
set_option maxHeartbeats 40000000 in
theorem rm_nbl14 (l : Launch) (Z : State) (a0 : Array Value) (hw : ∀ d ∈ tables_1, d.before a0 Z = true) (ws : List Jvm.Cond) (h0 : Heap) (O0 : Old Z Z.heap.size h0) :
    Ctr l Z (⟨"java/lang/StringUTF16", "newBytesLength", "(I)I"⟩ : MethodName) jdk_52_method_3_code 1 (some .int) ws ({ frames := 0, cells := 0, slots := 0, locals := 0 } : Room) #[(.int (14 : Int32))] h0 (Q_rm_nbl14 Z h0) := by
  refine Ctr.intro (Ls := fun _ => #[.val (.int (14 : Int32))]) (plainFor_of_name pn7) (fun m => by first | rfl | (simp [entryFrame, mkF, argsToLocals, Value.category]; done)) ?_
  intro p e s m below meth c s₁ hx hby hml hr hlk hZ hown hnm hs0 X0 e0
  have w : ∀ (k : Nat) (d : Jvm.Cond), tables_1[k]? = some d → d.before a0 Z = true := fun k d q => hw d (List.mem_of_getElem? q)
  have N0 := Fk.nil h0.size []
  refine Wk.iloadN X0 hx (hb hby d18_0) rfl rfl ?_
  refine Wk.ifYes X0 hx (hb hby d18_1) (by decide) (q := 12) rfl ((if0 _ _).trans (flt (by decide : ¬ ((14 : Int32) < (0 : Int32)))).2.1) ?_
  refine Wk.iloadN X0 hx (hb hby d18_12) rfl rfl ?_
  refine Wk.ldcInt X0 hx hZ hown (w 97 _ rfl) (hb hby d18_13) rfl ?_
  refine Wk.icmpYes X0 hx (hb hby d18_15) (by decide) (q := 55) rfl (tlt (by decide : (14 : Int32) < (1073741823 : Int32))).1 ?_
  refine Wk.iloadN X0 hx (hb hby d18_55) rfl rfl ?_
  refine Wk.iconst X0 hx (v := (1 : Int32)) (hb hby d18_56) rfl rfl ?_
  refine Wk.ishl X0 hx (hb hby d18_57) rfl ?_
  rw [(by decide : (((14 : Int32) <<< ((1 : Int32) &&& 31)) : Int32) = (28 : Int32))]
  exact Wk.retI' X0 hx hlk hr (hb hby d18_58) (by decide) (by decide) (Qc := Q_rm_nbl14 Z h0) e0 ⟨rfl, N0, rfl⟩
def Q_rm_nbf14 (Z : State) (h0 : Heap) (v : Option Value) (h : Heap) (L : List Loc) : Prop := ∃ t : Addr, ∃ kb : ClassId, v = some (.ref t) ∧ Fk h0.size [] L ∧ Keep h0 h [] ∧ h0.size ≤ t ∧ Arv Z h t kb .byte (28 : Int32) [(.int (0 : Int32)), (.int (0 : Int32)), (.int (0 : Int32)), (.int (0 : Int32)), (.int (0 : Int32)), (.int (0 : Int32)), (.int (0 : Int32)), (.int (0 : Int32)), (.int (0 : Int32)), (.int (0 : Int32)), (.int (0 : Int32)), (.int (0 : Int32)), (.int (0 : Int32)), (.int (0 : Int32)), (.int (0 : Int32)), (.int (0 : Int32)), (.int (0 : Int32)), (.int (0 : Int32)), (.int (0 : Int32)), (.int (0 : Int32)), (.int (0 : Int32)), (.int (0 : Int32)), (.int (0 : Int32)), (.int (0 : Int32)), (.int (0 : Int32)), (.int (0 : Int32)), (.int (0 : Int32)), (.int (0 : Int32))] (.int (0 : Int32))
set_option maxRecDepth 65536 in
set_option maxHeartbeats 40000000 in
theorem rm_nbf14 (l : Launch) (Z : State) (a0 : Array Value) (hw : ∀ d ∈ tables_1, d.before a0 Z = true) (ws : List Jvm.Cond) (h0 : Heap) (O0 : Old Z Z.heap.size h0) :
    Ctr l Z (⟨"java/lang/StringUTF16", "newBytesFor", "(I)[B"⟩ : MethodName) jdk_52_method_2_code 1 (some (.array .byte)) ws ({ frames := 1, cells := 1, slots := 28, locals := 12 } : Room) #[(.int (14 : Int32))] h0 (Q_rm_nbf14 Z h0) := by
  refine Ctr.intro (Ls := fun _ => #[.val (.int (14 : Int32))]) (plainFor_of_name pn7) (fun m => by first | rfl | (simp [entryFrame, mkF, argsToLocals, Value.category]; done)) ?_
  intro p e s m below meth c s₁ hx hby hml hr hlk hZ hown hnm hs0 X0 e0
  have w : ∀ (k : Nat) (d : Jvm.Cond), tables_1[k]? = some d → d.before a0 Z = true := fun k d q => hw d (List.mem_of_getElem? q)
  have N0 := Fk.nil h0.size []
  refine Wk.iloadN X0 hx (hb hby d17_0) rfl rfl ?_
  refine Wk.callS X0 hx hZ hown (w 94 _ rfl) (w 95 _ rfl) (w 49 _ rfl) (w 96 _ rfl) (by decide) (as' := [(.int (14 : Int32))]) (backOf (W := 0) (rm_nbl14 l Z a0 hw [] h0 O0) hZ (w 96 _ rfl) (w 49 _ rfl) (by decide) (by decide)) e0 (by rw [hml]; rfl) (rest := []) (lenOf pd8 rfl) rfl (Nat.le_of_eq rfl) (hb hby d17_1) rfl (by decide) (by decide) ?_
  intro T1 h1 v1 L1 X1 e1 hQ1
  obtain ⟨rfl, Nq1, K1⟩ := hQ1
  have N1 := Fk.app N0 Nq1 (Nat.le_refl _) all0
  rw [K1] at e1
  show Wp p e below _ _ T1 (mkF m 4 #[.val (.int (14 : Int32))] [(.int (28 : Int32))])
  refine Wk.newarray X1 hx hZ (w 3 _ rfl) e1 (hb hby d17_4) rfl (by decide) 28 (by decide) (by decide) (by decide) (by decide) ?_
  intro T2 h2 a2 kA2 g2 X2 e2 E2 A2
  have O3 : Old Z Z.heap.size h2 := O0.ext E2
  have V2 : Arv Z h2 a2 kA2 .byte (28 : Int32) [(.int (0 : Int32)), (.int (0 : Int32)), (.int (0 : Int32)), (.int (0 : Int32)), (.int (0 : Int32)), (.int (0 : Int32)), (.int (0 : Int32)), (.int (0 : Int32)), (.int (0 : Int32)), (.int (0 : Int32)), (.int (0 : Int32)), (.int (0 : Int32)), (.int (0 : Int32)), (.int (0 : Int32)), (.int (0 : Int32)), (.int (0 : Int32)), (.int (0 : Int32)), (.int (0 : Int32)), (.int (0 : Int32)), (.int (0 : Int32)), (.int (0 : Int32)), (.int (0 : Int32)), (.int (0 : Int32)), (.int (0 : Int32)), (.int (0 : Int32)), (.int (0 : Int32)), (.int (0 : Int32)), (.int (0 : Int32))] (.int (0 : Int32)) := A2.pad (pad_rep [] (.int (0 : Int32)) 28)
  have KK4 : Keep h0 h2 [] := ((Keep.refl h0 []).ext E2)
  exact Wk.retA' X2 hx hlk hr rfl rfl (hb hby d17_6) (by decide) (by decide) (Qc := Q_rm_nbf14 Z h0) e2 ⟨a2, kA2, rfl, N1, KK4, (Nat.le_of_eq g2), V2⟩
def Q_rm_tob14 (Z : State) (b : Addr) (kc : ClassId) (cz0 : Int32) (cz1 : Int32) (cz2 : Int32) (cz3 : Int32) (cz4 : Int32) (cz5 : Int32) (cz6 : Int32) (cz7 : Int32) (cz8 : Int32) (cz9 : Int32) (cz10 : Int32) (cz11 : Int32) (cz12 : Int32) (cz13 : Int32) (h0 : Heap) (v : Option Value) (h : Heap) (L : List Loc) : Prop := ∃ t : Addr, ∃ kb : ClassId, v = some (.ref t) ∧ Fk h0.size [] L ∧ Keep h0 h [] ∧ h0.size ≤ t ∧ Arv Z h t kb .byte (28 : Int32) [(.int (own_b0 cz0)), (.int (own_b1 cz0)), (.int (own_b0 cz1)), (.int (own_b1 cz1)), (.int (own_b0 cz2)), (.int (own_b1 cz2)), (.int (own_b0 cz3)), (.int (own_b1 cz3)), (.int (own_b0 cz4)), (.int (own_b1 cz4)), (.int (own_b0 cz5)), (.int (own_b1 cz5)), (.int (own_b0 cz6)), (.int (own_b1 cz6)), (.int (own_b0 cz7)), (.int (own_b1 cz7)), (.int (own_b0 cz8)), (.int (own_b1 cz8)), (.int (own_b0 cz9)), (.int (own_b1 cz9)), (.int (own_b0 cz10)), (.int (own_b1 cz10)), (.int (own_b0 cz11)), (.int (own_b1 cz11)), (.int (own_b0 cz12)), (.int (own_b1 cz12)), (.int (own_b0 cz13)), (.int (own_b1 cz13))] (.int (0 : Int32))
set_option maxRecDepth 65536 in
set_option maxHeartbeats 40000000 in
theorem rm_tob14 (l : Launch) (Z : State) (a0 : Array Value) (hw : ∀ d ∈ tables_1, d.before a0 Z = true) (ws : List Jvm.Cond) (b : Addr) (kc : ClassId) (cz0 : Int32) (cz1 : Int32) (cz2 : Int32) (cz3 : Int32) (cz4 : Int32) (cz5 : Int32) (cz6 : Int32) (cz7 : Int32) (cz8 : Int32) (cz9 : Int32) (cz10 : Int32) (cz11 : Int32) (cz12 : Int32) (cz13 : Int32) (h0 : Heap) (O0 : Old Z Z.heap.size h0) (sH : Sta Z Z.heap "java/lang/StringUTF16" "HI_BYTE_SHIFT" "I" (.int (0 : Int32))) (sL : Sta Z Z.heap "java/lang/StringUTF16" "LO_BYTE_SHIFT" "I" (.int (8 : Int32))) (sA : Sta Z Z.heap "java/lang/StringUTF16" "$assertionsDisabled" "Z" (.int (1 : Int32))) (hA : Arv Z h0 b kc .char (14 : Int32) [(.int cz0), (.int cz1), (.int cz2), (.int cz3), (.int cz4), (.int cz5), (.int cz6), (.int cz7), (.int cz8), (.int cz9), (.int cz10), (.int cz11), (.int cz12), (.int cz13)] (.int (0 : Int32))) :
    Ctr l Z (⟨"java/lang/StringUTF16", "toBytes", "([CII)[B"⟩ : MethodName) jdk_52_method_14_code 5 (some (.array .byte)) ws ({ frames := 2, cells := 1, slots := 28, locals := 24 } : Room) #[(.ref b), (.int (0 : Int32)), (.int (14 : Int32))] h0 (Q_rm_tob14 Z b kc cz0 cz1 cz2 cz3 cz4 cz5 cz6 cz7 cz8 cz9 cz10 cz11 cz12 cz13 h0) := by
  refine Ctr.intro (Ls := fun _ => #[.val (.ref b), .val (.int (0 : Int32)), .val (.int (14 : Int32)), .unset, .unset]) (plainFor_of_name pn7) (fun m => by first | rfl | (simp [entryFrame, mkF, argsToLocals, Value.category]; done)) ?_
  intro p e s m below meth c s₁ hx hby hml hr hlk hZ hown hnm hs0 X0 e0
  have w : ∀ (k : Nat) (d : Jvm.Cond), tables_1[k]? = some d → d.before a0 Z = true := fun k d q => hw d (List.mem_of_getElem? q)
  have N0 := Fk.nil h0.size []
  refine Wk.iloadN X0 hx (hb hby d16_0) rfl rfl ?_
  refine Wk.callS X0 hx hZ hown (w 91 _ rfl) (w 92 _ rfl) (w 49 _ rfl) (w 93 _ rfl) (by decide) (as' := [(.int (14 : Int32))]) (backOf (W := 0) (rm_nbf14 l Z a0 hw [] h0 O0) hZ (w 93 _ rfl) (w 49 _ rfl) (by decide) (by decide)) e0 (by rw [hml]; rfl) (rest := []) (lenOf pd9 rfl) rfl (Nat.le_of_eq rfl) (hb hby d16_1) rfl (by decide) (by decide) ?_
  intro T1 h1 v1 L1 X1 e1 hQ1
  obtain ⟨t1, kb1, rfl, Nq1, K1, q1_0, q1_1⟩ := hQ1
  have N1 := Fk.app N0 Nq1 (Nat.le_refl _) all0
  have O2 : Old Z Z.heap.size h1 := O0.keep K1 all0
  show Wp p e below _ _ T1 (mkF m 4 #[.val (.ref b), .val (.int (0 : Int32)), .val (.int (14 : Int32)), .unset, .unset] [(.ref t1)])
  refine Wk.astoreN X1 hx (Ls' := #[.val (.ref b), .val (.int (0 : Int32)), .val (.int (14 : Int32)), .val (.ref t1), .unset]) (hb hby d16_4) rfl rfl rfl ?_
  refine Wk.iconst X1 hx (v := (0 : Int32)) (hb hby d16_5) rfl rfl ?_
  refine Wk.istore X1 hx (Ls' := #[.val (.ref b), .val (.int (0 : Int32)), .val (.int (14 : Int32)), .val (.ref t1), .val (.int (0 : Int32))]) (hb hby d16_6) rfl rfl ?_
  refine Wk.iload X1 hx (hb hby d16_8) rfl rfl ?_
  refine Wk.iloadN X1 hx (hb hby d16_10) rfl rfl ?_
  refine Wk.icmpNo X1 hx (hb hby d16_11) rfl (tlt (by decide : (0 : Int32) < (14 : Int32))).2.1 ?_
  refine Wk.aloadN X1 hx (hb hby d16_14) rfl rfl rfl ?_
  refine Wk.iload X1 hx (hb hby d16_15) rfl rfl ?_
  refine Wk.aloadN X1 hx (hb hby d16_17) rfl rfl rfl ?_
  refine Wk.iloadN X1 hx (hb hby d16_18) rfl rfl ?_
  have KK3 : Keep h0 h1 [] := ((Keep.refl h0 []).trans K1 all0)
  have f4 := (hA.keep KK3 nin0)
  refine Wk.caload X1 hx hZ e1 f4 (by decide) (by decide) (v := cz0) rfl (hb hby d16_19) rfl ?_
  refine Wk.callS X1 hx hZ hown (w 98 _ rfl) (w 99 _ rfl) (w 49 _ rfl) (w 100 _ rfl) (by decide) (as' := [(.ref t1), (.int (0 : Int32)), (.int cz0)]) (backOf (W := 0) (rm_put l Z a0 hw [] t1 (0 : Int32) cz0 kb1 (28 : Int32) _ 0 h1 O2 sH sL sA q1_1 (by decide) (by decide) (by decide) (by decide) (by decide) (by decide) (Nat.le_of_ble_eq_true rfl) (Nat.le_trans (Nat.le_trans (Nat.le_trans (Nat.le_of_eq O0.1.symm) O0.2.1) (Keep.refl h0 []).1) q1_0)) hZ (w 100 _ rfl) (w 49 _ rfl) (by decide) (by decide)) e1 (by rw [hml]; rfl) (rest := []) (lenOf pd10 rfl) rfl (Nat.le_of_eq rfl) (hb hby d16_20) rfl (by decide) (by decide) ?_
  intro T5 h5 v5 L5 X5 e5 hQ5
  obtain ⟨rfl, Nq5, K5, q5_0⟩ := hQ5
  have N5 := Fk.app N1 Nq5 KK3.1 (allS (Or.inr q1_0) all0)
  have O6 : Old Z Z.heap.size h5 := O2.keep K5 (allS (Nat.le_trans (Nat.le_trans (Nat.le_trans (Nat.le_of_eq O0.1.symm) O0.2.1) (Keep.refl h0 []).1) q1_0) all0)
  have Vl7 : Arv Z h5 t1 kb1 .byte (28 : Int32) [(.int (own_b0 cz0)), (.int (own_b1 cz0)), (.int (0 : Int32)), (.int (0 : Int32)), (.int (0 : Int32)), (.int (0 : Int32)), (.int (0 : Int32)), (.int (0 : Int32)), (.int (0 : Int32)), (.int (0 : Int32)), (.int (0 : Int32)), (.int (0 : Int32)), (.int (0 : Int32)), (.int (0 : Int32)), (.int (0 : Int32)), (.int (0 : Int32)), (.int (0 : Int32)), (.int (0 : Int32)), (.int (0 : Int32)), (.int (0 : Int32)), (.int (0 : Int32)), (.int (0 : Int32)), (.int (0 : Int32)), (.int (0 : Int32)), (.int (0 : Int32)), (.int (0 : Int32)), (.int (0 : Int32)), (.int (0 : Int32))] (.int (0 : Int32)) := q5_0
  show Wp p e below _ _ T5 (mkF m 23 #[.val (.ref b), .val (.int (0 : Int32)), .val (.int (14 : Int32)), .val (.ref t1), .val (.int (0 : Int32))] [])
  refine Wk.iinc X5 hx (Ls' := #[.val (.ref b), .val (.int (1 : Int32)), .val (.int (14 : Int32)), .val (.ref t1), .val (.int (0 : Int32))]) (hb hby d16_23) rfl rfl rfl ?_
  refine Wk.iinc X5 hx (Ls' := #[.val (.ref b), .val (.int (1 : Int32)), .val (.int (14 : Int32)), .val (.ref t1), .val (.int (1 : Int32))]) (hb hby d16_26) rfl rfl rfl ?_
  refine Wk.goto X5 hx (hb hby d16_29) (by decide) (q := 8) rfl ?_
  refine Wk.iload X5 hx (hb hby d16_8) rfl rfl ?_
  refine Wk.iloadN X5 hx (hb hby d16_10) rfl rfl ?_
  refine Wk.icmpNo X5 hx (hb hby d16_11) rfl (tlt (by decide : (1 : Int32) < (14 : Int32))).2.1 ?_
  refine Wk.aloadN X5 hx (hb hby d16_14) rfl rfl rfl ?_
  refine Wk.iload X5 hx (hb hby d16_15) rfl rfl ?_
  refine Wk.aloadN X5 hx (hb hby d16_17) rfl rfl rfl ?_
  refine Wk.iloadN X5 hx (hb hby d16_18) rfl rfl ?_
  have KK8 : Keep h0 h5 [] := (KK3.trans K5 (allS (Or.inr q1_0) all0))
  have f9 := (hA.keep KK8 nin0)
  refine Wk.caload X5 hx hZ e5 f9 (by decide) (by decide) (v := cz1) rfl (hb hby d16_19) rfl ?_
  refine Wk.callS X5 hx hZ hown (w 98 _ rfl) (w 99 _ rfl) (w 49 _ rfl) (w 100 _ rfl) (by decide) (as' := [(.ref t1), (.int (1 : Int32)), (.int cz1)]) (backOf (W := 0) (rm_put l Z a0 hw [] t1 (1 : Int32) cz1 kb1 (28 : Int32) _ 2 h5 O6 sH sL sA Vl7 (by decide) (by decide) (by decide) (by decide) (by decide) (by decide) (Nat.le_of_ble_eq_true rfl) (Nat.le_trans (Nat.le_trans (Nat.le_trans (Nat.le_of_eq O0.1.symm) O0.2.1) (Keep.refl h0 []).1) q1_0)) hZ (w 100 _ rfl) (w 49 _ rfl) (by decide) (by decide)) e5 (by rw [hml]; rfl) (rest := []) (lenOf pd10 rfl) rfl (Nat.le_of_eq rfl) (hb hby d16_20) rfl (by decide) (by decide) ?_
  intro T10 h10 v10 L10 X10 e10 hQ10
  obtain ⟨rfl, Nq10, K10, q10_0⟩ := hQ10
  have N10 := Fk.app N5 Nq10 KK8.1 (allS (Or.inr q1_0) all0)
  have O11 : Old Z Z.heap.size h10 := O6.keep K10 (allS (Nat.le_trans (Nat.le_trans (Nat.le_trans (Nat.le_of_eq O0.1.symm) O0.2.1) (Keep.refl h0 []).1) q1_0) all0)
  have Vl12 : Arv Z h10 t1 kb1 .byte (28 : Int32) [(.int (own_b0 cz0)), (.int (own_b1 cz0)), (.int (own_b0 cz1)), (.int (own_b1 cz1)), (.int (0 : Int32)), (.int (0 : Int32)), (.int (0 : Int32)), (.int (0 : Int32)), (.int (0 : Int32)), (.int (0 : Int32)), (.int (0 : Int32)), (.int (0 : Int32)), (.int (0 : Int32)), (.int (0 : Int32)), (.int (0 : Int32)), (.int (0 : Int32)), (.int (0 : Int32)), (.int (0 : Int32)), (.int (0 : Int32)), (.int (0 : Int32)), (.int (0 : Int32)), (.int (0 : Int32)), (.int (0 : Int32)), (.int (0 : Int32)), (.int (0 : Int32)), (.int (0 : Int32)), (.int (0 : Int32)), (.int (0 : Int32))] (.int (0 : Int32)) := q10_0
  show Wp p e below _ _ T10 (mkF m 23 #[.val (.ref b), .val (.int (1 : Int32)), .val (.int (14 : Int32)), .val (.ref t1), .val (.int (1 : Int32))] [])
  refine Wk.iinc X10 hx (Ls' := #[.val (.ref b), .val (.int (2 : Int32)), .val (.int (14 : Int32)), .val (.ref t1), .val (.int (1 : Int32))]) (hb hby d16_23) rfl rfl rfl ?_
  refine Wk.iinc X10 hx (Ls' := #[.val (.ref b), .val (.int (2 : Int32)), .val (.int (14 : Int32)), .val (.ref t1), .val (.int (2 : Int32))]) (hb hby d16_26) rfl rfl rfl ?_
  refine Wk.goto X10 hx (hb hby d16_29) (by decide) (q := 8) rfl ?_
  refine Wk.iload X10 hx (hb hby d16_8) rfl rfl ?_
  refine Wk.iloadN X10 hx (hb hby d16_10) rfl rfl ?_
  refine Wk.icmpNo X10 hx (hb hby d16_11) rfl (tlt (by decide : (2 : Int32) < (14 : Int32))).2.1 ?_
  refine Wk.aloadN X10 hx (hb hby d16_14) rfl rfl rfl ?_
  refine Wk.iload X10 hx (hb hby d16_15) rfl rfl ?_
  refine Wk.aloadN X10 hx (hb hby d16_17) rfl rfl rfl ?_
  refine Wk.iloadN X10 hx (hb hby d16_18) rfl rfl ?_
  have KK13 : Keep h0 h10 [] := (KK8.trans K10 (allS (Or.inr q1_0) all0))
  have f14 := (hA.keep KK13 nin0)
  refine Wk.caload X10 hx hZ e10 f14 (by decide) (by decide) (v := cz2) rfl (hb hby d16_19) rfl ?_
  refine Wk.callS X10 hx hZ hown (w 98 _ rfl) (w 99 _ rfl) (w 49 _ rfl) (w 100 _ rfl) (by decide) (as' := [(.ref t1), (.int (2 : Int32)), (.int cz2)]) (backOf (W := 0) (rm_put l Z a0 hw [] t1 (2 : Int32) cz2 kb1 (28 : Int32) _ 4 h10 O11 sH sL sA Vl12 (by decide) (by decide) (by decide) (by decide) (by decide) (by decide) (Nat.le_of_ble_eq_true rfl) (Nat.le_trans (Nat.le_trans (Nat.le_trans (Nat.le_of_eq O0.1.symm) O0.2.1) (Keep.refl h0 []).1) q1_0)) hZ (w 100 _ rfl) (w 49 _ rfl) (by decide) (by decide)) e10 (by rw [hml]; rfl) (rest := []) (lenOf pd10 rfl) rfl (Nat.le_of_eq rfl) (hb hby d16_20) rfl (by decide) (by decide) ?_
  intro T15 h15 v15 L15 X15 e15 hQ15
  obtain ⟨rfl, Nq15, K15, q15_0⟩ := hQ15
  have N15 := Fk.app N10 Nq15 KK13.1 (allS (Or.inr q1_0) all0)
  have O16 : Old Z Z.heap.size h15 := O11.keep K15 (allS (Nat.le_trans (Nat.le_trans (Nat.le_trans (Nat.le_of_eq O0.1.symm) O0.2.1) (Keep.refl h0 []).1) q1_0) all0)
  have Vl17 : Arv Z h15 t1 kb1 .byte (28 : Int32) [(.int (own_b0 cz0)), (.int (own_b1 cz0)), (.int (own_b0 cz1)), (.int (own_b1 cz1)), (.int (own_b0 cz2)), (.int (own_b1 cz2)), (.int (0 : Int32)), (.int (0 : Int32)), (.int (0 : Int32)), (.int (0 : Int32)), (.int (0 : Int32)), (.int (0 : Int32)), (.int (0 : Int32)), (.int (0 : Int32)), (.int (0 : Int32)), (.int (0 : Int32)), (.int (0 : Int32)), (.int (0 : Int32)), (.int (0 : Int32)), (.int (0 : Int32)), (.int (0 : Int32)), (.int (0 : Int32)), (.int (0 : Int32)), (.int (0 : Int32)), (.int (0 : Int32)), (.int (0 : Int32)), (.int (0 : Int32)), (.int (0 : Int32))] (.int (0 : Int32)) := q15_0
  show Wp p e below _ _ T15 (mkF m 23 #[.val (.ref b), .val (.int (2 : Int32)), .val (.int (14 : Int32)), .val (.ref t1), .val (.int (2 : Int32))] [])
  refine Wk.iinc X15 hx (Ls' := #[.val (.ref b), .val (.int (3 : Int32)), .val (.int (14 : Int32)), .val (.ref t1), .val (.int (2 : Int32))]) (hb hby d16_23) rfl rfl rfl ?_
  refine Wk.iinc X15 hx (Ls' := #[.val (.ref b), .val (.int (3 : Int32)), .val (.int (14 : Int32)), .val (.ref t1), .val (.int (3 : Int32))]) (hb hby d16_26) rfl rfl rfl ?_
  refine Wk.goto X15 hx (hb hby d16_29) (by decide) (q := 8) rfl ?_
  refine Wk.iload X15 hx (hb hby d16_8) rfl rfl ?_
  refine Wk.iloadN X15 hx (hb hby d16_10) rfl rfl ?_
  refine Wk.icmpNo X15 hx (hb hby d16_11) rfl (tlt (by decide : (3 : Int32) < (14 : Int32))).2.1 ?_
  refine Wk.aloadN X15 hx (hb hby d16_14) rfl rfl rfl ?_
  refine Wk.iload X15 hx (hb hby d16_15) rfl rfl ?_
  refine Wk.aloadN X15 hx (hb hby d16_17) rfl rfl rfl ?_
  refine Wk.iloadN X15 hx (hb hby d16_18) rfl rfl ?_
  have KK18 : Keep h0 h15 [] := (KK13.trans K15 (allS (Or.inr q1_0) all0))
  have f19 := (hA.keep KK18 nin0)
  refine Wk.caload X15 hx hZ e15 f19 (by decide) (by decide) (v := cz3) rfl (hb hby d16_19) rfl ?_
  refine Wk.callS X15 hx hZ hown (w 98 _ rfl) (w 99 _ rfl) (w 49 _ rfl) (w 100 _ rfl) (by decide) (as' := [(.ref t1), (.int (3 : Int32)), (.int cz3)]) (backOf (W := 0) (rm_put l Z a0 hw [] t1 (3 : Int32) cz3 kb1 (28 : Int32) _ 6 h15 O16 sH sL sA Vl17 (by decide) (by decide) (by decide) (by decide) (by decide) (by decide) (Nat.le_of_ble_eq_true rfl) (Nat.le_trans (Nat.le_trans (Nat.le_trans (Nat.le_of_eq O0.1.symm) O0.2.1) (Keep.refl h0 []).1) q1_0)) hZ (w 100 _ rfl) (w 49 _ rfl) (by decide) (by decide)) e15 (by rw [hml]; rfl) (rest := []) (lenOf pd10 rfl) rfl (Nat.le_of_eq rfl) (hb hby d16_20) rfl (by decide) (by decide) ?_
  intro T20 h20 v20 L20 X20 e20 hQ20
  obtain ⟨rfl, Nq20, K20, q20_0⟩ := hQ20
  have N20 := Fk.app N15 Nq20 KK18.1 (allS (Or.inr q1_0) all0)
  have O21 : Old Z Z.heap.size h20 := O16.keep K20 (allS (Nat.le_trans (Nat.le_trans (Nat.le_trans (Nat.le_of_eq O0.1.symm) O0.2.1) (Keep.refl h0 []).1) q1_0) all0)
  have Vl22 : Arv Z h20 t1 kb1 .byte (28 : Int32) [(.int (own_b0 cz0)), (.int (own_b1 cz0)), (.int (own_b0 cz1)), (.int (own_b1 cz1)), (.int (own_b0 cz2)), (.int (own_b1 cz2)), (.int (own_b0 cz3)), (.int (own_b1 cz3)), (.int (0 : Int32)), (.int (0 : Int32)), (.int (0 : Int32)), (.int (0 : Int32)), (.int (0 : Int32)), (.int (0 : Int32)), (.int (0 : Int32)), (.int (0 : Int32)), (.int (0 : Int32)), (.int (0 : Int32)), (.int (0 : Int32)), (.int (0 : Int32)), (.int (0 : Int32)), (.int (0 : Int32)), (.int (0 : Int32)), (.int (0 : Int32)), (.int (0 : Int32)), (.int (0 : Int32)), (.int (0 : Int32)), (.int (0 : Int32))] (.int (0 : Int32)) := q20_0
  show Wp p e below _ _ T20 (mkF m 23 #[.val (.ref b), .val (.int (3 : Int32)), .val (.int (14 : Int32)), .val (.ref t1), .val (.int (3 : Int32))] [])
  refine Wk.iinc X20 hx (Ls' := #[.val (.ref b), .val (.int (4 : Int32)), .val (.int (14 : Int32)), .val (.ref t1), .val (.int (3 : Int32))]) (hb hby d16_23) rfl rfl rfl ?_
  refine Wk.iinc X20 hx (Ls' := #[.val (.ref b), .val (.int (4 : Int32)), .val (.int (14 : Int32)), .val (.ref t1), .val (.int (4 : Int32))]) (hb hby d16_26) rfl rfl rfl ?_
  refine Wk.goto X20 hx (hb hby d16_29) (by decide) (q := 8) rfl ?_
  refine Wk.iload X20 hx (hb hby d16_8) rfl rfl ?_
  refine Wk.iloadN X20 hx (hb hby d16_10) rfl rfl ?_
  refine Wk.icmpNo X20 hx (hb hby d16_11) rfl (tlt (by decide : (4 : Int32) < (14 : Int32))).2.1 ?_
  refine Wk.aloadN X20 hx (hb hby d16_14) rfl rfl rfl ?_
  refine Wk.iload X20 hx (hb hby d16_15) rfl rfl ?_
  refine Wk.aloadN X20 hx (hb hby d16_17) rfl rfl rfl ?_
  refine Wk.iloadN X20 hx (hb hby d16_18) rfl rfl ?_
  have KK23 : Keep h0 h20 [] := (KK18.trans K20 (allS (Or.inr q1_0) all0))
  have f24 := (hA.keep KK23 nin0)
  refine Wk.caload X20 hx hZ e20 f24 (by decide) (by decide) (v := cz4) rfl (hb hby d16_19) rfl ?_
  refine Wk.callS X20 hx hZ hown (w 98 _ rfl) (w 99 _ rfl) (w 49 _ rfl) (w 100 _ rfl) (by decide) (as' := [(.ref t1), (.int (4 : Int32)), (.int cz4)]) (backOf (W := 0) (rm_put l Z a0 hw [] t1 (4 : Int32) cz4 kb1 (28 : Int32) _ 8 h20 O21 sH sL sA Vl22 (by decide) (by decide) (by decide) (by decide) (by decide) (by decide) (Nat.le_of_ble_eq_true rfl) (Nat.le_trans (Nat.le_trans (Nat.le_trans (Nat.le_of_eq O0.1.symm) O0.2.1) (Keep.refl h0 []).1) q1_0)) hZ (w 100 _ rfl) (w 49 _ rfl) (by decide) (by decide)) e20 (by rw [hml]; rfl) (rest := []) (lenOf pd10 rfl) rfl (Nat.le_of_eq rfl) (hb hby d16_20) rfl (by decide) (by decide) ?_
  intro T25 h25 v25 L25 X25 e25 hQ25
  obtain ⟨rfl, Nq25, K25, q25_0⟩ := hQ25
  have N25 := Fk.app N20 Nq25 KK23.1 (allS (Or.inr q1_0) all0)
  have O26 : Old Z Z.heap.size h25 := O21.keep K25 (allS (Nat.le_trans (Nat.le_trans (Nat.le_trans (Nat.le_of_eq O0.1.symm) O0.2.1) (Keep.refl h0 []).1) q1_0) all0)
  have Vl27 : Arv Z h25 t1 kb1 .byte (28 : Int32) [(.int (own_b0 cz0)), (.int (own_b1 cz0)), (.int (own_b0 cz1)), (.int (own_b1 cz1)), (.int (own_b0 cz2)), (.int (own_b1 cz2)), (.int (own_b0 cz3)), (.int (own_b1 cz3)), (.int (own_b0 cz4)), (.int (own_b1 cz4)), (.int (0 : Int32)), (.int (0 : Int32)), (.int (0 : Int32)), (.int (0 : Int32)), (.int (0 : Int32)), (.int (0 : Int32)), (.int (0 : Int32)), (.int (0 : Int32)), (.int (0 : Int32)), (.int (0 : Int32)), (.int (0 : Int32)), (.int (0 : Int32)), (.int (0 : Int32)), (.int (0 : Int32)), (.int (0 : Int32)), (.int (0 : Int32)), (.int (0 : Int32)), (.int (0 : Int32))] (.int (0 : Int32)) := q25_0
  show Wp p e below _ _ T25 (mkF m 23 #[.val (.ref b), .val (.int (4 : Int32)), .val (.int (14 : Int32)), .val (.ref t1), .val (.int (4 : Int32))] [])
  refine Wk.iinc X25 hx (Ls' := #[.val (.ref b), .val (.int (5 : Int32)), .val (.int (14 : Int32)), .val (.ref t1), .val (.int (4 : Int32))]) (hb hby d16_23) rfl rfl rfl ?_
  refine Wk.iinc X25 hx (Ls' := #[.val (.ref b), .val (.int (5 : Int32)), .val (.int (14 : Int32)), .val (.ref t1), .val (.int (5 : Int32))]) (hb hby d16_26) rfl rfl rfl ?_
  refine Wk.goto X25 hx (hb hby d16_29) (by decide) (q := 8) rfl ?_
  refine Wk.iload X25 hx (hb hby d16_8) rfl rfl ?_
  refine Wk.iloadN X25 hx (hb hby d16_10) rfl rfl ?_
  refine Wk.icmpNo X25 hx (hb hby d16_11) rfl (tlt (by decide : (5 : Int32) < (14 : Int32))).2.1 ?_
  refine Wk.aloadN X25 hx (hb hby d16_14) rfl rfl rfl ?_
  refine Wk.iload X25 hx (hb hby d16_15) rfl rfl ?_
  refine Wk.aloadN X25 hx (hb hby d16_17) rfl rfl rfl ?_
  refine Wk.iloadN X25 hx (hb hby d16_18) rfl rfl ?_
  have KK28 : Keep h0 h25 [] := (KK23.trans K25 (allS (Or.inr q1_0) all0))
  have f29 := (hA.keep KK28 nin0)
  refine Wk.caload X25 hx hZ e25 f29 (by decide) (by decide) (v := cz5) rfl (hb hby d16_19) rfl ?_
  refine Wk.callS X25 hx hZ hown (w 98 _ rfl) (w 99 _ rfl) (w 49 _ rfl) (w 100 _ rfl) (by decide) (as' := [(.ref t1), (.int (5 : Int32)), (.int cz5)]) (backOf (W := 0) (rm_put l Z a0 hw [] t1 (5 : Int32) cz5 kb1 (28 : Int32) _ 10 h25 O26 sH sL sA Vl27 (by decide) (by decide) (by decide) (by decide) (by decide) (by decide) (Nat.le_of_ble_eq_true rfl) (Nat.le_trans (Nat.le_trans (Nat.le_trans (Nat.le_of_eq O0.1.symm) O0.2.1) (Keep.refl h0 []).1) q1_0)) hZ (w 100 _ rfl) (w 49 _ rfl) (by decide) (by decide)) e25 (by rw [hml]; rfl) (rest := []) (lenOf pd10 rfl) rfl (Nat.le_of_eq rfl) (hb hby d16_20) rfl (by decide) (by decide) ?_
  intro T30 h30 v30 L30 X30 e30 hQ30
  obtain ⟨rfl, Nq30, K30, q30_0⟩ := hQ30
  have N30 := Fk.app N25 Nq30 KK28.1 (allS (Or.inr q1_0) all0)
  have O31 : Old Z Z.heap.size h30 := O26.keep K30 (allS (Nat.le_trans (Nat.le_trans (Nat.le_trans (Nat.le_of_eq O0.1.symm) O0.2.1) (Keep.refl h0 []).1) q1_0) all0)
  have Vl32 : Arv Z h30 t1 kb1 .byte (28 : Int32) [(.int (own_b0 cz0)), (.int (own_b1 cz0)), (.int (own_b0 cz1)), (.int (own_b1 cz1)), (.int (own_b0 cz2)), (.int (own_b1 cz2)), (.int (own_b0 cz3)), (.int (own_b1 cz3)), (.int (own_b0 cz4)), (.int (own_b1 cz4)), (.int (own_b0 cz5)), (.int (own_b1 cz5)), (.int (0 : Int32)), (.int (0 : Int32)), (.int (0 : Int32)), (.int (0 : Int32)), (.int (0 : Int32)), (.int (0 : Int32)), (.int (0 : Int32)), (.int (0 : Int32)), (.int (0 : Int32)), (.int (0 : Int32)), (.int (0 : Int32)), (.int (0 : Int32)), (.int (0 : Int32)), (.int (0 : Int32)), (.int (0 : Int32)), (.int (0 : Int32))] (.int (0 : Int32)) := q30_0
  show Wp p e below _ _ T30 (mkF m 23 #[.val (.ref b), .val (.int (5 : Int32)), .val (.int (14 : Int32)), .val (.ref t1), .val (.int (5 : Int32))] [])
  refine Wk.iinc X30 hx (Ls' := #[.val (.ref b), .val (.int (6 : Int32)), .val (.int (14 : Int32)), .val (.ref t1), .val (.int (5 : Int32))]) (hb hby d16_23) rfl rfl rfl ?_
  refine Wk.iinc X30 hx (Ls' := #[.val (.ref b), .val (.int (6 : Int32)), .val (.int (14 : Int32)), .val (.ref t1), .val (.int (6 : Int32))]) (hb hby d16_26) rfl rfl rfl ?_
  refine Wk.goto X30 hx (hb hby d16_29) (by decide) (q := 8) rfl ?_
  refine Wk.iload X30 hx (hb hby d16_8) rfl rfl ?_
  refine Wk.iloadN X30 hx (hb hby d16_10) rfl rfl ?_
  refine Wk.icmpNo X30 hx (hb hby d16_11) rfl (tlt (by decide : (6 : Int32) < (14 : Int32))).2.1 ?_
  refine Wk.aloadN X30 hx (hb hby d16_14) rfl rfl rfl ?_
  refine Wk.iload X30 hx (hb hby d16_15) rfl rfl ?_
  refine Wk.aloadN X30 hx (hb hby d16_17) rfl rfl rfl ?_
  refine Wk.iloadN X30 hx (hb hby d16_18) rfl rfl ?_
  have KK33 : Keep h0 h30 [] := (KK28.trans K30 (allS (Or.inr q1_0) all0))
  have f34 := (hA.keep KK33 nin0)
  refine Wk.caload X30 hx hZ e30 f34 (by decide) (by decide) (v := cz6) rfl (hb hby d16_19) rfl ?_
  refine Wk.callS X30 hx hZ hown (w 98 _ rfl) (w 99 _ rfl) (w 49 _ rfl) (w 100 _ rfl) (by decide) (as' := [(.ref t1), (.int (6 : Int32)), (.int cz6)]) (backOf (W := 0) (rm_put l Z a0 hw [] t1 (6 : Int32) cz6 kb1 (28 : Int32) _ 12 h30 O31 sH sL sA Vl32 (by decide) (by decide) (by decide) (by decide) (by decide) (by decide) (Nat.le_of_ble_eq_true rfl) (Nat.le_trans (Nat.le_trans (Nat.le_trans (Nat.le_of_eq O0.1.symm) O0.2.1) (Keep.refl h0 []).1) q1_0)) hZ (w 100 _ rfl) (w 49 _ rfl) (by decide) (by decide)) e30 (by rw [hml]; rfl) (rest := []) (lenOf pd10 rfl) rfl (Nat.le_of_eq rfl) (hb hby d16_20) rfl (by decide) (by decide) ?_
  intro T35 h35 v35 L35 X35 e35 hQ35
  obtain ⟨rfl, Nq35, K35, q35_0⟩ := hQ35
  have N35 := Fk.app N30 Nq35 KK33.1 (allS (Or.inr q1_0) all0)
  have O36 : Old Z Z.heap.size h35 := O31.keep K35 (allS (Nat.le_trans (Nat.le_trans (Nat.le_trans (Nat.le_of_eq O0.1.symm) O0.2.1) (Keep.refl h0 []).1) q1_0) all0)
  have Vl37 : Arv Z h35 t1 kb1 .byte (28 : Int32) [(.int (own_b0 cz0)), (.int (own_b1 cz0)), (.int (own_b0 cz1)), (.int (own_b1 cz1)), (.int (own_b0 cz2)), (.int (own_b1 cz2)), (.int (own_b0 cz3)), (.int (own_b1 cz3)), (.int (own_b0 cz4)), (.int (own_b1 cz4)), (.int (own_b0 cz5)), (.int (own_b1 cz5)), (.int (own_b0 cz6)), (.int (own_b1 cz6)), (.int (0 : Int32)), (.int (0 : Int32)), (.int (0 : Int32)), (.int (0 : Int32)), (.int (0 : Int32)), (.int (0 : Int32)), (.int (0 : Int32)), (.int (0 : Int32)), (.int (0 : Int32)), (.int (0 : Int32)), (.int (0 : Int32)), (.int (0 : Int32)), (.int (0 : Int32)), (.int (0 : Int32))] (.int (0 : Int32)) := q35_0
  show Wp p e below _ _ T35 (mkF m 23 #[.val (.ref b), .val (.int (6 : Int32)), .val (.int (14 : Int32)), .val (.ref t1), .val (.int (6 : Int32))] [])
  refine Wk.iinc X35 hx (Ls' := #[.val (.ref b), .val (.int (7 : Int32)), .val (.int (14 : Int32)), .val (.ref t1), .val (.int (6 : Int32))]) (hb hby d16_23) rfl rfl rfl ?_
  refine Wk.iinc X35 hx (Ls' := #[.val (.ref b), .val (.int (7 : Int32)), .val (.int (14 : Int32)), .val (.ref t1), .val (.int (7 : Int32))]) (hb hby d16_26) rfl rfl rfl ?_
  refine Wk.goto X35 hx (hb hby d16_29) (by decide) (q := 8) rfl ?_
  refine Wk.iload X35 hx (hb hby d16_8) rfl rfl ?_
  refine Wk.iloadN X35 hx (hb hby d16_10) rfl rfl ?_
  refine Wk.icmpNo X35 hx (hb hby d16_11) rfl (tlt (by decide : (7 : Int32) < (14 : Int32))).2.1 ?_
  refine Wk.aloadN X35 hx (hb hby d16_14) rfl rfl rfl ?_
  refine Wk.iload X35 hx (hb hby d16_15) rfl rfl ?_
  refine Wk.aloadN X35 hx (hb hby d16_17) rfl rfl rfl ?_
  refine Wk.iloadN X35 hx (hb hby d16_18) rfl rfl ?_
  have KK38 : Keep h0 h35 [] := (KK33.trans K35 (allS (Or.inr q1_0) all0))
  have f39 := (hA.keep KK38 nin0)
  refine Wk.caload X35 hx hZ e35 f39 (by decide) (by decide) (v := cz7) rfl (hb hby d16_19) rfl ?_
  refine Wk.callS X35 hx hZ hown (w 98 _ rfl) (w 99 _ rfl) (w 49 _ rfl) (w 100 _ rfl) (by decide) (as' := [(.ref t1), (.int (7 : Int32)), (.int cz7)]) (backOf (W := 0) (rm_put l Z a0 hw [] t1 (7 : Int32) cz7 kb1 (28 : Int32) _ 14 h35 O36 sH sL sA Vl37 (by decide) (by decide) (by decide) (by decide) (by decide) (by decide) (Nat.le_of_ble_eq_true rfl) (Nat.le_trans (Nat.le_trans (Nat.le_trans (Nat.le_of_eq O0.1.symm) O0.2.1) (Keep.refl h0 []).1) q1_0)) hZ (w 100 _ rfl) (w 49 _ rfl) (by decide) (by decide)) e35 (by rw [hml]; rfl) (rest := []) (lenOf pd10 rfl) rfl (Nat.le_of_eq rfl) (hb hby d16_20) rfl (by decide) (by decide) ?_
  intro T40 h40 v40 L40 X40 e40 hQ40
  obtain ⟨rfl, Nq40, K40, q40_0⟩ := hQ40
  have N40 := Fk.app N35 Nq40 KK38.1 (allS (Or.inr q1_0) all0)
  have O41 : Old Z Z.heap.size h40 := O36.keep K40 (allS (Nat.le_trans (Nat.le_trans (Nat.le_trans (Nat.le_of_eq O0.1.symm) O0.2.1) (Keep.refl h0 []).1) q1_0) all0)
  have Vl42 : Arv Z h40 t1 kb1 .byte (28 : Int32) [(.int (own_b0 cz0)), (.int (own_b1 cz0)), (.int (own_b0 cz1)), (.int (own_b1 cz1)), (.int (own_b0 cz2)), (.int (own_b1 cz2)), (.int (own_b0 cz3)), (.int (own_b1 cz3)), (.int (own_b0 cz4)), (.int (own_b1 cz4)), (.int (own_b0 cz5)), (.int (own_b1 cz5)), (.int (own_b0 cz6)), (.int (own_b1 cz6)), (.int (own_b0 cz7)), (.int (own_b1 cz7)), (.int (0 : Int32)), (.int (0 : Int32)), (.int (0 : Int32)), (.int (0 : Int32)), (.int (0 : Int32)), (.int (0 : Int32)), (.int (0 : Int32)), (.int (0 : Int32)), (.int (0 : Int32)), (.int (0 : Int32)), (.int (0 : Int32)), (.int (0 : Int32))] (.int (0 : Int32)) := q40_0
  show Wp p e below _ _ T40 (mkF m 23 #[.val (.ref b), .val (.int (7 : Int32)), .val (.int (14 : Int32)), .val (.ref t1), .val (.int (7 : Int32))] [])
  refine Wk.iinc X40 hx (Ls' := #[.val (.ref b), .val (.int (8 : Int32)), .val (.int (14 : Int32)), .val (.ref t1), .val (.int (7 : Int32))]) (hb hby d16_23) rfl rfl rfl ?_
  refine Wk.iinc X40 hx (Ls' := #[.val (.ref b), .val (.int (8 : Int32)), .val (.int (14 : Int32)), .val (.ref t1), .val (.int (8 : Int32))]) (hb hby d16_26) rfl rfl rfl ?_
  refine Wk.goto X40 hx (hb hby d16_29) (by decide) (q := 8) rfl ?_
  refine Wk.iload X40 hx (hb hby d16_8) rfl rfl ?_
  refine Wk.iloadN X40 hx (hb hby d16_10) rfl rfl ?_
  refine Wk.icmpNo X40 hx (hb hby d16_11) rfl (tlt (by decide : (8 : Int32) < (14 : Int32))).2.1 ?_
  refine Wk.aloadN X40 hx (hb hby d16_14) rfl rfl rfl ?_
  refine Wk.iload X40 hx (hb hby d16_15) rfl rfl ?_
  refine Wk.aloadN X40 hx (hb hby d16_17) rfl rfl rfl ?_
  refine Wk.iloadN X40 hx (hb hby d16_18) rfl rfl ?_
  have KK43 : Keep h0 h40 [] := (KK38.trans K40 (allS (Or.inr q1_0) all0))
  have f44 := (hA.keep KK43 nin0)
  refine Wk.caload X40 hx hZ e40 f44 (by decide) (by decide) (v := cz8) rfl (hb hby d16_19) rfl ?_
  refine Wk.callS X40 hx hZ hown (w 98 _ rfl) (w 99 _ rfl) (w 49 _ rfl) (w 100 _ rfl) (by decide) (as' := [(.ref t1), (.int (8 : Int32)), (.int cz8)]) (backOf (W := 0) (rm_put l Z a0 hw [] t1 (8 : Int32) cz8 kb1 (28 : Int32) _ 16 h40 O41 sH sL sA Vl42 (by decide) (by decide) (by decide) (by decide) (by decide) (by decide) (Nat.le_of_ble_eq_true rfl) (Nat.le_trans (Nat.le_trans (Nat.le_trans (Nat.le_of_eq O0.1.symm) O0.2.1) (Keep.refl h0 []).1) q1_0)) hZ (w 100 _ rfl) (w 49 _ rfl) (by decide) (by decide)) e40 (by rw [hml]; rfl) (rest := []) (lenOf pd10 rfl) rfl (Nat.le_of_eq rfl) (hb hby d16_20) rfl (by decide) (by decide) ?_
  intro T45 h45 v45 L45 X45 e45 hQ45
  obtain ⟨rfl, Nq45, K45, q45_0⟩ := hQ45
  have N45 := Fk.app N40 Nq45 KK43.1 (allS (Or.inr q1_0) all0)
  have O46 : Old Z Z.heap.size h45 := O41.keep K45 (allS (Nat.le_trans (Nat.le_trans (Nat.le_trans (Nat.le_of_eq O0.1.symm) O0.2.1) (Keep.refl h0 []).1) q1_0) all0)
  have Vl47 : Arv Z h45 t1 kb1 .byte (28 : Int32) [(.int (own_b0 cz0)), (.int (own_b1 cz0)), (.int (own_b0 cz1)), (.int (own_b1 cz1)), (.int (own_b0 cz2)), (.int (own_b1 cz2)), (.int (own_b0 cz3)), (.int (own_b1 cz3)), (.int (own_b0 cz4)), (.int (own_b1 cz4)), (.int (own_b0 cz5)), (.int (own_b1 cz5)), (.int (own_b0 cz6)), (.int (own_b1 cz6)), (.int (own_b0 cz7)), (.int (own_b1 cz7)), (.int (own_b0 cz8)), (.int (own_b1 cz8)), (.int (0 : Int32)), (.int (0 : Int32)), (.int (0 : Int32)), (.int (0 : Int32)), (.int (0 : Int32)), (.int (0 : Int32)), (.int (0 : Int32)), (.int (0 : Int32)), (.int (0 : Int32)), (.int (0 : Int32))] (.int (0 : Int32)) := q45_0
  show Wp p e below _ _ T45 (mkF m 23 #[.val (.ref b), .val (.int (8 : Int32)), .val (.int (14 : Int32)), .val (.ref t1), .val (.int (8 : Int32))] [])
  refine Wk.iinc X45 hx (Ls' := #[.val (.ref b), .val (.int (9 : Int32)), .val (.int (14 : Int32)), .val (.ref t1), .val (.int (8 : Int32))]) (hb hby d16_23) rfl rfl rfl ?_
  refine Wk.iinc X45 hx (Ls' := #[.val (.ref b), .val (.int (9 : Int32)), .val (.int (14 : Int32)), .val (.ref t1), .val (.int (9 : Int32))]) (hb hby d16_26) rfl rfl rfl ?_
  refine Wk.goto X45 hx (hb hby d16_29) (by decide) (q := 8) rfl ?_
  refine Wk.iload X45 hx (hb hby d16_8) rfl rfl ?_
  refine Wk.iloadN X45 hx (hb hby d16_10) rfl rfl ?_
  refine Wk.icmpNo X45 hx (hb hby d16_11) rfl (tlt (by decide : (9 : Int32) < (14 : Int32))).2.1 ?_
  refine Wk.aloadN X45 hx (hb hby d16_14) rfl rfl rfl ?_
  refine Wk.iload X45 hx (hb hby d16_15) rfl rfl ?_
  refine Wk.aloadN X45 hx (hb hby d16_17) rfl rfl rfl ?_
  refine Wk.iloadN X45 hx (hb hby d16_18) rfl rfl ?_
  have KK48 : Keep h0 h45 [] := (KK43.trans K45 (allS (Or.inr q1_0) all0))
  have f49 := (hA.keep KK48 nin0)
  refine Wk.caload X45 hx hZ e45 f49 (by decide) (by decide) (v := cz9) rfl (hb hby d16_19) rfl ?_
  refine Wk.callS X45 hx hZ hown (w 98 _ rfl) (w 99 _ rfl) (w 49 _ rfl) (w 100 _ rfl) (by decide) (as' := [(.ref t1), (.int (9 : Int32)), (.int cz9)]) (backOf (W := 0) (rm_put l Z a0 hw [] t1 (9 : Int32) cz9 kb1 (28 : Int32) _ 18 h45 O46 sH sL sA Vl47 (by decide) (by decide) (by decide) (by decide) (by decide) (by decide) (Nat.le_of_ble_eq_true rfl) (Nat.le_trans (Nat.le_trans (Nat.le_trans (Nat.le_of_eq O0.1.symm) O0.2.1) (Keep.refl h0 []).1) q1_0)) hZ (w 100 _ rfl) (w 49 _ rfl) (by decide) (by decide)) e45 (by rw [hml]; rfl) (rest := []) (lenOf pd10 rfl) rfl (Nat.le_of_eq rfl) (hb hby d16_20) rfl (by decide) (by decide) ?_
  intro T50 h50 v50 L50 X50 e50 hQ50
  obtain ⟨rfl, Nq50, K50, q50_0⟩ := hQ50
  have N50 := Fk.app N45 Nq50 KK48.1 (allS (Or.inr q1_0) all0)
  have O51 : Old Z Z.heap.size h50 := O46.keep K50 (allS (Nat.le_trans (Nat.le_trans (Nat.le_trans (Nat.le_of_eq O0.1.symm) O0.2.1) (Keep.refl h0 []).1) q1_0) all0)
  have Vl52 : Arv Z h50 t1 kb1 .byte (28 : Int32) [(.int (own_b0 cz0)), (.int (own_b1 cz0)), (.int (own_b0 cz1)), (.int (own_b1 cz1)), (.int (own_b0 cz2)), (.int (own_b1 cz2)), (.int (own_b0 cz3)), (.int (own_b1 cz3)), (.int (own_b0 cz4)), (.int (own_b1 cz4)), (.int (own_b0 cz5)), (.int (own_b1 cz5)), (.int (own_b0 cz6)), (.int (own_b1 cz6)), (.int (own_b0 cz7)), (.int (own_b1 cz7)), (.int (own_b0 cz8)), (.int (own_b1 cz8)), (.int (own_b0 cz9)), (.int (own_b1 cz9)), (.int (0 : Int32)), (.int (0 : Int32)), (.int (0 : Int32)), (.int (0 : Int32)), (.int (0 : Int32)), (.int (0 : Int32)), (.int (0 : Int32)), (.int (0 : Int32))] (.int (0 : Int32)) := q50_0
  show Wp p e below _ _ T50 (mkF m 23 #[.val (.ref b), .val (.int (9 : Int32)), .val (.int (14 : Int32)), .val (.ref t1), .val (.int (9 : Int32))] [])
  refine Wk.iinc X50 hx (Ls' := #[.val (.ref b), .val (.int (10 : Int32)), .val (.int (14 : Int32)), .val (.ref t1), .val (.int (9 : Int32))]) (hb hby d16_23) rfl rfl rfl ?_
  refine Wk.iinc X50 hx (Ls' := #[.val (.ref b), .val (.int (10 : Int32)), .val (.int (14 : Int32)), .val (.ref t1), .val (.int (10 : Int32))]) (hb hby d16_26) rfl rfl rfl ?_
  refine Wk.goto X50 hx (hb hby d16_29) (by decide) (q := 8) rfl ?_
  refine Wk.iload X50 hx (hb hby d16_8) rfl rfl ?_
  refine Wk.iloadN X50 hx (hb hby d16_10) rfl rfl ?_
  refine Wk.icmpNo X50 hx (hb hby d16_11) rfl (tlt (by decide : (10 : Int32) < (14 : Int32))).2.1 ?_
  refine Wk.aloadN X50 hx (hb hby d16_14) rfl rfl rfl ?_
  refine Wk.iload X50 hx (hb hby d16_15) rfl rfl ?_
  refine Wk.aloadN X50 hx (hb hby d16_17) rfl rfl rfl ?_
  refine Wk.iloadN X50 hx (hb hby d16_18) rfl rfl ?_
  have KK53 : Keep h0 h50 [] := (KK48.trans K50 (allS (Or.inr q1_0) all0))
  have f54 := (hA.keep KK53 nin0)
  refine Wk.caload X50 hx hZ e50 f54 (by decide) (by decide) (v := cz10) rfl (hb hby d16_19) rfl ?_
  refine Wk.callS X50 hx hZ hown (w 98 _ rfl) (w 99 _ rfl) (w 49 _ rfl) (w 100 _ rfl) (by decide) (as' := [(.ref t1), (.int (10 : Int32)), (.int cz10)]) (backOf (W := 0) (rm_put l Z a0 hw [] t1 (10 : Int32) cz10 kb1 (28 : Int32) _ 20 h50 O51 sH sL sA Vl52 (by decide) (by decide) (by decide) (by decide) (by decide) (by decide) (Nat.le_of_ble_eq_true rfl) (Nat.le_trans (Nat.le_trans (Nat.le_trans (Nat.le_of_eq O0.1.symm) O0.2.1) (Keep.refl h0 []).1) q1_0)) hZ (w 100 _ rfl) (w 49 _ rfl) (by decide) (by decide)) e50 (by rw [hml]; rfl) (rest := []) (lenOf pd10 rfl) rfl (Nat.le_of_eq rfl) (hb hby d16_20) rfl (by decide) (by decide) ?_
  intro T55 h55 v55 L55 X55 e55 hQ55
  obtain ⟨rfl, Nq55, K55, q55_0⟩ := hQ55
  have N55 := Fk.app N50 Nq55 KK53.1 (allS (Or.inr q1_0) all0)
  have O56 : Old Z Z.heap.size h55 := O51.keep K55 (allS (Nat.le_trans (Nat.le_trans (Nat.le_trans (Nat.le_of_eq O0.1.symm) O0.2.1) (Keep.refl h0 []).1) q1_0) all0)
  have Vl57 : Arv Z h55 t1 kb1 .byte (28 : Int32) [(.int (own_b0 cz0)), (.int (own_b1 cz0)), (.int (own_b0 cz1)), (.int (own_b1 cz1)), (.int (own_b0 cz2)), (.int (own_b1 cz2)), (.int (own_b0 cz3)), (.int (own_b1 cz3)), (.int (own_b0 cz4)), (.int (own_b1 cz4)), (.int (own_b0 cz5)), (.int (own_b1 cz5)), (.int (own_b0 cz6)), (.int (own_b1 cz6)), (.int (own_b0 cz7)), (.int (own_b1 cz7)), (.int (own_b0 cz8)), (.int (own_b1 cz8)), (.int (own_b0 cz9)), (.int (own_b1 cz9)), (.int (own_b0 cz10)), (.int (own_b1 cz10)), (.int (0 : Int32)), (.int (0 : Int32)), (.int (0 : Int32)), (.int (0 : Int32)), (.int (0 : Int32)), (.int (0 : Int32))] (.int (0 : Int32)) := q55_0
  show Wp p e below _ _ T55 (mkF m 23 #[.val (.ref b), .val (.int (10 : Int32)), .val (.int (14 : Int32)), .val (.ref t1), .val (.int (10 : Int32))] [])
  refine Wk.iinc X55 hx (Ls' := #[.val (.ref b), .val (.int (11 : Int32)), .val (.int (14 : Int32)), .val (.ref t1), .val (.int (10 : Int32))]) (hb hby d16_23) rfl rfl rfl ?_
  refine Wk.iinc X55 hx (Ls' := #[.val (.ref b), .val (.int (11 : Int32)), .val (.int (14 : Int32)), .val (.ref t1), .val (.int (11 : Int32))]) (hb hby d16_26) rfl rfl rfl ?_
  refine Wk.goto X55 hx (hb hby d16_29) (by decide) (q := 8) rfl ?_
  refine Wk.iload X55 hx (hb hby d16_8) rfl rfl ?_
  refine Wk.iloadN X55 hx (hb hby d16_10) rfl rfl ?_
  refine Wk.icmpNo X55 hx (hb hby d16_11) rfl (tlt (by decide : (11 : Int32) < (14 : Int32))).2.1 ?_
  refine Wk.aloadN X55 hx (hb hby d16_14) rfl rfl rfl ?_
  refine Wk.iload X55 hx (hb hby d16_15) rfl rfl ?_
  refine Wk.aloadN X55 hx (hb hby d16_17) rfl rfl rfl ?_
  refine Wk.iloadN X55 hx (hb hby d16_18) rfl rfl ?_
  have KK58 : Keep h0 h55 [] := (KK53.trans K55 (allS (Or.inr q1_0) all0))
  have f59 := (hA.keep KK58 nin0)
  refine Wk.caload X55 hx hZ e55 f59 (by decide) (by decide) (v := cz11) rfl (hb hby d16_19) rfl ?_
  refine Wk.callS X55 hx hZ hown (w 98 _ rfl) (w 99 _ rfl) (w 49 _ rfl) (w 100 _ rfl) (by decide) (as' := [(.ref t1), (.int (11 : Int32)), (.int cz11)]) (backOf (W := 0) (rm_put l Z a0 hw [] t1 (11 : Int32) cz11 kb1 (28 : Int32) _ 22 h55 O56 sH sL sA Vl57 (by decide) (by decide) (by decide) (by decide) (by decide) (by decide) (Nat.le_of_ble_eq_true rfl) (Nat.le_trans (Nat.le_trans (Nat.le_trans (Nat.le_of_eq O0.1.symm) O0.2.1) (Keep.refl h0 []).1) q1_0)) hZ (w 100 _ rfl) (w 49 _ rfl) (by decide) (by decide)) e55 (by rw [hml]; rfl) (rest := []) (lenOf pd10 rfl) rfl (Nat.le_of_eq rfl) (hb hby d16_20) rfl (by decide) (by decide) ?_
  intro T60 h60 v60 L60 X60 e60 hQ60
  obtain ⟨rfl, Nq60, K60, q60_0⟩ := hQ60
  have N60 := Fk.app N55 Nq60 KK58.1 (allS (Or.inr q1_0) all0)
  have O61 : Old Z Z.heap.size h60 := O56.keep K60 (allS (Nat.le_trans (Nat.le_trans (Nat.le_trans (Nat.le_of_eq O0.1.symm) O0.2.1) (Keep.refl h0 []).1) q1_0) all0)
  have Vl62 : Arv Z h60 t1 kb1 .byte (28 : Int32) [(.int (own_b0 cz0)), (.int (own_b1 cz0)), (.int (own_b0 cz1)), (.int (own_b1 cz1)), (.int (own_b0 cz2)), (.int (own_b1 cz2)), (.int (own_b0 cz3)), (.int (own_b1 cz3)), (.int (own_b0 cz4)), (.int (own_b1 cz4)), (.int (own_b0 cz5)), (.int (own_b1 cz5)), (.int (own_b0 cz6)), (.int (own_b1 cz6)), (.int (own_b0 cz7)), (.int (own_b1 cz7)), (.int (own_b0 cz8)), (.int (own_b1 cz8)), (.int (own_b0 cz9)), (.int (own_b1 cz9)), (.int (own_b0 cz10)), (.int (own_b1 cz10)), (.int (own_b0 cz11)), (.int (own_b1 cz11)), (.int (0 : Int32)), (.int (0 : Int32)), (.int (0 : Int32)), (.int (0 : Int32))] (.int (0 : Int32)) := q60_0
  show Wp p e below _ _ T60 (mkF m 23 #[.val (.ref b), .val (.int (11 : Int32)), .val (.int (14 : Int32)), .val (.ref t1), .val (.int (11 : Int32))] [])
  refine Wk.iinc X60 hx (Ls' := #[.val (.ref b), .val (.int (12 : Int32)), .val (.int (14 : Int32)), .val (.ref t1), .val (.int (11 : Int32))]) (hb hby d16_23) rfl rfl rfl ?_
  refine Wk.iinc X60 hx (Ls' := #[.val (.ref b), .val (.int (12 : Int32)), .val (.int (14 : Int32)), .val (.ref t1), .val (.int (12 : Int32))]) (hb hby d16_26) rfl rfl rfl ?_
  refine Wk.goto X60 hx (hb hby d16_29) (by decide) (q := 8) rfl ?_
  refine Wk.iload X60 hx (hb hby d16_8) rfl rfl ?_
  refine Wk.iloadN X60 hx (hb hby d16_10) rfl rfl ?_
  refine Wk.icmpNo X60 hx (hb hby d16_11) rfl (tlt (by decide : (12 : Int32) < (14 : Int32))).2.1 ?_
  refine Wk.aloadN X60 hx (hb hby d16_14) rfl rfl rfl ?_
  refine Wk.iload X60 hx (hb hby d16_15) rfl rfl ?_
  refine Wk.aloadN X60 hx (hb hby d16_17) rfl rfl rfl ?_
  refine Wk.iloadN X60 hx (hb hby d16_18) rfl rfl ?_
  have KK63 : Keep h0 h60 [] := (KK58.trans K60 (allS (Or.inr q1_0) all0))
  have f64 := (hA.keep KK63 nin0)
  refine Wk.caload X60 hx hZ e60 f64 (by decide) (by decide) (v := cz12) rfl (hb hby d16_19) rfl ?_
  refine Wk.callS X60 hx hZ hown (w 98 _ rfl) (w 99 _ rfl) (w 49 _ rfl) (w 100 _ rfl) (by decide) (as' := [(.ref t1), (.int (12 : Int32)), (.int cz12)]) (backOf (W := 0) (rm_put l Z a0 hw [] t1 (12 : Int32) cz12 kb1 (28 : Int32) _ 24 h60 O61 sH sL sA Vl62 (by decide) (by decide) (by decide) (by decide) (by decide) (by decide) (Nat.le_of_ble_eq_true rfl) (Nat.le_trans (Nat.le_trans (Nat.le_trans (Nat.le_of_eq O0.1.symm) O0.2.1) (Keep.refl h0 []).1) q1_0)) hZ (w 100 _ rfl) (w 49 _ rfl) (by decide) (by decide)) e60 (by rw [hml]; rfl) (rest := []) (lenOf pd10 rfl) rfl (Nat.le_of_eq rfl) (hb hby d16_20) rfl (by decide) (by decide) ?_
  intro T65 h65 v65 L65 X65 e65 hQ65
  obtain ⟨rfl, Nq65, K65, q65_0⟩ := hQ65
  have N65 := Fk.app N60 Nq65 KK63.1 (allS (Or.inr q1_0) all0)
  have O66 : Old Z Z.heap.size h65 := O61.keep K65 (allS (Nat.le_trans (Nat.le_trans (Nat.le_trans (Nat.le_of_eq O0.1.symm) O0.2.1) (Keep.refl h0 []).1) q1_0) all0)
  have Vl67 : Arv Z h65 t1 kb1 .byte (28 : Int32) [(.int (own_b0 cz0)), (.int (own_b1 cz0)), (.int (own_b0 cz1)), (.int (own_b1 cz1)), (.int (own_b0 cz2)), (.int (own_b1 cz2)), (.int (own_b0 cz3)), (.int (own_b1 cz3)), (.int (own_b0 cz4)), (.int (own_b1 cz4)), (.int (own_b0 cz5)), (.int (own_b1 cz5)), (.int (own_b0 cz6)), (.int (own_b1 cz6)), (.int (own_b0 cz7)), (.int (own_b1 cz7)), (.int (own_b0 cz8)), (.int (own_b1 cz8)), (.int (own_b0 cz9)), (.int (own_b1 cz9)), (.int (own_b0 cz10)), (.int (own_b1 cz10)), (.int (own_b0 cz11)), (.int (own_b1 cz11)), (.int (own_b0 cz12)), (.int (own_b1 cz12)), (.int (0 : Int32)), (.int (0 : Int32))] (.int (0 : Int32)) := q65_0
  show Wp p e below _ _ T65 (mkF m 23 #[.val (.ref b), .val (.int (12 : Int32)), .val (.int (14 : Int32)), .val (.ref t1), .val (.int (12 : Int32))] [])
  refine Wk.iinc X65 hx (Ls' := #[.val (.ref b), .val (.int (13 : Int32)), .val (.int (14 : Int32)), .val (.ref t1), .val (.int (12 : Int32))]) (hb hby d16_23) rfl rfl rfl ?_
  refine Wk.iinc X65 hx (Ls' := #[.val (.ref b), .val (.int (13 : Int32)), .val (.int (14 : Int32)), .val (.ref t1), .val (.int (13 : Int32))]) (hb hby d16_26) rfl rfl rfl ?_
  refine Wk.goto X65 hx (hb hby d16_29) (by decide) (q := 8) rfl ?_
  refine Wk.iload X65 hx (hb hby d16_8) rfl rfl ?_
  refine Wk.iloadN X65 hx (hb hby d16_10) rfl rfl ?_
  refine Wk.icmpNo X65 hx (hb hby d16_11) rfl (tlt (by decide : (13 : Int32) < (14 : Int32))).2.1 ?_
  refine Wk.aloadN X65 hx (hb hby d16_14) rfl rfl rfl ?_
  refine Wk.iload X65 hx (hb hby d16_15) rfl rfl ?_
  refine Wk.aloadN X65 hx (hb hby d16_17) rfl rfl rfl ?_
  refine Wk.iloadN X65 hx (hb hby d16_18) rfl rfl ?_
  have KK68 : Keep h0 h65 [] := (KK63.trans K65 (allS (Or.inr q1_0) all0))
  have f69 := (hA.keep KK68 nin0)
  refine Wk.caload X65 hx hZ e65 f69 (by decide) (by decide) (v := cz13) rfl (hb hby d16_19) rfl ?_
  refine Wk.callS X65 hx hZ hown (w 98 _ rfl) (w 99 _ rfl) (w 49 _ rfl) (w 100 _ rfl) (by decide) (as' := [(.ref t1), (.int (13 : Int32)), (.int cz13)]) (backOf (W := 0) (rm_put l Z a0 hw [] t1 (13 : Int32) cz13 kb1 (28 : Int32) _ 26 h65 O66 sH sL sA Vl67 (by decide) (by decide) (by decide) (by decide) (by decide) (by decide) (Nat.le_of_ble_eq_true rfl) (Nat.le_trans (Nat.le_trans (Nat.le_trans (Nat.le_of_eq O0.1.symm) O0.2.1) (Keep.refl h0 []).1) q1_0)) hZ (w 100 _ rfl) (w 49 _ rfl) (by decide) (by decide)) e65 (by rw [hml]; rfl) (rest := []) (lenOf pd10 rfl) rfl (Nat.le_of_eq rfl) (hb hby d16_20) rfl (by decide) (by decide) ?_
  intro T70 h70 v70 L70 X70 e70 hQ70
  obtain ⟨rfl, Nq70, K70, q70_0⟩ := hQ70
  have N70 := Fk.app N65 Nq70 KK68.1 (allS (Or.inr q1_0) all0)
  have O71 : Old Z Z.heap.size h70 := O66.keep K70 (allS (Nat.le_trans (Nat.le_trans (Nat.le_trans (Nat.le_of_eq O0.1.symm) O0.2.1) (Keep.refl h0 []).1) q1_0) all0)
  have Vl72 : Arv Z h70 t1 kb1 .byte (28 : Int32) [(.int (own_b0 cz0)), (.int (own_b1 cz0)), (.int (own_b0 cz1)), (.int (own_b1 cz1)), (.int (own_b0 cz2)), (.int (own_b1 cz2)), (.int (own_b0 cz3)), (.int (own_b1 cz3)), (.int (own_b0 cz4)), (.int (own_b1 cz4)), (.int (own_b0 cz5)), (.int (own_b1 cz5)), (.int (own_b0 cz6)), (.int (own_b1 cz6)), (.int (own_b0 cz7)), (.int (own_b1 cz7)), (.int (own_b0 cz8)), (.int (own_b1 cz8)), (.int (own_b0 cz9)), (.int (own_b1 cz9)), (.int (own_b0 cz10)), (.int (own_b1 cz10)), (.int (own_b0 cz11)), (.int (own_b1 cz11)), (.int (own_b0 cz12)), (.int (own_b1 cz12)), (.int (own_b0 cz13)), (.int (own_b1 cz13))] (.int (0 : Int32)) := q70_0
  show Wp p e below _ _ T70 (mkF m 23 #[.val (.ref b), .val (.int (13 : Int32)), .val (.int (14 : Int32)), .val (.ref t1), .val (.int (13 : Int32))] [])
  refine Wk.iinc X70 hx (Ls' := #[.val (.ref b), .val (.int (14 : Int32)), .val (.int (14 : Int32)), .val (.ref t1), .val (.int (13 : Int32))]) (hb hby d16_23) rfl rfl rfl ?_
  refine Wk.iinc X70 hx (Ls' := #[.val (.ref b), .val (.int (14 : Int32)), .val (.int (14 : Int32)), .val (.ref t1), .val (.int (14 : Int32))]) (hb hby d16_26) rfl rfl rfl ?_
  refine Wk.goto X70 hx (hb hby d16_29) (by decide) (q := 8) rfl ?_
  refine Wk.iload X70 hx (hb hby d16_8) rfl rfl ?_
  refine Wk.iloadN X70 hx (hb hby d16_10) rfl rfl ?_
  refine Wk.icmpYes X70 hx (hb hby d16_11) (by decide) (q := 32) rfl (flt (by decide : ¬ ((14 : Int32) < (14 : Int32)))).2.1 ?_
  refine Wk.aloadN X70 hx (hb hby d16_32) rfl rfl rfl ?_
  have KK73 : Keep h0 h70 [] := (KK68.trans K70 (allS (Or.inr q1_0) all0))
  exact Wk.retA' X70 hx hlk hr rfl rfl (hb hby d16_33) (by decide) (by decide) (Qc := Q_rm_tob14 Z b kc cz0 cz1 cz2 cz3 cz4 cz5 cz6 cz7 cz8 cz9 cz10 cz11 cz12 cz13 h0) e70 ⟨t1, kb1, rfl, N70, KK73, q1_0, Vl72⟩
def Q_rm_cfa14 (Z : State) (t : Addr) (kb : ClassId) (vs : List Value) (h0 : Heap) (v : Option Value) (h : Heap) (L : List Loc) : Prop := v = some (.int (1 : Int32)) ∧ Fk h0.size [] L ∧ h = h0
set_option maxRecDepth 65536 in
set_option maxHeartbeats 40000000 in
theorem rm_cfa14 (l : Launch) (Z : State) (a0 : Array Value) (hw : ∀ d ∈ tables_1, d.before a0 Z = true) (ws : List Jvm.Cond) (t : Addr) (kb : ClassId) (vs : List Value) (h0 : Heap) (O0 : Old Z Z.heap.size h0) (hA : Arv Z h0 t kb .byte (28 : Int32) vs (.int (0 : Int32))) :
    Ctr l Z (⟨"java/lang/StringUTF16", "coderFromArrayLen", "([BI)B"⟩ : MethodName) jdk_52_method_15_code 2 (some .byte) ws ({ frames := 0, cells := 0, slots := 0, locals := 0 } : Room) #[(.ref t), (.int (14 : Int32))] h0 (Q_rm_cfa14 Z t kb vs h0) := by
  refine Ctr.intro (Ls := fun _ => #[.val (.ref t), .val (.int (14 : Int32))]) (plainFor_of_name pn7) (fun m => by first | rfl | (simp [entryFrame, mkF, argsToLocals, Value.category]; done)) ?_
  intro p e s m below meth c s₁ hx hby hml hr hlk hZ hown hnm hs0 X0 e0
  have w : ∀ (k : Nat) (d : Jvm.Cond), tables_1[k]? = some d → d.before a0 Z = true := fun k d q => hw d (List.mem_of_getElem? q)
  have N0 := Fk.nil h0.size []
  refine Wk.iloadN X0 hx (hb hby d11_0) rfl rfl ?_
  refine Wk.aloadN X0 hx (hb hby d11_1) rfl rfl rfl ?_
  refine Wk.arraylength X0 hx hZ e0 hA (hb hby d11_2) rfl ?_
  refine Wk.isub X0 hx (hb hby d11_3) rfl ?_
  rw [(by decide : (((14 : Int32) - (28 : Int32)) : Int32) = (-14 : Int32))]
  refine Wk.bipush X0 hx (v := (31 : Int32)) (hb hby d11_4) rfl rfl ?_
  refine Wk.iushr X0 hx (hb hby d11_6) rfl ?_
  rw [(by decide : ((((-14 : Int32).toUInt32 >>> ((31 : Int32) &&& 31).toUInt32).toInt32) : Int32) = (1 : Int32))]
  refine Wk.i2b X0 hx (hb hby d11_7) rfl ?_
  intro c1 hc1
  obtain rfl : c1 = (1 : Int32) := hc1.trans (by decide)
  exact Wk.retZ' X0 hx hlk hr (by simp) (hb hby d11_8) (by decide) (by decide) (Qc := Q_rm_cfa14 Z t kb vs h0) e0 ⟨rfl, N0, rfl⟩
def Q_rm_cp5_14 (Z : State) (b : Addr) (kc : ClassId) (t : Addr) (kb : ClassId) (cz0 : Int32) (cz1 : Int32) (cz2 : Int32) (cz3 : Int32) (cz4 : Int32) (cz5 : Int32) (cz6 : Int32) (cz7 : Int32) (cz8 : Int32) (cz9 : Int32) (cz10 : Int32) (cz11 : Int32) (cz12 : Int32) (cz13 : Int32) (h0 : Heap) (v : Option Value) (h : Heap) (L : List Loc) : Prop := ∃ r : Int32, v = some (.int r) ∧ Fk h0.size [t] L ∧ Keep h0 h [t] ∧ Fst14 cz0 cz1 cz2 cz3 cz4 cz5 cz6 cz7 cz8 cz9 cz10 cz11 cz12 cz13 r
set_option maxRecDepth 65536 in
set_option maxHeartbeats 40000000 in
theorem rm_cp5_14 (l : Launch) (Z : State) (a0 : Array Value) (hw : ∀ d ∈ tables_1, d.before a0 Z = true) (ws : List Jvm.Cond) (b : Addr) (kc : ClassId) (t : Addr) (kb : ClassId) (cz0 : Int32) (cz1 : Int32) (cz2 : Int32) (cz3 : Int32) (cz4 : Int32) (cz5 : Int32) (cz6 : Int32) (cz7 : Int32) (cz8 : Int32) (cz9 : Int32) (cz10 : Int32) (cz11 : Int32) (cz12 : Int32) (cz13 : Int32) (h0 : Heap) (O0 : Old Z Z.heap.size h0) (hA : Arv Z h0 b kc .char (14 : Int32) [(.int cz0), (.int cz1), (.int cz2), (.int cz3), (.int cz4), (.int cz5), (.int cz6), (.int cz7), (.int cz8), (.int cz9), (.int cz10), (.int cz11), (.int cz12), (.int cz13)] (.int (0 : Int32))) (hT : Arv Z h0 t kb .byte (14 : Int32) [(.int (0 : Int32)), (.int (0 : Int32)), (.int (0 : Int32)), (.int (0 : Int32)), (.int (0 : Int32)), (.int (0 : Int32)), (.int (0 : Int32)), (.int (0 : Int32)), (.int (0 : Int32)), (.int (0 : Int32)), (.int (0 : Int32)), (.int (0 : Int32)), (.int (0 : Int32)), (.int (0 : Int32))] (.int (0 : Int32))) (ht : Z.heap.size ≤ t) (hbt : b ≠ t) (hNL : NL14 cz0 cz1 cz2 cz3 cz4 cz5 cz6 cz7 cz8 cz9 cz10 cz11 cz12 cz13) :
    Ctr l Z (⟨"java/lang/StringUTF16", "compress", "([CI[BII)I"⟩ : MethodName) jdk_52_method_21_code 7 (some .int) ws ({ frames := 0, cells := 0, slots := 0, locals := 0 } : Room) #[(.ref b), (.int (0 : Int32)), (.ref t), (.int (0 : Int32)), (.int (14 : Int32))] h0 (Q_rm_cp5_14 Z b kc t kb cz0 cz1 cz2 cz3 cz4 cz5 cz6 cz7 cz8 cz9 cz10 cz11 cz12 cz13 h0) := by
  refine Ctr.intro (Ls := fun _ => #[.val (.ref b), .val (.int (0 : Int32)), .val (.ref t), .val (.int (0 : Int32)), .val (.int (14 : Int32)), .unset, .unset]) (plainFor_of_name pn7) (fun m => by first | rfl | (simp [entryFrame, mkF, argsToLocals, Value.category]; done)) ?_
  intro p e s m below meth c s₁ hx hby hml hr hlk hZ hown hnm hs0 X0 e0
  have w : ∀ (k : Nat) (d : Jvm.Cond), tables_1[k]? = some d → d.before a0 Z = true := fun k d q => hw d (List.mem_of_getElem? q)
  have N0 := Fk.nil h0.size [t]
  refine Wk.iconst X0 hx (v := (0 : Int32)) (hb hby d10_0) rfl rfl ?_
  refine Wk.istore X0 hx (Ls' := #[.val (.ref b), .val (.int (0 : Int32)), .val (.ref t), .val (.int (0 : Int32)), .val (.int (14 : Int32)), .val (.int (0 : Int32)), .unset]) (hb hby d10_1) rfl rfl ?_
  refine Wk.iload X0 hx (hb hby d10_3) rfl rfl ?_
  refine Wk.iload X0 hx (hb hby d10_5) rfl rfl ?_
  refine Wk.icmpNo X0 hx (hb hby d10_7) rfl (tlt (by decide : (0 : Int32) < (14 : Int32))).2.1 ?_
  refine Wk.aloadN X0 hx (hb hby d10_10) rfl rfl rfl ?_
  refine Wk.iloadN X0 hx (hb hby d10_11) rfl rfl ?_
  refine Wk.caload X0 hx hZ e0 hA (by decide) (by decide) (v := cz0) rfl (hb hby d10_12) rfl ?_
  refine Wk.istore X0 hx (Ls' := #[.val (.ref b), .val (.int (0 : Int32)), .val (.ref t), .val (.int (0 : Int32)), .val (.int (14 : Int32)), .val (.int (0 : Int32)), .val (.int cz0)]) (hb hby d10_13) rfl rfl ?_
  refine Wk.iload X0 hx (hb hby d10_15) rfl rfl ?_
  refine Wk.sipush X0 hx (v := (255 : Int32)) (hb hby d10_17) rfl rfl ?_
  by_cases hc1 : (255 : Int32) < cz0
  · skip
    refine Wk.icmpNo X0 hx (hb hby d10_20) rfl (tlt hc1).2.2.2 ?_
    refine Wk.iload X0 hx (hb hby d10_23) rfl rfl ?_
    exact Wk.retI' X0 hx hlk hr (hb hby d10_25) (by decide) (by decide) (Qc := Q_rm_cp5_14 Z b kc t kb cz0 cz1 cz2 cz3 cz4 cz5 cz6 cz7 cz8 cz9 cz10 cz11 cz12 cz13 h0) e0 ⟨(0 : Int32), rfl, N0, (Keep.refl h0 [t]), (Or.inl ⟨hc1, rfl⟩)⟩
  refine Wk.icmpYes X0 hx (hb hby d10_20) (by decide) (q := 26) rfl (flt hc1).2.2.2 ?_
  refine Wk.aloadN X0 hx (hb hby d10_26) rfl rfl rfl ?_
  refine Wk.iloadN X0 hx (hb hby d10_27) rfl rfl ?_
  refine Wk.iload X0 hx (hb hby d10_28) rfl rfl ?_
  refine Wk.i2b X0 hx (hb hby d10_30) rfl ?_
  intro c2 hc2
  refine Wk.bastore X0 hx hZ e0 hT (by decide) (by decide) 0 rfl (Nat.le_of_ble_eq_true rfl) (w := (nar .byte c2)) rfl (hb hby d10_31) rfl ?_
  intro T3 h3 L3 M3 X3 e3 W3 A3
  have N3 := M3 _ _ N0 (Or.inl (List.mem_of_getElem? (i := 0) rfl))
  have O4 : Old Z Z.heap.size h3 := O0.wr W3 ht
  have V3 : Arv Z h3 t kb .byte (14 : Int32) [(.int (nar .byte c2)), (.int (0 : Int32)), (.int (0 : Int32)), (.int (0 : Int32)), (.int (0 : Int32)), (.int (0 : Int32)), (.int (0 : Int32)), (.int (0 : Int32)), (.int (0 : Int32)), (.int (0 : Int32)), (.int (0 : Int32)), (.int (0 : Int32)), (.int (0 : Int32)), (.int (0 : Int32))] (.int (0 : Int32)) := A3
  refine Wk.iinc X3 hx (Ls' := #[.val (.ref b), .val (.int (1 : Int32)), .val (.ref t), .val (.int (0 : Int32)), .val (.int (14 : Int32)), .val (.int (0 : Int32)), .val (.int cz0)]) (hb hby d10_32) rfl rfl rfl ?_
  refine Wk.iinc X3 hx (Ls' := #[.val (.ref b), .val (.int (1 : Int32)), .val (.ref t), .val (.int (1 : Int32)), .val (.int (14 : Int32)), .val (.int (0 : Int32)), .val (.int cz0)]) (hb hby d10_35) rfl rfl rfl ?_
  refine Wk.iinc X3 hx (Ls' := #[.val (.ref b), .val (.int (1 : Int32)), .val (.ref t), .val (.int (1 : Int32)), .val (.int (14 : Int32)), .val (.int (1 : Int32)), .val (.int cz0)]) (hb hby d10_38) rfl rfl rfl ?_
  refine Wk.goto X3 hx (hb hby d10_41) (by decide) (q := 3) rfl ?_
  have KK5 : Keep h0 h3 [t] := ((Keep.refl h0 [t]).wr W3 (Or.inl (List.mem_of_getElem? (i := 0) rfl)))
  refine Wk.iload X3 hx (hb hby d10_3) rfl rfl ?_
  refine Wk.iload X3 hx (hb hby d10_5) rfl rfl ?_
  refine Wk.icmpNo X3 hx (hb hby d10_7) rfl (tlt (by decide : (1 : Int32) < (14 : Int32))).2.1 ?_
  refine Wk.aloadN X3 hx (hb hby d10_10) rfl rfl rfl ?_
  refine Wk.iloadN X3 hx (hb hby d10_11) rfl rfl ?_
  have f6 := (hA.keep KK5 (ninS hbt nin0))
  refine Wk.caload X3 hx hZ e3 f6 (by decide) (by decide) (v := cz1) rfl (hb hby d10_12) rfl ?_
  refine Wk.istore X3 hx (Ls' := #[.val (.ref b), .val (.int (1 : Int32)), .val (.ref t), .val (.int (1 : Int32)), .val (.int (14 : Int32)), .val (.int (1 : Int32)), .val (.int cz1)]) (hb hby d10_13) rfl rfl ?_
  refine Wk.iload X3 hx (hb hby d10_15) rfl rfl ?_
  refine Wk.sipush X3 hx (v := (255 : Int32)) (hb hby d10_17) rfl rfl ?_
  by_cases hc7 : (255 : Int32) < cz1
  · skip
    refine Wk.icmpNo X3 hx (hb hby d10_20) rfl (tlt hc7).2.2.2 ?_
    refine Wk.iload X3 hx (hb hby d10_23) rfl rfl ?_
    exact Wk.retI' X3 hx hlk hr (hb hby d10_25) (by decide) (by decide) (Qc := Q_rm_cp5_14 Z b kc t kb cz0 cz1 cz2 cz3 cz4 cz5 cz6 cz7 cz8 cz9 cz10 cz11 cz12 cz13 h0) e3 ⟨(1 : Int32), rfl, N3, KK5, (Or.inr (Or.inl ⟨hc7, rfl⟩))⟩
  refine Wk.icmpYes X3 hx (hb hby d10_20) (by decide) (q := 26) rfl (flt hc7).2.2.2 ?_
  refine Wk.aloadN X3 hx (hb hby d10_26) rfl rfl rfl ?_
  refine Wk.iloadN X3 hx (hb hby d10_27) rfl rfl ?_
  refine Wk.iload X3 hx (hb hby d10_28) rfl rfl ?_
  refine Wk.i2b X3 hx (hb hby d10_30) rfl ?_
  intro c8 hc8
  refine Wk.bastore X3 hx hZ e3 V3 (by decide) (by decide) 1 rfl (Nat.le_of_ble_eq_true rfl) (w := (nar .byte c8)) rfl (hb hby d10_31) rfl ?_
  intro T9 h9 L9 M9 X9 e9 W9 A9
  have N9 := M9 _ _ N3 (Or.inl (List.mem_of_getElem? (i := 0) rfl))
  have O10 : Old Z Z.heap.size h9 := O4.wr W9 ht
  have V9 : Arv Z h9 t kb .byte (14 : Int32) [(.int (nar .byte c2)), (.int (nar .byte c8)), (.int (0 : Int32)), (.int (0 : Int32)), (.int (0 : Int32)), (.int (0 : Int32)), (.int (0 : Int32)), (.int (0 : Int32)), (.int (0 : Int32)), (.int (0 : Int32)), (.int (0 : Int32)), (.int (0 : Int32)), (.int (0 : Int32)), (.int (0 : Int32))] (.int (0 : Int32)) := A9
  refine Wk.iinc X9 hx (Ls' := #[.val (.ref b), .val (.int (2 : Int32)), .val (.ref t), .val (.int (1 : Int32)), .val (.int (14 : Int32)), .val (.int (1 : Int32)), .val (.int cz1)]) (hb hby d10_32) rfl rfl rfl ?_
  refine Wk.iinc X9 hx (Ls' := #[.val (.ref b), .val (.int (2 : Int32)), .val (.ref t), .val (.int (2 : Int32)), .val (.int (14 : Int32)), .val (.int (1 : Int32)), .val (.int cz1)]) (hb hby d10_35) rfl rfl rfl ?_
  refine Wk.iinc X9 hx (Ls' := #[.val (.ref b), .val (.int (2 : Int32)), .val (.ref t), .val (.int (2 : Int32)), .val (.int (14 : Int32)), .val (.int (2 : Int32)), .val (.int cz1)]) (hb hby d10_38) rfl rfl rfl ?_
  refine Wk.goto X9 hx (hb hby d10_41) (by decide) (q := 3) rfl ?_
  have KK11 : Keep h0 h9 [t] := (KK5.wr W9 (Or.inl (List.mem_of_getElem? (i := 0) rfl)))
  refine Wk.iload X9 hx (hb hby d10_3) rfl rfl ?_
  refine Wk.iload X9 hx (hb hby d10_5) rfl rfl ?_
  refine Wk.icmpNo X9 hx (hb hby d10_7) rfl (tlt (by decide : (2 : Int32) < (14 : Int32))).2.1 ?_
  refine Wk.aloadN X9 hx (hb hby d10_10) rfl rfl rfl ?_
  refine Wk.iloadN X9 hx (hb hby d10_11) rfl rfl ?_
  have KK12 : Keep h3 h9 [t] := ((Keep.refl h3 [t]).wr W9 (Or.inl (List.mem_of_getElem? (i := 0) rfl)))
  have f13 := (f6.keep KK12 (ninS hbt nin0))
  refine Wk.caload X9 hx hZ e9 f13 (by decide) (by decide) (v := cz2) rfl (hb hby d10_12) rfl ?_
  refine Wk.istore X9 hx (Ls' := #[.val (.ref b), .val (.int (2 : Int32)), .val (.ref t), .val (.int (2 : Int32)), .val (.int (14 : Int32)), .val (.int (2 : Int32)), .val (.int cz2)]) (hb hby d10_13) rfl rfl ?_
  refine Wk.iload X9 hx (hb hby d10_15) rfl rfl ?_
  refine Wk.sipush X9 hx (v := (255 : Int32)) (hb hby d10_17) rfl rfl ?_
  by_cases hc14 : (255 : Int32) < cz2
  · skip
    refine Wk.icmpNo X9 hx (hb hby d10_20) rfl (tlt hc14).2.2.2 ?_
    refine Wk.iload X9 hx (hb hby d10_23) rfl rfl ?_
    exact Wk.retI' X9 hx hlk hr (hb hby d10_25) (by decide) (by decide) (Qc := Q_rm_cp5_14 Z b kc t kb cz0 cz1 cz2 cz3 cz4 cz5 cz6 cz7 cz8 cz9 cz10 cz11 cz12 cz13 h0) e9 ⟨(2 : Int32), rfl, N9, KK11, (Or.inr (Or.inr (Or.inl ⟨hc14, rfl⟩)))⟩
  refine Wk.icmpYes X9 hx (hb hby d10_20) (by decide) (q := 26) rfl (flt hc14).2.2.2 ?_
  refine Wk.aloadN X9 hx (hb hby d10_26) rfl rfl rfl ?_
  refine Wk.iloadN X9 hx (hb hby d10_27) rfl rfl ?_
  refine Wk.iload X9 hx (hb hby d10_28) rfl rfl ?_
  refine Wk.i2b X9 hx (hb hby d10_30) rfl ?_
  intro c15 hc15
  refine Wk.bastore X9 hx hZ e9 V9 (by decide) (by decide) 2 rfl (Nat.le_of_ble_eq_true rfl) (w := (nar .byte c15)) rfl (hb hby d10_31) rfl ?_
  intro T16 h16 L16 M16 X16 e16 W16 A16
  have N16 := M16 _ _ N9 (Or.inl (List.mem_of_getElem? (i := 0) rfl))
  have O17 : Old Z Z.heap.size h16 := O10.wr W16 ht
  have V16 : Arv Z h16 t kb .byte (14 : Int32) [(.int (nar .byte c2)), (.int (nar .byte c8)), (.int (nar .byte c15)), (.int (0 : Int32)), (.int (0 : Int32)), (.int (0 : Int32)), (.int (0 : Int32)), (.int (0 : Int32)), (.int (0 : Int32)), (.int (0 : Int32)), (.int (0 : Int32)), (.int (0 : Int32)), (.int (0 : Int32)), (.int (0 : Int32))] (.int (0 : Int32)) := A16
  refine Wk.iinc X16 hx (Ls' := #[.val (.ref b), .val (.int (3 : Int32)), .val (.ref t), .val (.int (2 : Int32)), .val (.int (14 : Int32)), .val (.int (2 : Int32)), .val (.int cz2)]) (hb hby d10_32) rfl rfl rfl ?_
  refine Wk.iinc X16 hx (Ls' := #[.val (.ref b), .val (.int (3 : Int32)), .val (.ref t), .val (.int (3 : Int32)), .val (.int (14 : Int32)), .val (.int (2 : Int32)), .val (.int cz2)]) (hb hby d10_35) rfl rfl rfl ?_
  refine Wk.iinc X16 hx (Ls' := #[.val (.ref b), .val (.int (3 : Int32)), .val (.ref t), .val (.int (3 : Int32)), .val (.int (14 : Int32)), .val (.int (3 : Int32)), .val (.int cz2)]) (hb hby d10_38) rfl rfl rfl ?_
  refine Wk.goto X16 hx (hb hby d10_41) (by decide) (q := 3) rfl ?_
  have KK18 : Keep h0 h16 [t] := (KK11.wr W16 (Or.inl (List.mem_of_getElem? (i := 0) rfl)))
  refine Wk.iload X16 hx (hb hby d10_3) rfl rfl ?_
  refine Wk.iload X16 hx (hb hby d10_5) rfl rfl ?_
  refine Wk.icmpNo X16 hx (hb hby d10_7) rfl (tlt (by decide : (3 : Int32) < (14 : Int32))).2.1 ?_
  refine Wk.aloadN X16 hx (hb hby d10_10) rfl rfl rfl ?_
  refine Wk.iloadN X16 hx (hb hby d10_11) rfl rfl ?_
  have KK19 : Keep h9 h16 [t] := ((Keep.refl h9 [t]).wr W16 (Or.inl (List.mem_of_getElem? (i := 0) rfl)))
  have f20 := (f13.keep KK19 (ninS hbt nin0))
  refine Wk.caload X16 hx hZ e16 f20 (by decide) (by decide) (v := cz3) rfl (hb hby d10_12) rfl ?_
  refine Wk.istore X16 hx (Ls' := #[.val (.ref b), .val (.int (3 : Int32)), .val (.ref t), .val (.int (3 : Int32)), .val (.int (14 : Int32)), .val (.int (3 : Int32)), .val (.int cz3)]) (hb hby d10_13) rfl rfl ?_
  refine Wk.iload X16 hx (hb hby d10_15) rfl rfl ?_
  refine Wk.sipush X16 hx (v := (255 : Int32)) (hb hby d10_17) rfl rfl ?_
  by_cases hc21 : (255 : Int32) < cz3
  · skip
    refine Wk.icmpNo X16 hx (hb hby d10_20) rfl (tlt hc21).2.2.2 ?_
    refine Wk.iload X16 hx (hb hby d10_23) rfl rfl ?_
    exact Wk.retI' X16 hx hlk hr (hb hby d10_25) (by decide) (by decide) (Qc := Q_rm_cp5_14 Z b kc t kb cz0 cz1 cz2 cz3 cz4 cz5 cz6 cz7 cz8 cz9 cz10 cz11 cz12 cz13 h0) e16 ⟨(3 : Int32), rfl, N16, KK18, (Or.inr (Or.inr (Or.inr (Or.inl ⟨hc21, rfl⟩))))⟩
  refine Wk.icmpYes X16 hx (hb hby d10_20) (by decide) (q := 26) rfl (flt hc21).2.2.2 ?_
  refine Wk.aloadN X16 hx (hb hby d10_26) rfl rfl rfl ?_
  refine Wk.iloadN X16 hx (hb hby d10_27) rfl rfl ?_
  refine Wk.iload X16 hx (hb hby d10_28) rfl rfl ?_
  refine Wk.i2b X16 hx (hb hby d10_30) rfl ?_
  intro c22 hc22
  refine Wk.bastore X16 hx hZ e16 V16 (by decide) (by decide) 3 rfl (Nat.le_of_ble_eq_true rfl) (w := (nar .byte c22)) rfl (hb hby d10_31) rfl ?_
  intro T23 h23 L23 M23 X23 e23 W23 A23
  have N23 := M23 _ _ N16 (Or.inl (List.mem_of_getElem? (i := 0) rfl))
  have O24 : Old Z Z.heap.size h23 := O17.wr W23 ht
  have V23 : Arv Z h23 t kb .byte (14 : Int32) [(.int (nar .byte c2)), (.int (nar .byte c8)), (.int (nar .byte c15)), (.int (nar .byte c22)), (.int (0 : Int32)), (.int (0 : Int32)), (.int (0 : Int32)), (.int (0 : Int32)), (.int (0 : Int32)), (.int (0 : Int32)), (.int (0 : Int32)), (.int (0 : Int32)), (.int (0 : Int32)), (.int (0 : Int32))] (.int (0 : Int32)) := A23
  refine Wk.iinc X23 hx (Ls' := #[.val (.ref b), .val (.int (4 : Int32)), .val (.ref t), .val (.int (3 : Int32)), .val (.int (14 : Int32)), .val (.int (3 : Int32)), .val (.int cz3)]) (hb hby d10_32) rfl rfl rfl ?_
  refine Wk.iinc X23 hx (Ls' := #[.val (.ref b), .val (.int (4 : Int32)), .val (.ref t), .val (.int (4 : Int32)), .val (.int (14 : Int32)), .val (.int (3 : Int32)), .val (.int cz3)]) (hb hby d10_35) rfl rfl rfl ?_
  refine Wk.iinc X23 hx (Ls' := #[.val (.ref b), .val (.int (4 : Int32)), .val (.ref t), .val (.int (4 : Int32)), .val (.int (14 : Int32)), .val (.int (4 : Int32)), .val (.int cz3)]) (hb hby d10_38) rfl rfl rfl ?_
  refine Wk.goto X23 hx (hb hby d10_41) (by decide) (q := 3) rfl ?_
  have KK25 : Keep h0 h23 [t] := (KK18.wr W23 (Or.inl (List.mem_of_getElem? (i := 0) rfl)))
  refine Wk.iload X23 hx (hb hby d10_3) rfl rfl ?_
  refine Wk.iload X23 hx (hb hby d10_5) rfl rfl ?_
  refine Wk.icmpNo X23 hx (hb hby d10_7) rfl (tlt (by decide : (4 : Int32) < (14 : Int32))).2.1 ?_
  refine Wk.aloadN X23 hx (hb hby d10_10) rfl rfl rfl ?_
  refine Wk.iloadN X23 hx (hb hby d10_11) rfl rfl ?_
  have KK26 : Keep h16 h23 [t] := ((Keep.refl h16 [t]).wr W23 (Or.inl (List.mem_of_getElem? (i := 0) rfl)))
  have f27 := (f20.keep KK26 (ninS hbt nin0))
  refine Wk.caload X23 hx hZ e23 f27 (by decide) (by decide) (v := cz4) rfl (hb hby d10_12) rfl ?_
  refine Wk.istore X23 hx (Ls' := #[.val (.ref b), .val (.int (4 : Int32)), .val (.ref t), .val (.int (4 : Int32)), .val (.int (14 : Int32)), .val (.int (4 : Int32)), .val (.int cz4)]) (hb hby d10_13) rfl rfl ?_
  refine Wk.iload X23 hx (hb hby d10_15) rfl rfl ?_
  refine Wk.sipush X23 hx (v := (255 : Int32)) (hb hby d10_17) rfl rfl ?_
  by_cases hc28 : (255 : Int32) < cz4
  · skip
    refine Wk.icmpNo X23 hx (hb hby d10_20) rfl (tlt hc28).2.2.2 ?_
    refine Wk.iload X23 hx (hb hby d10_23) rfl rfl ?_
    exact Wk.retI' X23 hx hlk hr (hb hby d10_25) (by decide) (by decide) (Qc := Q_rm_cp5_14 Z b kc t kb cz0 cz1 cz2 cz3 cz4 cz5 cz6 cz7 cz8 cz9 cz10 cz11 cz12 cz13 h0) e23 ⟨(4 : Int32), rfl, N23, KK25, (Or.inr (Or.inr (Or.inr (Or.inr (Or.inl ⟨hc28, rfl⟩)))))⟩
  refine Wk.icmpYes X23 hx (hb hby d10_20) (by decide) (q := 26) rfl (flt hc28).2.2.2 ?_
  refine Wk.aloadN X23 hx (hb hby d10_26) rfl rfl rfl ?_
  refine Wk.iloadN X23 hx (hb hby d10_27) rfl rfl ?_
  refine Wk.iload X23 hx (hb hby d10_28) rfl rfl ?_
  refine Wk.i2b X23 hx (hb hby d10_30) rfl ?_
  intro c29 hc29
  refine Wk.bastore X23 hx hZ e23 V23 (by decide) (by decide) 4 rfl (Nat.le_of_ble_eq_true rfl) (w := (nar .byte c29)) rfl (hb hby d10_31) rfl ?_
  intro T30 h30 L30 M30 X30 e30 W30 A30
  have N30 := M30 _ _ N23 (Or.inl (List.mem_of_getElem? (i := 0) rfl))
  have O31 : Old Z Z.heap.size h30 := O24.wr W30 ht
  have V30 : Arv Z h30 t kb .byte (14 : Int32) [(.int (nar .byte c2)), (.int (nar .byte c8)), (.int (nar .byte c15)), (.int (nar .byte c22)), (.int (nar .byte c29)), (.int (0 : Int32)), (.int (0 : Int32)), (.int (0 : Int32)), (.int (0 : Int32)), (.int (0 : Int32)), (.int (0 : Int32)), (.int (0 : Int32)), (.int (0 : Int32)), (.int (0 : Int32))] (.int (0 : Int32)) := A30
  refine Wk.iinc X30 hx (Ls' := #[.val (.ref b), .val (.int (5 : Int32)), .val (.ref t), .val (.int (4 : Int32)), .val (.int (14 : Int32)), .val (.int (4 : Int32)), .val (.int cz4)]) (hb hby d10_32) rfl rfl rfl ?_
  refine Wk.iinc X30 hx (Ls' := #[.val (.ref b), .val (.int (5 : Int32)), .val (.ref t), .val (.int (5 : Int32)), .val (.int (14 : Int32)), .val (.int (4 : Int32)), .val (.int cz4)]) (hb hby d10_35) rfl rfl rfl ?_
  refine Wk.iinc X30 hx (Ls' := #[.val (.ref b), .val (.int (5 : Int32)), .val (.ref t), .val (.int (5 : Int32)), .val (.int (14 : Int32)), .val (.int (5 : Int32)), .val (.int cz4)]) (hb hby d10_38) rfl rfl rfl ?_
  refine Wk.goto X30 hx (hb hby d10_41) (by decide) (q := 3) rfl ?_
  have KK32 : Keep h0 h30 [t] := (KK25.wr W30 (Or.inl (List.mem_of_getElem? (i := 0) rfl)))
  refine Wk.iload X30 hx (hb hby d10_3) rfl rfl ?_
  refine Wk.iload X30 hx (hb hby d10_5) rfl rfl ?_
  refine Wk.icmpNo X30 hx (hb hby d10_7) rfl (tlt (by decide : (5 : Int32) < (14 : Int32))).2.1 ?_
  refine Wk.aloadN X30 hx (hb hby d10_10) rfl rfl rfl ?_
  refine Wk.iloadN X30 hx (hb hby d10_11) rfl rfl ?_
  have KK33 : Keep h23 h30 [t] := ((Keep.refl h23 [t]).wr W30 (Or.inl (List.mem_of_getElem? (i := 0) rfl)))
  have f34 := (f27.keep KK33 (ninS hbt nin0))
  refine Wk.caload X30 hx hZ e30 f34 (by decide) (by decide) (v := cz5) rfl (hb hby d10_12) rfl ?_
  refine Wk.istore X30 hx (Ls' := #[.val (.ref b), .val (.int (5 : Int32)), .val (.ref t), .val (.int (5 : Int32)), .val (.int (14 : Int32)), .val (.int (5 : Int32)), .val (.int cz5)]) (hb hby d10_13) rfl rfl ?_
  refine Wk.iload X30 hx (hb hby d10_15) rfl rfl ?_
  refine Wk.sipush X30 hx (v := (255 : Int32)) (hb hby d10_17) rfl rfl ?_
  by_cases hc35 : (255 : Int32) < cz5
  · skip
    refine Wk.icmpNo X30 hx (hb hby d10_20) rfl (tlt hc35).2.2.2 ?_
    refine Wk.iload X30 hx (hb hby d10_23) rfl rfl ?_
    exact Wk.retI' X30 hx hlk hr (hb hby d10_25) (by decide) (by decide) (Qc := Q_rm_cp5_14 Z b kc t kb cz0 cz1 cz2 cz3 cz4 cz5 cz6 cz7 cz8 cz9 cz10 cz11 cz12 cz13 h0) e30 ⟨(5 : Int32), rfl, N30, KK32, (Or.inr (Or.inr (Or.inr (Or.inr (Or.inr (Or.inl ⟨hc35, rfl⟩))))))⟩
  refine Wk.icmpYes X30 hx (hb hby d10_20) (by decide) (q := 26) rfl (flt hc35).2.2.2 ?_
  refine Wk.aloadN X30 hx (hb hby d10_26) rfl rfl rfl ?_
  refine Wk.iloadN X30 hx (hb hby d10_27) rfl rfl ?_
  refine Wk.iload X30 hx (hb hby d10_28) rfl rfl ?_
  refine Wk.i2b X30 hx (hb hby d10_30) rfl ?_
  intro c36 hc36
  refine Wk.bastore X30 hx hZ e30 V30 (by decide) (by decide) 5 rfl (Nat.le_of_ble_eq_true rfl) (w := (nar .byte c36)) rfl (hb hby d10_31) rfl ?_
  intro T37 h37 L37 M37 X37 e37 W37 A37
  have N37 := M37 _ _ N30 (Or.inl (List.mem_of_getElem? (i := 0) rfl))
  have O38 : Old Z Z.heap.size h37 := O31.wr W37 ht
  have V37 : Arv Z h37 t kb .byte (14 : Int32) [(.int (nar .byte c2)), (.int (nar .byte c8)), (.int (nar .byte c15)), (.int (nar .byte c22)), (.int (nar .byte c29)), (.int (nar .byte c36)), (.int (0 : Int32)), (.int (0 : Int32)), (.int (0 : Int32)), (.int (0 : Int32)), (.int (0 : Int32)), (.int (0 : Int32)), (.int (0 : Int32)), (.int (0 : Int32))] (.int (0 : Int32)) := A37
  refine Wk.iinc X37 hx (Ls' := #[.val (.ref b), .val (.int (6 : Int32)), .val (.ref t), .val (.int (5 : Int32)), .val (.int (14 : Int32)), .val (.int (5 : Int32)), .val (.int cz5)]) (hb hby d10_32) rfl rfl rfl ?_
  refine Wk.iinc X37 hx (Ls' := #[.val (.ref b), .val (.int (6 : Int32)), .val (.ref t), .val (.int (6 : Int32)), .val (.int (14 : Int32)), .val (.int (5 : Int32)), .val (.int cz5)]) (hb hby d10_35) rfl rfl rfl ?_
  refine Wk.iinc X37 hx (Ls' := #[.val (.ref b), .val (.int (6 : Int32)), .val (.ref t), .val (.int (6 : Int32)), .val (.int (14 : Int32)), .val (.int (6 : Int32)), .val (.int cz5)]) (hb hby d10_38) rfl rfl rfl ?_
  refine Wk.goto X37 hx (hb hby d10_41) (by decide) (q := 3) rfl ?_
  have KK39 : Keep h0 h37 [t] := (KK32.wr W37 (Or.inl (List.mem_of_getElem? (i := 0) rfl)))
  refine Wk.iload X37 hx (hb hby d10_3) rfl rfl ?_
  refine Wk.iload X37 hx (hb hby d10_5) rfl rfl ?_
  refine Wk.icmpNo X37 hx (hb hby d10_7) rfl (tlt (by decide : (6 : Int32) < (14 : Int32))).2.1 ?_
  refine Wk.aloadN X37 hx (hb hby d10_10) rfl rfl rfl ?_
  refine Wk.iloadN X37 hx (hb hby d10_11) rfl rfl ?_
  have KK40 : Keep h30 h37 [t] := ((Keep.refl h30 [t]).wr W37 (Or.inl (List.mem_of_getElem? (i := 0) rfl)))
  have f41 := (f34.keep KK40 (ninS hbt nin0))
  refine Wk.caload X37 hx hZ e37 f41 (by decide) (by decide) (v := cz6) rfl (hb hby d10_12) rfl ?_
  refine Wk.istore X37 hx (Ls' := #[.val (.ref b), .val (.int (6 : Int32)), .val (.ref t), .val (.int (6 : Int32)), .val (.int (14 : Int32)), .val (.int (6 : Int32)), .val (.int cz6)]) (hb hby d10_13) rfl rfl ?_
  refine Wk.iload X37 hx (hb hby d10_15) rfl rfl ?_
  refine Wk.sipush X37 hx (v := (255 : Int32)) (hb hby d10_17) rfl rfl ?_
  by_cases hc42 : (255 : Int32) < cz6
  · skip
    refine Wk.icmpNo X37 hx (hb hby d10_20) rfl (tlt hc42).2.2.2 ?_
    refine Wk.iload X37 hx (hb hby d10_23) rfl rfl ?_
    exact Wk.retI' X37 hx hlk hr (hb hby d10_25) (by decide) (by decide) (Qc := Q_rm_cp5_14 Z b kc t kb cz0 cz1 cz2 cz3 cz4 cz5 cz6 cz7 cz8 cz9 cz10 cz11 cz12 cz13 h0) e37 ⟨(6 : Int32), rfl, N37, KK39, (Or.inr (Or.inr (Or.inr (Or.inr (Or.inr (Or.inr (Or.inl ⟨hc42, rfl⟩)))))))⟩
  refine Wk.icmpYes X37 hx (hb hby d10_20) (by decide) (q := 26) rfl (flt hc42).2.2.2 ?_
  refine Wk.aloadN X37 hx (hb hby d10_26) rfl rfl rfl ?_
  refine Wk.iloadN X37 hx (hb hby d10_27) rfl rfl ?_
  refine Wk.iload X37 hx (hb hby d10_28) rfl rfl ?_
  refine Wk.i2b X37 hx (hb hby d10_30) rfl ?_
  intro c43 hc43
  refine Wk.bastore X37 hx hZ e37 V37 (by decide) (by decide) 6 rfl (Nat.le_of_ble_eq_true rfl) (w := (nar .byte c43)) rfl (hb hby d10_31) rfl ?_
  intro T44 h44 L44 M44 X44 e44 W44 A44
  have N44 := M44 _ _ N37 (Or.inl (List.mem_of_getElem? (i := 0) rfl))
  have O45 : Old Z Z.heap.size h44 := O38.wr W44 ht
  have V44 : Arv Z h44 t kb .byte (14 : Int32) [(.int (nar .byte c2)), (.int (nar .byte c8)), (.int (nar .byte c15)), (.int (nar .byte c22)), (.int (nar .byte c29)), (.int (nar .byte c36)), (.int (nar .byte c43)), (.int (0 : Int32)), (.int (0 : Int32)), (.int (0 : Int32)), (.int (0 : Int32)), (.int (0 : Int32)), (.int (0 : Int32)), (.int (0 : Int32))] (.int (0 : Int32)) := A44
  refine Wk.iinc X44 hx (Ls' := #[.val (.ref b), .val (.int (7 : Int32)), .val (.ref t), .val (.int (6 : Int32)), .val (.int (14 : Int32)), .val (.int (6 : Int32)), .val (.int cz6)]) (hb hby d10_32) rfl rfl rfl ?_
  refine Wk.iinc X44 hx (Ls' := #[.val (.ref b), .val (.int (7 : Int32)), .val (.ref t), .val (.int (7 : Int32)), .val (.int (14 : Int32)), .val (.int (6 : Int32)), .val (.int cz6)]) (hb hby d10_35) rfl rfl rfl ?_
  refine Wk.iinc X44 hx (Ls' := #[.val (.ref b), .val (.int (7 : Int32)), .val (.ref t), .val (.int (7 : Int32)), .val (.int (14 : Int32)), .val (.int (7 : Int32)), .val (.int cz6)]) (hb hby d10_38) rfl rfl rfl ?_
  refine Wk.goto X44 hx (hb hby d10_41) (by decide) (q := 3) rfl ?_
  have KK46 : Keep h0 h44 [t] := (KK39.wr W44 (Or.inl (List.mem_of_getElem? (i := 0) rfl)))
  refine Wk.iload X44 hx (hb hby d10_3) rfl rfl ?_
  refine Wk.iload X44 hx (hb hby d10_5) rfl rfl ?_
  refine Wk.icmpNo X44 hx (hb hby d10_7) rfl (tlt (by decide : (7 : Int32) < (14 : Int32))).2.1 ?_
  refine Wk.aloadN X44 hx (hb hby d10_10) rfl rfl rfl ?_
  refine Wk.iloadN X44 hx (hb hby d10_11) rfl rfl ?_
  have KK47 : Keep h37 h44 [t] := ((Keep.refl h37 [t]).wr W44 (Or.inl (List.mem_of_getElem? (i := 0) rfl)))
  have f48 := (f41.keep KK47 (ninS hbt nin0))
  refine Wk.caload X44 hx hZ e44 f48 (by decide) (by decide) (v := cz7) rfl (hb hby d10_12) rfl ?_
  refine Wk.istore X44 hx (Ls' := #[.val (.ref b), .val (.int (7 : Int32)), .val (.ref t), .val (.int (7 : Int32)), .val (.int (14 : Int32)), .val (.int (7 : Int32)), .val (.int cz7)]) (hb hby d10_13) rfl rfl ?_
  refine Wk.iload X44 hx (hb hby d10_15) rfl rfl ?_
  refine Wk.sipush X44 hx (v := (255 : Int32)) (hb hby d10_17) rfl rfl ?_
  by_cases hc49 : (255 : Int32) < cz7
  · skip
    refine Wk.icmpNo X44 hx (hb hby d10_20) rfl (tlt hc49).2.2.2 ?_
    refine Wk.iload X44 hx (hb hby d10_23) rfl rfl ?_
    exact Wk.retI' X44 hx hlk hr (hb hby d10_25) (by decide) (by decide) (Qc := Q_rm_cp5_14 Z b kc t kb cz0 cz1 cz2 cz3 cz4 cz5 cz6 cz7 cz8 cz9 cz10 cz11 cz12 cz13 h0) e44 ⟨(7 : Int32), rfl, N44, KK46, (Or.inr (Or.inr (Or.inr (Or.inr (Or.inr (Or.inr (Or.inr (Or.inl ⟨hc49, rfl⟩))))))))⟩
  refine Wk.icmpYes X44 hx (hb hby d10_20) (by decide) (q := 26) rfl (flt hc49).2.2.2 ?_
  refine Wk.aloadN X44 hx (hb hby d10_26) rfl rfl rfl ?_
  refine Wk.iloadN X44 hx (hb hby d10_27) rfl rfl ?_
  refine Wk.iload X44 hx (hb hby d10_28) rfl rfl ?_
  refine Wk.i2b X44 hx (hb hby d10_30) rfl ?_
  intro c50 hc50
  refine Wk.bastore X44 hx hZ e44 V44 (by decide) (by decide) 7 rfl (Nat.le_of_ble_eq_true rfl) (w := (nar .byte c50)) rfl (hb hby d10_31) rfl ?_
  intro T51 h51 L51 M51 X51 e51 W51 A51
  have N51 := M51 _ _ N44 (Or.inl (List.mem_of_getElem? (i := 0) rfl))
  have O52 : Old Z Z.heap.size h51 := O45.wr W51 ht
  have V51 : Arv Z h51 t kb .byte (14 : Int32) [(.int (nar .byte c2)), (.int (nar .byte c8)), (.int (nar .byte c15)), (.int (nar .byte c22)), (.int (nar .byte c29)), (.int (nar .byte c36)), (.int (nar .byte c43)), (.int (nar .byte c50)), (.int (0 : Int32)), (.int (0 : Int32)), (.int (0 : Int32)), (.int (0 : Int32)), (.int (0 : Int32)), (.int (0 : Int32))] (.int (0 : Int32)) := A51
  refine Wk.iinc X51 hx (Ls' := #[.val (.ref b), .val (.int (8 : Int32)), .val (.ref t), .val (.int (7 : Int32)), .val (.int (14 : Int32)), .val (.int (7 : Int32)), .val (.int cz7)]) (hb hby d10_32) rfl rfl rfl ?_
  refine Wk.iinc X51 hx (Ls' := #[.val (.ref b), .val (.int (8 : Int32)), .val (.ref t), .val (.int (8 : Int32)), .val (.int (14 : Int32)), .val (.int (7 : Int32)), .val (.int cz7)]) (hb hby d10_35) rfl rfl rfl ?_
  refine Wk.iinc X51 hx (Ls' := #[.val (.ref b), .val (.int (8 : Int32)), .val (.ref t), .val (.int (8 : Int32)), .val (.int (14 : Int32)), .val (.int (8 : Int32)), .val (.int cz7)]) (hb hby d10_38) rfl rfl rfl ?_
  refine Wk.goto X51 hx (hb hby d10_41) (by decide) (q := 3) rfl ?_
  have KK53 : Keep h0 h51 [t] := (KK46.wr W51 (Or.inl (List.mem_of_getElem? (i := 0) rfl)))
  refine Wk.iload X51 hx (hb hby d10_3) rfl rfl ?_
  refine Wk.iload X51 hx (hb hby d10_5) rfl rfl ?_
  refine Wk.icmpNo X51 hx (hb hby d10_7) rfl (tlt (by decide : (8 : Int32) < (14 : Int32))).2.1 ?_
  refine Wk.aloadN X51 hx (hb hby d10_10) rfl rfl rfl ?_
  refine Wk.iloadN X51 hx (hb hby d10_11) rfl rfl ?_
  have KK54 : Keep h44 h51 [t] := ((Keep.refl h44 [t]).wr W51 (Or.inl (List.mem_of_getElem? (i := 0) rfl)))
  have f55 := (f48.keep KK54 (ninS hbt nin0))
  refine Wk.caload X51 hx hZ e51 f55 (by decide) (by decide) (v := cz8) rfl (hb hby d10_12) rfl ?_
  refine Wk.istore X51 hx (Ls' := #[.val (.ref b), .val (.int (8 : Int32)), .val (.ref t), .val (.int (8 : Int32)), .val (.int (14 : Int32)), .val (.int (8 : Int32)), .val (.int cz8)]) (hb hby d10_13) rfl rfl ?_
  refine Wk.iload X51 hx (hb hby d10_15) rfl rfl ?_
  refine Wk.sipush X51 hx (v := (255 : Int32)) (hb hby d10_17) rfl rfl ?_
  by_cases hc56 : (255 : Int32) < cz8
  · skip
    refine Wk.icmpNo X51 hx (hb hby d10_20) rfl (tlt hc56).2.2.2 ?_
    refine Wk.iload X51 hx (hb hby d10_23) rfl rfl ?_
    exact Wk.retI' X51 hx hlk hr (hb hby d10_25) (by decide) (by decide) (Qc := Q_rm_cp5_14 Z b kc t kb cz0 cz1 cz2 cz3 cz4 cz5 cz6 cz7 cz8 cz9 cz10 cz11 cz12 cz13 h0) e51 ⟨(8 : Int32), rfl, N51, KK53, (Or.inr (Or.inr (Or.inr (Or.inr (Or.inr (Or.inr (Or.inr (Or.inr (Or.inl ⟨hc56, rfl⟩)))))))))⟩
  refine Wk.icmpYes X51 hx (hb hby d10_20) (by decide) (q := 26) rfl (flt hc56).2.2.2 ?_
  refine Wk.aloadN X51 hx (hb hby d10_26) rfl rfl rfl ?_
  refine Wk.iloadN X51 hx (hb hby d10_27) rfl rfl ?_
  refine Wk.iload X51 hx (hb hby d10_28) rfl rfl ?_
  refine Wk.i2b X51 hx (hb hby d10_30) rfl ?_
  intro c57 hc57
  refine Wk.bastore X51 hx hZ e51 V51 (by decide) (by decide) 8 rfl (Nat.le_of_ble_eq_true rfl) (w := (nar .byte c57)) rfl (hb hby d10_31) rfl ?_
  intro T58 h58 L58 M58 X58 e58 W58 A58
  have N58 := M58 _ _ N51 (Or.inl (List.mem_of_getElem? (i := 0) rfl))
  have O59 : Old Z Z.heap.size h58 := O52.wr W58 ht
  have V58 : Arv Z h58 t kb .byte (14 : Int32) [(.int (nar .byte c2)), (.int (nar .byte c8)), (.int (nar .byte c15)), (.int (nar .byte c22)), (.int (nar .byte c29)), (.int (nar .byte c36)), (.int (nar .byte c43)), (.int (nar .byte c50)), (.int (nar .byte c57)), (.int (0 : Int32)), (.int (0 : Int32)), (.int (0 : Int32)), (.int (0 : Int32)), (.int (0 : Int32))] (.int (0 : Int32)) := A58
  refine Wk.iinc X58 hx (Ls' := #[.val (.ref b), .val (.int (9 : Int32)), .val (.ref t), .val (.int (8 : Int32)), .val (.int (14 : Int32)), .val (.int (8 : Int32)), .val (.int cz8)]) (hb hby d10_32) rfl rfl rfl ?_
  refine Wk.iinc X58 hx (Ls' := #[.val (.ref b), .val (.int (9 : Int32)), .val (.ref t), .val (.int (9 : Int32)), .val (.int (14 : Int32)), .val (.int (8 : Int32)), .val (.int cz8)]) (hb hby d10_35) rfl rfl rfl ?_
  refine Wk.iinc X58 hx (Ls' := #[.val (.ref b), .val (.int (9 : Int32)), .val (.ref t), .val (.int (9 : Int32)), .val (.int (14 : Int32)), .val (.int (9 : Int32)), .val (.int cz8)]) (hb hby d10_38) rfl rfl rfl ?_
  refine Wk.goto X58 hx (hb hby d10_41) (by decide) (q := 3) rfl ?_
  have KK60 : Keep h0 h58 [t] := (KK53.wr W58 (Or.inl (List.mem_of_getElem? (i := 0) rfl)))
  refine Wk.iload X58 hx (hb hby d10_3) rfl rfl ?_
  refine Wk.iload X58 hx (hb hby d10_5) rfl rfl ?_
  refine Wk.icmpNo X58 hx (hb hby d10_7) rfl (tlt (by decide : (9 : Int32) < (14 : Int32))).2.1 ?_
  refine Wk.aloadN X58 hx (hb hby d10_10) rfl rfl rfl ?_
  refine Wk.iloadN X58 hx (hb hby d10_11) rfl rfl ?_
  have KK61 : Keep h51 h58 [t] := ((Keep.refl h51 [t]).wr W58 (Or.inl (List.mem_of_getElem? (i := 0) rfl)))
  have f62 := (f55.keep KK61 (ninS hbt nin0))
  refine Wk.caload X58 hx hZ e58 f62 (by decide) (by decide) (v := cz9) rfl (hb hby d10_12) rfl ?_
  refine Wk.istore X58 hx (Ls' := #[.val (.ref b), .val (.int (9 : Int32)), .val (.ref t), .val (.int (9 : Int32)), .val (.int (14 : Int32)), .val (.int (9 : Int32)), .val (.int cz9)]) (hb hby d10_13) rfl rfl ?_
  refine Wk.iload X58 hx (hb hby d10_15) rfl rfl ?_
  refine Wk.sipush X58 hx (v := (255 : Int32)) (hb hby d10_17) rfl rfl ?_
  by_cases hc63 : (255 : Int32) < cz9
  · skip
    refine Wk.icmpNo X58 hx (hb hby d10_20) rfl (tlt hc63).2.2.2 ?_
    refine Wk.iload X58 hx (hb hby d10_23) rfl rfl ?_
    exact Wk.retI' X58 hx hlk hr (hb hby d10_25) (by decide) (by decide) (Qc := Q_rm_cp5_14 Z b kc t kb cz0 cz1 cz2 cz3 cz4 cz5 cz6 cz7 cz8 cz9 cz10 cz11 cz12 cz13 h0) e58 ⟨(9 : Int32), rfl, N58, KK60, (Or.inr (Or.inr (Or.inr (Or.inr (Or.inr (Or.inr (Or.inr (Or.inr (Or.inr (Or.inl ⟨hc63, rfl⟩))))))))))⟩
  refine Wk.icmpYes X58 hx (hb hby d10_20) (by decide) (q := 26) rfl (flt hc63).2.2.2 ?_
  refine Wk.aloadN X58 hx (hb hby d10_26) rfl rfl rfl ?_
  refine Wk.iloadN X58 hx (hb hby d10_27) rfl rfl ?_
  refine Wk.iload X58 hx (hb hby d10_28) rfl rfl ?_
  refine Wk.i2b X58 hx (hb hby d10_30) rfl ?_
  intro c64 hc64
  refine Wk.bastore X58 hx hZ e58 V58 (by decide) (by decide) 9 rfl (Nat.le_of_ble_eq_true rfl) (w := (nar .byte c64)) rfl (hb hby d10_31) rfl ?_
  intro T65 h65 L65 M65 X65 e65 W65 A65
  have N65 := M65 _ _ N58 (Or.inl (List.mem_of_getElem? (i := 0) rfl))
  have O66 : Old Z Z.heap.size h65 := O59.wr W65 ht
  have V65 : Arv Z h65 t kb .byte (14 : Int32) [(.int (nar .byte c2)), (.int (nar .byte c8)), (.int (nar .byte c15)), (.int (nar .byte c22)), (.int (nar .byte c29)), (.int (nar .byte c36)), (.int (nar .byte c43)), (.int (nar .byte c50)), (.int (nar .byte c57)), (.int (nar .byte c64)), (.int (0 : Int32)), (.int (0 : Int32)), (.int (0 : Int32)), (.int (0 : Int32))] (.int (0 : Int32)) := A65
  refine Wk.iinc X65 hx (Ls' := #[.val (.ref b), .val (.int (10 : Int32)), .val (.ref t), .val (.int (9 : Int32)), .val (.int (14 : Int32)), .val (.int (9 : Int32)), .val (.int cz9)]) (hb hby d10_32) rfl rfl rfl ?_
  refine Wk.iinc X65 hx (Ls' := #[.val (.ref b), .val (.int (10 : Int32)), .val (.ref t), .val (.int (10 : Int32)), .val (.int (14 : Int32)), .val (.int (9 : Int32)), .val (.int cz9)]) (hb hby d10_35) rfl rfl rfl ?_
  refine Wk.iinc X65 hx (Ls' := #[.val (.ref b), .val (.int (10 : Int32)), .val (.ref t), .val (.int (10 : Int32)), .val (.int (14 : Int32)), .val (.int (10 : Int32)), .val (.int cz9)]) (hb hby d10_38) rfl rfl rfl ?_
  refine Wk.goto X65 hx (hb hby d10_41) (by decide) (q := 3) rfl ?_
  have KK67 : Keep h0 h65 [t] := (KK60.wr W65 (Or.inl (List.mem_of_getElem? (i := 0) rfl)))
  refine Wk.iload X65 hx (hb hby d10_3) rfl rfl ?_
  refine Wk.iload X65 hx (hb hby d10_5) rfl rfl ?_
  refine Wk.icmpNo X65 hx (hb hby d10_7) rfl (tlt (by decide : (10 : Int32) < (14 : Int32))).2.1 ?_
  refine Wk.aloadN X65 hx (hb hby d10_10) rfl rfl rfl ?_
  refine Wk.iloadN X65 hx (hb hby d10_11) rfl rfl ?_
  have KK68 : Keep h58 h65 [t] := ((Keep.refl h58 [t]).wr W65 (Or.inl (List.mem_of_getElem? (i := 0) rfl)))
  have f69 := (f62.keep KK68 (ninS hbt nin0))
  refine Wk.caload X65 hx hZ e65 f69 (by decide) (by decide) (v := cz10) rfl (hb hby d10_12) rfl ?_
  refine Wk.istore X65 hx (Ls' := #[.val (.ref b), .val (.int (10 : Int32)), .val (.ref t), .val (.int (10 : Int32)), .val (.int (14 : Int32)), .val (.int (10 : Int32)), .val (.int cz10)]) (hb hby d10_13) rfl rfl ?_
  refine Wk.iload X65 hx (hb hby d10_15) rfl rfl ?_
  refine Wk.sipush X65 hx (v := (255 : Int32)) (hb hby d10_17) rfl rfl ?_
  by_cases hc70 : (255 : Int32) < cz10
  · skip
    refine Wk.icmpNo X65 hx (hb hby d10_20) rfl (tlt hc70).2.2.2 ?_
    refine Wk.iload X65 hx (hb hby d10_23) rfl rfl ?_
    exact Wk.retI' X65 hx hlk hr (hb hby d10_25) (by decide) (by decide) (Qc := Q_rm_cp5_14 Z b kc t kb cz0 cz1 cz2 cz3 cz4 cz5 cz6 cz7 cz8 cz9 cz10 cz11 cz12 cz13 h0) e65 ⟨(10 : Int32), rfl, N65, KK67, (Or.inr (Or.inr (Or.inr (Or.inr (Or.inr (Or.inr (Or.inr (Or.inr (Or.inr (Or.inr (Or.inl ⟨hc70, rfl⟩)))))))))))⟩
  refine Wk.icmpYes X65 hx (hb hby d10_20) (by decide) (q := 26) rfl (flt hc70).2.2.2 ?_
  refine Wk.aloadN X65 hx (hb hby d10_26) rfl rfl rfl ?_
  refine Wk.iloadN X65 hx (hb hby d10_27) rfl rfl ?_
  refine Wk.iload X65 hx (hb hby d10_28) rfl rfl ?_
  refine Wk.i2b X65 hx (hb hby d10_30) rfl ?_
  intro c71 hc71
  refine Wk.bastore X65 hx hZ e65 V65 (by decide) (by decide) 10 rfl (Nat.le_of_ble_eq_true rfl) (w := (nar .byte c71)) rfl (hb hby d10_31) rfl ?_
  intro T72 h72 L72 M72 X72 e72 W72 A72
  have N72 := M72 _ _ N65 (Or.inl (List.mem_of_getElem? (i := 0) rfl))
  have O73 : Old Z Z.heap.size h72 := O66.wr W72 ht
  have V72 : Arv Z h72 t kb .byte (14 : Int32) [(.int (nar .byte c2)), (.int (nar .byte c8)), (.int (nar .byte c15)), (.int (nar .byte c22)), (.int (nar .byte c29)), (.int (nar .byte c36)), (.int (nar .byte c43)), (.int (nar .byte c50)), (.int (nar .byte c57)), (.int (nar .byte c64)), (.int (nar .byte c71)), (.int (0 : Int32)), (.int (0 : Int32)), (.int (0 : Int32))] (.int (0 : Int32)) := A72
  refine Wk.iinc X72 hx (Ls' := #[.val (.ref b), .val (.int (11 : Int32)), .val (.ref t), .val (.int (10 : Int32)), .val (.int (14 : Int32)), .val (.int (10 : Int32)), .val (.int cz10)]) (hb hby d10_32) rfl rfl rfl ?_
  refine Wk.iinc X72 hx (Ls' := #[.val (.ref b), .val (.int (11 : Int32)), .val (.ref t), .val (.int (11 : Int32)), .val (.int (14 : Int32)), .val (.int (10 : Int32)), .val (.int cz10)]) (hb hby d10_35) rfl rfl rfl ?_
  refine Wk.iinc X72 hx (Ls' := #[.val (.ref b), .val (.int (11 : Int32)), .val (.ref t), .val (.int (11 : Int32)), .val (.int (14 : Int32)), .val (.int (11 : Int32)), .val (.int cz10)]) (hb hby d10_38) rfl rfl rfl ?_
  refine Wk.goto X72 hx (hb hby d10_41) (by decide) (q := 3) rfl ?_
  have KK74 : Keep h0 h72 [t] := (KK67.wr W72 (Or.inl (List.mem_of_getElem? (i := 0) rfl)))
  refine Wk.iload X72 hx (hb hby d10_3) rfl rfl ?_
  refine Wk.iload X72 hx (hb hby d10_5) rfl rfl ?_
  refine Wk.icmpNo X72 hx (hb hby d10_7) rfl (tlt (by decide : (11 : Int32) < (14 : Int32))).2.1 ?_
  refine Wk.aloadN X72 hx (hb hby d10_10) rfl rfl rfl ?_
  refine Wk.iloadN X72 hx (hb hby d10_11) rfl rfl ?_
  have KK75 : Keep h65 h72 [t] := ((Keep.refl h65 [t]).wr W72 (Or.inl (List.mem_of_getElem? (i := 0) rfl)))
  have f76 := (f69.keep KK75 (ninS hbt nin0))
  refine Wk.caload X72 hx hZ e72 f76 (by decide) (by decide) (v := cz11) rfl (hb hby d10_12) rfl ?_
  refine Wk.istore X72 hx (Ls' := #[.val (.ref b), .val (.int (11 : Int32)), .val (.ref t), .val (.int (11 : Int32)), .val (.int (14 : Int32)), .val (.int (11 : Int32)), .val (.int cz11)]) (hb hby d10_13) rfl rfl ?_
  refine Wk.iload X72 hx (hb hby d10_15) rfl rfl ?_
  refine Wk.sipush X72 hx (v := (255 : Int32)) (hb hby d10_17) rfl rfl ?_
  by_cases hc77 : (255 : Int32) < cz11
  · skip
    refine Wk.icmpNo X72 hx (hb hby d10_20) rfl (tlt hc77).2.2.2 ?_
    refine Wk.iload X72 hx (hb hby d10_23) rfl rfl ?_
    exact Wk.retI' X72 hx hlk hr (hb hby d10_25) (by decide) (by decide) (Qc := Q_rm_cp5_14 Z b kc t kb cz0 cz1 cz2 cz3 cz4 cz5 cz6 cz7 cz8 cz9 cz10 cz11 cz12 cz13 h0) e72 ⟨(11 : Int32), rfl, N72, KK74, (Or.inr (Or.inr (Or.inr (Or.inr (Or.inr (Or.inr (Or.inr (Or.inr (Or.inr (Or.inr (Or.inr (Or.inl ⟨hc77, rfl⟩))))))))))))⟩
  refine Wk.icmpYes X72 hx (hb hby d10_20) (by decide) (q := 26) rfl (flt hc77).2.2.2 ?_
  refine Wk.aloadN X72 hx (hb hby d10_26) rfl rfl rfl ?_
  refine Wk.iloadN X72 hx (hb hby d10_27) rfl rfl ?_
  refine Wk.iload X72 hx (hb hby d10_28) rfl rfl ?_
  refine Wk.i2b X72 hx (hb hby d10_30) rfl ?_
  intro c78 hc78
  refine Wk.bastore X72 hx hZ e72 V72 (by decide) (by decide) 11 rfl (Nat.le_of_ble_eq_true rfl) (w := (nar .byte c78)) rfl (hb hby d10_31) rfl ?_
  intro T79 h79 L79 M79 X79 e79 W79 A79
  have N79 := M79 _ _ N72 (Or.inl (List.mem_of_getElem? (i := 0) rfl))
  have O80 : Old Z Z.heap.size h79 := O73.wr W79 ht
  have V79 : Arv Z h79 t kb .byte (14 : Int32) [(.int (nar .byte c2)), (.int (nar .byte c8)), (.int (nar .byte c15)), (.int (nar .byte c22)), (.int (nar .byte c29)), (.int (nar .byte c36)), (.int (nar .byte c43)), (.int (nar .byte c50)), (.int (nar .byte c57)), (.int (nar .byte c64)), (.int (nar .byte c71)), (.int (nar .byte c78)), (.int (0 : Int32)), (.int (0 : Int32))] (.int (0 : Int32)) := A79
  refine Wk.iinc X79 hx (Ls' := #[.val (.ref b), .val (.int (12 : Int32)), .val (.ref t), .val (.int (11 : Int32)), .val (.int (14 : Int32)), .val (.int (11 : Int32)), .val (.int cz11)]) (hb hby d10_32) rfl rfl rfl ?_
  refine Wk.iinc X79 hx (Ls' := #[.val (.ref b), .val (.int (12 : Int32)), .val (.ref t), .val (.int (12 : Int32)), .val (.int (14 : Int32)), .val (.int (11 : Int32)), .val (.int cz11)]) (hb hby d10_35) rfl rfl rfl ?_
  refine Wk.iinc X79 hx (Ls' := #[.val (.ref b), .val (.int (12 : Int32)), .val (.ref t), .val (.int (12 : Int32)), .val (.int (14 : Int32)), .val (.int (12 : Int32)), .val (.int cz11)]) (hb hby d10_38) rfl rfl rfl ?_
  refine Wk.goto X79 hx (hb hby d10_41) (by decide) (q := 3) rfl ?_
  have KK81 : Keep h0 h79 [t] := (KK74.wr W79 (Or.inl (List.mem_of_getElem? (i := 0) rfl)))
  refine Wk.iload X79 hx (hb hby d10_3) rfl rfl ?_
  refine Wk.iload X79 hx (hb hby d10_5) rfl rfl ?_
  refine Wk.icmpNo X79 hx (hb hby d10_7) rfl (tlt (by decide : (12 : Int32) < (14 : Int32))).2.1 ?_
  refine Wk.aloadN X79 hx (hb hby d10_10) rfl rfl rfl ?_
  refine Wk.iloadN X79 hx (hb hby d10_11) rfl rfl ?_
  have KK82 : Keep h72 h79 [t] := ((Keep.refl h72 [t]).wr W79 (Or.inl (List.mem_of_getElem? (i := 0) rfl)))
  have f83 := (f76.keep KK82 (ninS hbt nin0))
  refine Wk.caload X79 hx hZ e79 f83 (by decide) (by decide) (v := cz12) rfl (hb hby d10_12) rfl ?_
  refine Wk.istore X79 hx (Ls' := #[.val (.ref b), .val (.int (12 : Int32)), .val (.ref t), .val (.int (12 : Int32)), .val (.int (14 : Int32)), .val (.int (12 : Int32)), .val (.int cz12)]) (hb hby d10_13) rfl rfl ?_
  refine Wk.iload X79 hx (hb hby d10_15) rfl rfl ?_
  refine Wk.sipush X79 hx (v := (255 : Int32)) (hb hby d10_17) rfl rfl ?_
  by_cases hc84 : (255 : Int32) < cz12
  · skip
    refine Wk.icmpNo X79 hx (hb hby d10_20) rfl (tlt hc84).2.2.2 ?_
    refine Wk.iload X79 hx (hb hby d10_23) rfl rfl ?_
    exact Wk.retI' X79 hx hlk hr (hb hby d10_25) (by decide) (by decide) (Qc := Q_rm_cp5_14 Z b kc t kb cz0 cz1 cz2 cz3 cz4 cz5 cz6 cz7 cz8 cz9 cz10 cz11 cz12 cz13 h0) e79 ⟨(12 : Int32), rfl, N79, KK81, (Or.inr (Or.inr (Or.inr (Or.inr (Or.inr (Or.inr (Or.inr (Or.inr (Or.inr (Or.inr (Or.inr (Or.inr (Or.inl ⟨hc84, rfl⟩)))))))))))))⟩
  refine Wk.icmpYes X79 hx (hb hby d10_20) (by decide) (q := 26) rfl (flt hc84).2.2.2 ?_
  refine Wk.aloadN X79 hx (hb hby d10_26) rfl rfl rfl ?_
  refine Wk.iloadN X79 hx (hb hby d10_27) rfl rfl ?_
  refine Wk.iload X79 hx (hb hby d10_28) rfl rfl ?_
  refine Wk.i2b X79 hx (hb hby d10_30) rfl ?_
  intro c85 hc85
  refine Wk.bastore X79 hx hZ e79 V79 (by decide) (by decide) 12 rfl (Nat.le_of_ble_eq_true rfl) (w := (nar .byte c85)) rfl (hb hby d10_31) rfl ?_
  intro T86 h86 L86 M86 X86 e86 W86 A86
  have N86 := M86 _ _ N79 (Or.inl (List.mem_of_getElem? (i := 0) rfl))
  have O87 : Old Z Z.heap.size h86 := O80.wr W86 ht
  have V86 : Arv Z h86 t kb .byte (14 : Int32) [(.int (nar .byte c2)), (.int (nar .byte c8)), (.int (nar .byte c15)), (.int (nar .byte c22)), (.int (nar .byte c29)), (.int (nar .byte c36)), (.int (nar .byte c43)), (.int (nar .byte c50)), (.int (nar .byte c57)), (.int (nar .byte c64)), (.int (nar .byte c71)), (.int (nar .byte c78)), (.int (nar .byte c85)), (.int (0 : Int32))] (.int (0 : Int32)) := A86
  refine Wk.iinc X86 hx (Ls' := #[.val (.ref b), .val (.int (13 : Int32)), .val (.ref t), .val (.int (12 : Int32)), .val (.int (14 : Int32)), .val (.int (12 : Int32)), .val (.int cz12)]) (hb hby d10_32) rfl rfl rfl ?_
  refine Wk.iinc X86 hx (Ls' := #[.val (.ref b), .val (.int (13 : Int32)), .val (.ref t), .val (.int (13 : Int32)), .val (.int (14 : Int32)), .val (.int (12 : Int32)), .val (.int cz12)]) (hb hby d10_35) rfl rfl rfl ?_
  refine Wk.iinc X86 hx (Ls' := #[.val (.ref b), .val (.int (13 : Int32)), .val (.ref t), .val (.int (13 : Int32)), .val (.int (14 : Int32)), .val (.int (13 : Int32)), .val (.int cz12)]) (hb hby d10_38) rfl rfl rfl ?_
  refine Wk.goto X86 hx (hb hby d10_41) (by decide) (q := 3) rfl ?_
  have KK88 : Keep h0 h86 [t] := (KK81.wr W86 (Or.inl (List.mem_of_getElem? (i := 0) rfl)))
  refine Wk.iload X86 hx (hb hby d10_3) rfl rfl ?_
  refine Wk.iload X86 hx (hb hby d10_5) rfl rfl ?_
  refine Wk.icmpNo X86 hx (hb hby d10_7) rfl (tlt (by decide : (13 : Int32) < (14 : Int32))).2.1 ?_
  refine Wk.aloadN X86 hx (hb hby d10_10) rfl rfl rfl ?_
  refine Wk.iloadN X86 hx (hb hby d10_11) rfl rfl ?_
  have KK89 : Keep h79 h86 [t] := ((Keep.refl h79 [t]).wr W86 (Or.inl (List.mem_of_getElem? (i := 0) rfl)))
  have f90 := (f83.keep KK89 (ninS hbt nin0))
  refine Wk.caload X86 hx hZ e86 f90 (by decide) (by decide) (v := cz13) rfl (hb hby d10_12) rfl ?_
  refine Wk.istore X86 hx (Ls' := #[.val (.ref b), .val (.int (13 : Int32)), .val (.ref t), .val (.int (13 : Int32)), .val (.int (14 : Int32)), .val (.int (13 : Int32)), .val (.int cz13)]) (hb hby d10_13) rfl rfl ?_
  refine Wk.iload X86 hx (hb hby d10_15) rfl rfl ?_
  refine Wk.sipush X86 hx (v := (255 : Int32)) (hb hby d10_17) rfl rfl ?_
  by_cases hc91 : (255 : Int32) < cz13
  · skip
    refine Wk.icmpNo X86 hx (hb hby d10_20) rfl (tlt hc91).2.2.2 ?_
    refine Wk.iload X86 hx (hb hby d10_23) rfl rfl ?_
    exact Wk.retI' X86 hx hlk hr (hb hby d10_25) (by decide) (by decide) (Qc := Q_rm_cp5_14 Z b kc t kb cz0 cz1 cz2 cz3 cz4 cz5 cz6 cz7 cz8 cz9 cz10 cz11 cz12 cz13 h0) e86 ⟨(13 : Int32), rfl, N86, KK88, (Or.inr (Or.inr (Or.inr (Or.inr (Or.inr (Or.inr (Or.inr (Or.inr (Or.inr (Or.inr (Or.inr (Or.inr (Or.inr (⟨hc91, rfl⟩))))))))))))))⟩
  refine Wk.icmpYes X86 hx (hb hby d10_20) (by decide) (q := 26) rfl (flt hc91).2.2.2 ?_
  refine Wk.aloadN X86 hx (hb hby d10_26) rfl rfl rfl ?_
  refine Wk.iloadN X86 hx (hb hby d10_27) rfl rfl ?_
  refine Wk.iload X86 hx (hb hby d10_28) rfl rfl ?_
  refine Wk.i2b X86 hx (hb hby d10_30) rfl ?_
  intro c92 hc92
  refine Wk.bastore X86 hx hZ e86 V86 (by decide) (by decide) 13 rfl (Nat.le_of_ble_eq_true rfl) (w := (nar .byte c92)) rfl (hb hby d10_31) rfl ?_
  intro T93 h93 L93 M93 X93 e93 W93 A93
  have N93 := M93 _ _ N86 (Or.inl (List.mem_of_getElem? (i := 0) rfl))
  have O94 : Old Z Z.heap.size h93 := O87.wr W93 ht
  have V93 : Arv Z h93 t kb .byte (14 : Int32) [(.int (nar .byte c2)), (.int (nar .byte c8)), (.int (nar .byte c15)), (.int (nar .byte c22)), (.int (nar .byte c29)), (.int (nar .byte c36)), (.int (nar .byte c43)), (.int (nar .byte c50)), (.int (nar .byte c57)), (.int (nar .byte c64)), (.int (nar .byte c71)), (.int (nar .byte c78)), (.int (nar .byte c85)), (.int (nar .byte c92))] (.int (0 : Int32)) := A93
  refine Wk.iinc X93 hx (Ls' := #[.val (.ref b), .val (.int (14 : Int32)), .val (.ref t), .val (.int (13 : Int32)), .val (.int (14 : Int32)), .val (.int (13 : Int32)), .val (.int cz13)]) (hb hby d10_32) rfl rfl rfl ?_
  refine Wk.iinc X93 hx (Ls' := #[.val (.ref b), .val (.int (14 : Int32)), .val (.ref t), .val (.int (14 : Int32)), .val (.int (14 : Int32)), .val (.int (13 : Int32)), .val (.int cz13)]) (hb hby d10_35) rfl rfl rfl ?_
  refine Wk.iinc X93 hx (Ls' := #[.val (.ref b), .val (.int (14 : Int32)), .val (.ref t), .val (.int (14 : Int32)), .val (.int (14 : Int32)), .val (.int (14 : Int32)), .val (.int cz13)]) (hb hby d10_38) rfl rfl rfl ?_
  refine Wk.goto X93 hx (hb hby d10_41) (by decide) (q := 3) rfl ?_
  have KK95 : Keep h0 h93 [t] := (KK88.wr W93 (Or.inl (List.mem_of_getElem? (i := 0) rfl)))
  refine Wk.iload X93 hx (hb hby d10_3) rfl rfl ?_
  refine Wk.iload X93 hx (hb hby d10_5) rfl rfl ?_
  refine Wk.icmpYes X93 hx (hb hby d10_7) (by decide) (q := 44) rfl (flt (by decide : ¬ ((14 : Int32) < (14 : Int32)))).2.1 ?_
  exact False.elim (by rcases hNL with hh | hh | hh | hh | hh | hh | hh | hh | hh | hh | hh | hh | hh | hh <;> contradiction)
def Q_rm_cp3_14 (Z : State) (b : Addr) (kc : ClassId) (cz0 : Int32) (cz1 : Int32) (cz2 : Int32) (cz3 : Int32) (cz4 : Int32) (cz5 : Int32) (cz6 : Int32) (cz7 : Int32) (cz8 : Int32) (cz9 : Int32) (cz10 : Int32) (cz11 : Int32) (cz12 : Int32) (cz13 : Int32) (h0 : Heap) (v : Option Value) (h : Heap) (L : List Loc) : Prop := ∃ t : Addr, ∃ kb : ClassId, ∃ lb : List Value, v = some (.ref t) ∧ Fk h0.size [] L ∧ Keep h0 h [] ∧ h0.size ≤ t ∧ Arv Z h t kb .byte (28 : Int32) lb (.int (0 : Int32))
set_option maxRecDepth 65536 in
set_option maxHeartbeats 40000000 in
theorem rm_cp3_14 (l : Launch) (Z : State) (a0 : Array Value) (hw : ∀ d ∈ tables_1, d.before a0 Z = true) (ws : List Jvm.Cond) (b : Addr) (kc : ClassId) (cz0 : Int32) (cz1 : Int32) (cz2 : Int32) (cz3 : Int32) (cz4 : Int32) (cz5 : Int32) (cz6 : Int32) (cz7 : Int32) (cz8 : Int32) (cz9 : Int32) (cz10 : Int32) (cz11 : Int32) (cz12 : Int32) (cz13 : Int32) (h0 : Heap) (O0 : Old Z Z.heap.size h0) (sH : Sta Z Z.heap "java/lang/StringUTF16" "HI_BYTE_SHIFT" "I" (.int (0 : Int32))) (sL : Sta Z Z.heap "java/lang/StringUTF16" "LO_BYTE_SHIFT" "I" (.int (8 : Int32))) (sA : Sta Z Z.heap "java/lang/StringUTF16" "$assertionsDisabled" "Z" (.int (1 : Int32))) (hA : Arv Z h0 b kc .char (14 : Int32) [(.int cz0), (.int cz1), (.int cz2), (.int cz3), (.int cz4), (.int cz5), (.int cz6), (.int cz7), (.int cz8), (.int cz9), (.int cz10), (.int cz11), (.int cz12), (.int cz13)] (.int (0 : Int32))) (hccz0 : Chr cz0) (hccz1 : Chr cz1) (hccz2 : Chr cz2) (hccz3 : Chr cz3) (hccz4 : Chr cz4) (hccz5 : Chr cz5) (hccz6 : Chr cz6) (hccz7 : Chr cz7) (hccz8 : Chr cz8) (hccz9 : Chr cz9) (hccz10 : Chr cz10) (hccz11 : Chr cz11) (hccz12 : Chr cz12) (hccz13 : Chr cz13) (hNL : NL14 cz0 cz1 cz2 cz3 cz4 cz5 cz6 cz7 cz8 cz9 cz10 cz11 cz12 cz13) :
    Ctr l Z (⟨"java/lang/StringUTF16", "compress", "([CII)[B"⟩ : MethodName) jdk_52_method_16_code 6 (some (.array .byte)) ws ({ frames := 3, cells := 2, slots := 42, locals := 40 } : Room) #[(.ref b), (.int (0 : Int32)), (.int (14 : Int32))] h0 (Q_rm_cp3_14 Z b kc cz0 cz1 cz2 cz3 cz4 cz5 cz6 cz7 cz8 cz9 cz10 cz11 cz12 cz13 h0) := by
  refine Ctr.intro (Ls := fun _ => #[.val (.ref b), .val (.int (0 : Int32)), .val (.int (14 : Int32)), .unset, .unset, .unset]) (plainFor_of_name pn7) (fun m => by first | rfl | (simp [entryFrame, mkF, argsToLocals, Value.category]; done)) ?_
  intro p e s m below meth c s₁ hx hby hml hr hlk hZ hown hnm hs0 X0 e0
  have w : ∀ (k : Nat) (d : Jvm.Cond), tables_1[k]? = some d → d.before a0 Z = true := fun k d q => hw d (List.mem_of_getElem? q)
  have N0 := Fk.nil h0.size []
  refine Wk.iloadN X0 hx (hb hby d9_0) rfl rfl ?_
  refine Wk.newarray X0 hx hZ (w 3 _ rfl) e0 (hb hby d9_1) rfl (by decide) 14 (by decide) (by decide) (by decide) (by decide) ?_
  intro T1 h1 a1 kA1 g1 X1 e1 E1 A1
  have O2 : Old Z Z.heap.size h1 := O0.ext E1
  have V1 : Arv Z h1 a1 kA1 .byte (14 : Int32) [(.int (0 : Int32)), (.int (0 : Int32)), (.int (0 : Int32)), (.int (0 : Int32)), (.int (0 : Int32)), (.int (0 : Int32)), (.int (0 : Int32)), (.int (0 : Int32)), (.int (0 : Int32)), (.int (0 : Int32)), (.int (0 : Int32)), (.int (0 : Int32)), (.int (0 : Int32)), (.int (0 : Int32))] (.int (0 : Int32)) := A1.pad (pad_rep [] (.int (0 : Int32)) 14)
  refine Wk.astoreN X1 hx (Ls' := #[.val (.ref b), .val (.int (0 : Int32)), .val (.int (14 : Int32)), .val (.ref a1), .unset, .unset]) (hb hby d9_3) rfl rfl rfl ?_
  refine Wk.aloadN X1 hx (hb hby d9_4) rfl rfl rfl ?_
  refine Wk.iloadN X1 hx (hb hby d9_5) rfl rfl ?_
  refine Wk.aloadN X1 hx (hb hby d9_6) rfl rfl rfl ?_
  refine Wk.iconst X1 hx (v := (0 : Int32)) (hb hby d9_7) rfl rfl ?_
  refine Wk.iloadN X1 hx (hb hby d9_8) rfl rfl ?_
  have KK3 : Keep h0 h1 [] := ((Keep.refl h0 []).ext E1)
  have f4 := (hA.keep KK3 nin0)
  refine Wk.callS X1 hx hZ hown (w 51 _ rfl) (w 52 _ rfl) (w 49 _ rfl) (w 53 _ rfl) (by decide) (as' := [(.ref b), (.int (0 : Int32)), (.ref a1), (.int (0 : Int32)), (.int (14 : Int32))]) (backOf (W := 0) (rm_cp5_14 l Z a0 hw [] b kc a1 kA1 cz0 cz1 cz2 cz3 cz4 cz5 cz6 cz7 cz8 cz9 cz10 cz11 cz12 cz13 h1 O2 f4 V1 (Nat.le_trans (Nat.le_trans (Nat.le_trans (Nat.le_of_eq O0.1.symm) O0.2.1) (Keep.refl h0 []).1) (Nat.le_of_eq g1)) (Nat.ne_of_lt (Nat.lt_of_lt_of_le hA.lt (Nat.le_of_eq g1))) hNL) hZ (w 53 _ rfl) (w 49 _ rfl) (by decide) (by decide)) e1 (by rw [hml]; rfl) (rest := []) (lenOf pd11 rfl) rfl (Nat.le_of_eq rfl) (hb hby d9_9) rfl (by decide) (by decide) ?_
  intro T5 h5 v5 L5 X5 e5 hQ5
  obtain ⟨r5, rfl, Nq5, K5, q5_0⟩ := hQ5
  have N5 := Fk.app N0 Nq5 KK3.1 (allS (Or.inr (Nat.le_of_eq g1)) all0)
  have O6 : Old Z Z.heap.size h5 := O2.keep K5 (allS (Nat.le_trans (Nat.le_trans (Nat.le_trans (Nat.le_of_eq O0.1.symm) O0.2.1) (Keep.refl h0 []).1) (Nat.le_of_eq g1)) all0)
  show Wp p e below _ _ T5 (mkF m 12 #[.val (.ref b), .val (.int (0 : Int32)), .val (.int (14 : Int32)), .val (.ref a1), .unset, .unset] [(.int r5)])
  refine Wk.istore X5 hx (Ls' := #[.val (.ref b), .val (.int (0 : Int32)), .val (.int (14 : Int32)), .val (.ref a1), .val (.int r5), .unset]) (hb hby d9_12) rfl rfl ?_
  refine Wk.iload X5 hx (hb hby d9_14) rfl rfl ?_
  refine Wk.iloadN X5 hx (hb hby d9_16) rfl rfl ?_
  refine Wk.icmpNo X5 hx (hb hby d9_17) rfl (feq (fun hq => by rcases q5_0 with ⟨_, hr⟩ | ⟨_, hr⟩ | ⟨_, hr⟩ | ⟨_, hr⟩ | ⟨_, hr⟩ | ⟨_, hr⟩ | ⟨_, hr⟩ | ⟨_, hr⟩ | ⟨_, hr⟩ | ⟨_, hr⟩ | ⟨_, hr⟩ | ⟨_, hr⟩ | ⟨_, hr⟩ | ⟨_, hr⟩ <;> (rw [hr] at hq; exact absurd hq (by decide)))).1 ?_
  refine Wk.aloadN X5 hx (hb hby d9_20) rfl rfl rfl ?_
  refine Wk.iloadN X5 hx (hb hby d9_21) rfl rfl ?_
  refine Wk.iloadN X5 hx (hb hby d9_22) rfl rfl ?_
  have KK7 : Keep h0 h5 [] := (KK3.trans K5 (allS (Or.inr (Nat.le_of_eq g1)) all0))
  have f8 := (hA.keep KK7 nin0)
  refine Wk.callS X5 hx hZ hown (w 88 _ rfl) (w 89 _ rfl) (w 49 _ rfl) (w 90 _ rfl) (by decide) (as' := [(.ref b), (.int (0 : Int32)), (.int (14 : Int32))]) (backOf (W := 0) (rm_tob14 l Z a0 hw [] b kc cz0 cz1 cz2 cz3 cz4 cz5 cz6 cz7 cz8 cz9 cz10 cz11 cz12 cz13 h5 O6 sH sL sA f8) hZ (w 90 _ rfl) (w 49 _ rfl) (by decide) (by decide)) e5 (by rw [hml]; rfl) (rest := []) (lenOf pd12 rfl) rfl (Nat.le_of_eq rfl) (hb hby d9_23) rfl (by decide) (by decide) ?_
  intro T9 h9 v9 L9 X9 e9 hQ9
  obtain ⟨t9, kb9, rfl, Nq9, K9, q9_0, q9_1⟩ := hQ9
  have N9 := Fk.app N5 Nq9 KK7.1 all0
  have O10 : Old Z Z.heap.size h9 := O6.keep K9 all0
  show Wp p e below _ _ T9 (mkF m 26 #[.val (.ref b), .val (.int (0 : Int32)), .val (.int (14 : Int32)), .val (.ref a1), .val (.int r5), .unset] [(.ref t9)])
  refine Wk.astore X9 hx (Ls' := #[.val (.ref b), .val (.int (0 : Int32)), .val (.int (14 : Int32)), .val (.ref a1), .val (.int r5), .val (.ref t9)]) (hb hby d9_26) rfl rfl rfl ?_
  refine Wk.aload X9 hx (hb hby d9_28) rfl rfl rfl ?_
  refine Wk.iload X9 hx (hb hby d9_30) rfl rfl ?_
  obtain ⟨gz, gpl, hg0, hg1, hg2, hg3, hg4, hg5, hg6, hg7, hg8, hg9⟩ : ∃ (gz : Int32) (gpl : Nat), Chr gz ∧ (255 : Int32) < gz ∧ (r5 <<< ((1 : Int32) &&& 31)) < (28 : Int32) ∧ ((r5 <<< ((1 : Int32) &&& 31)) + (1 : Int32)) < (28 : Int32) ∧ ¬ (r5 <<< ((1 : Int32) &&& 31)) < 0 ∧ ¬ ((r5 <<< ((1 : Int32) &&& 31)) + (1 : Int32)) < 0 ∧ (r5 <<< ((1 : Int32) &&& 31)).toNatClampNeg = gpl ∧ ((r5 <<< ((1 : Int32) &&& 31)) + (1 : Int32)).toNatClampNeg = gpl + 1 ∧ ([(.int (own_b0 cz0)), (.int (own_b1 cz0)), (.int (own_b0 cz1)), (.int (own_b1 cz1)), (.int (own_b0 cz2)), (.int (own_b1 cz2)), (.int (own_b0 cz3)), (.int (own_b1 cz3)), (.int (own_b0 cz4)), (.int (own_b1 cz4)), (.int (own_b0 cz5)), (.int (own_b1 cz5)), (.int (own_b0 cz6)), (.int (own_b1 cz6)), (.int (own_b0 cz7)), (.int (own_b1 cz7)), (.int (own_b0 cz8)), (.int (own_b1 cz8)), (.int (own_b0 cz9)), (.int (own_b1 cz9)), (.int (own_b0 cz10)), (.int (own_b1 cz10)), (.int (own_b0 cz11)), (.int (own_b1 cz11)), (.int (own_b0 cz12)), (.int (own_b1 cz12)), (.int (own_b0 cz13)), (.int (own_b1 cz13))] : List Value).getD gpl (.int (0 : Int32)) = .int (own_b0 gz) ∧ ([(.int (own_b0 cz0)), (.int (own_b1 cz0)), (.int (own_b0 cz1)), (.int (own_b1 cz1)), (.int (own_b0 cz2)), (.int (own_b1 cz2)), (.int (own_b0 cz3)), (.int (own_b1 cz3)), (.int (own_b0 cz4)), (.int (own_b1 cz4)), (.int (own_b0 cz5)), (.int (own_b1 cz5)), (.int (own_b0 cz6)), (.int (own_b1 cz6)), (.int (own_b0 cz7)), (.int (own_b1 cz7)), (.int (own_b0 cz8)), (.int (own_b1 cz8)), (.int (own_b0 cz9)), (.int (own_b1 cz9)), (.int (own_b0 cz10)), (.int (own_b1 cz10)), (.int (own_b0 cz11)), (.int (own_b1 cz11)), (.int (own_b0 cz12)), (.int (own_b1 cz12)), (.int (own_b0 cz13)), (.int (own_b1 cz13))] : List Value).getD (gpl + 1) (.int (0 : Int32)) = .int (own_b1 gz) := by
    rcases q5_0 with ⟨hg, rfl⟩ | ⟨hg, rfl⟩ | ⟨hg, rfl⟩ | ⟨hg, rfl⟩ | ⟨hg, rfl⟩ | ⟨hg, rfl⟩ | ⟨hg, rfl⟩ | ⟨hg, rfl⟩ | ⟨hg, rfl⟩ | ⟨hg, rfl⟩ | ⟨hg, rfl⟩ | ⟨hg, rfl⟩ | ⟨hg, rfl⟩ | ⟨hg, rfl⟩
    · exact ⟨cz0, 0, hccz0, hg, by decide, by decide, by decide, by decide, by decide, by decide, rfl, rfl⟩
    · exact ⟨cz1, 2, hccz1, hg, by decide, by decide, by decide, by decide, by decide, by decide, rfl, rfl⟩
    · exact ⟨cz2, 4, hccz2, hg, by decide, by decide, by decide, by decide, by decide, by decide, rfl, rfl⟩
    · exact ⟨cz3, 6, hccz3, hg, by decide, by decide, by decide, by decide, by decide, by decide, rfl, rfl⟩
    · exact ⟨cz4, 8, hccz4, hg, by decide, by decide, by decide, by decide, by decide, by decide, rfl, rfl⟩
    · exact ⟨cz5, 10, hccz5, hg, by decide, by decide, by decide, by decide, by decide, by decide, rfl, rfl⟩
    · exact ⟨cz6, 12, hccz6, hg, by decide, by decide, by decide, by decide, by decide, by decide, rfl, rfl⟩
    · exact ⟨cz7, 14, hccz7, hg, by decide, by decide, by decide, by decide, by decide, by decide, rfl, rfl⟩
    · exact ⟨cz8, 16, hccz8, hg, by decide, by decide, by decide, by decide, by decide, by decide, rfl, rfl⟩
    · exact ⟨cz9, 18, hccz9, hg, by decide, by decide, by decide, by decide, by decide, by decide, rfl, rfl⟩
    · exact ⟨cz10, 20, hccz10, hg, by decide, by decide, by decide, by decide, by decide, by decide, rfl, rfl⟩
    · exact ⟨cz11, 22, hccz11, hg, by decide, by decide, by decide, by decide, by decide, by decide, rfl, rfl⟩
    · exact ⟨cz12, 24, hccz12, hg, by decide, by decide, by decide, by decide, by decide, by decide, rfl, rfl⟩
    · exact ⟨cz13, 26, hccz13, hg, by decide, by decide, by decide, by decide, by decide, by decide, rfl, rfl⟩
  refine Wk.callS X9 hx hZ hown (w 104 _ rfl) (w 105 _ rfl) (w 49 _ rfl) (w 106 _ rfl) (by decide) (as' := [(.ref t9), (.int r5)]) (backOf (W := 0) (rm_get l Z a0 hw [] t9 r5 gz kb9 (28 : Int32) _ gpl h9 O10 sH sL sA q9_1 (by first | assumption | rfl | decide | exact Nat.le_of_ble_eq_true rfl) (by first | assumption | rfl | decide | exact Nat.le_of_ble_eq_true rfl) (by first | assumption | rfl | decide | exact Nat.le_of_ble_eq_true rfl) (by first | assumption | rfl | decide | exact Nat.le_of_ble_eq_true rfl) (by first | assumption | rfl | decide | exact Nat.le_of_ble_eq_true rfl) (by first | assumption | rfl | decide | exact Nat.le_of_ble_eq_true rfl) (by first | assumption | rfl | decide | exact Nat.le_of_ble_eq_true rfl) (by first | assumption | rfl | decide | exact Nat.le_of_ble_eq_true rfl) hg0) hZ (w 106 _ rfl) (w 49 _ rfl) (by decide) (by decide)) e9 (by rw [hml]; rfl) (rest := []) (lenOf pd6 rfl) rfl (Nat.le_of_eq rfl) (hb hby d9_32) rfl (by decide) (by decide) ?_
  intro T11 h11 v11 L11 X11 e11 hQ11
  obtain ⟨rfl, Nq11, K11⟩ := hQ11
  have KK12 : Keep h0 h9 [] := (KK7.trans K9 all0)
  have N11 := Fk.app N9 Nq11 KK12.1 all0
  rw [K11] at e11
  show Wp p e below _ _ T11 (mkF m 35 #[.val (.ref b), .val (.int (0 : Int32)), .val (.int (14 : Int32)), .val (.ref a1), .val (.int r5), .val (.ref t9)] [(.int gz)])
  refine Wk.sipush X11 hx (v := (255 : Int32)) (hb hby d9_35) rfl rfl ?_
  refine Wk.icmpYes X11 hx (hb hby d9_38) (by decide) (q := 54) rfl (tlt hg1).2.2.1 ?_
  refine Wk.aload X11 hx (hb hby d9_54) rfl rfl rfl ?_
  exact Wk.retA' X11 hx hlk hr rfl rfl (hb hby d9_56) (by decide) (by decide) (Qc := Q_rm_cp3_14 Z b kc cz0 cz1 cz2 cz3 cz4 cz5 cz6 cz7 cz8 cz9 cz10 cz11 cz12 cz13 h0) e11 ⟨t9, kb9, [(.int (own_b0 cz0)), (.int (own_b1 cz0)), (.int (own_b0 cz1)), (.int (own_b1 cz1)), (.int (own_b0 cz2)), (.int (own_b1 cz2)), (.int (own_b0 cz3)), (.int (own_b1 cz3)), (.int (own_b0 cz4)), (.int (own_b1 cz4)), (.int (own_b0 cz5)), (.int (own_b1 cz5)), (.int (own_b0 cz6)), (.int (own_b1 cz6)), (.int (own_b0 cz7)), (.int (own_b1 cz7)), (.int (own_b0 cz8)), (.int (own_b1 cz8)), (.int (own_b0 cz9)), (.int (own_b1 cz9)), (.int (own_b0 cz10)), (.int (own_b1 cz10)), (.int (own_b0 cz11)), (.int (own_b1 cz11)), (.int (own_b0 cz12)), (.int (own_b1 cz12)), (.int (own_b0 cz13)), (.int (own_b1 cz13))], rfl, N11, KK12, (Nat.le_trans KK7.1 q9_0), q9_1⟩
def Q_rm_iv_14 (Z : State) (x : Addr) (b : Addr) (kc : ClassId) (G1 : Int32) (cz0 : Int32) (cz1 : Int32) (cz2 : Int32) (cz3 : Int32) (cz4 : Int32) (cz5 : Int32) (cz6 : Int32) (cz7 : Int32) (cz8 : Int32) (cz9 : Int32) (cz10 : Int32) (cz11 : Int32) (cz12 : Int32) (cz13 : Int32) (h0 : Heap) (v : Option Value) (h : Heap) (L : List Loc) : Prop := v = none ∧ Fk h0.size [x] L ∧ Keep h0 h [x] ∧ Exa Z h x "java/lang/String" ∧ Fld Z h x "java/lang/String" "coder" "B" (.int (1 : Int32))
set_option maxRecDepth 65536 in
set_option maxHeartbeats 40000000 in
theorem rm_iv_14 (l : Launch) (Z : State) (a0 : Array Value) (hw : ∀ d ∈ tables_1, d.before a0 Z = true) (ws : List Jvm.Cond) (x : Addr) (b : Addr) (kc : ClassId) (G1 : Int32) (cz0 : Int32) (cz1 : Int32) (cz2 : Int32) (cz3 : Int32) (cz4 : Int32) (cz5 : Int32) (cz6 : Int32) (cz7 : Int32) (cz8 : Int32) (cz9 : Int32) (cz10 : Int32) (cz11 : Int32) (cz12 : Int32) (cz13 : Int32) (h0 : Heap) (O0 : Old Z Z.heap.size h0) (sH : Sta Z Z.heap "java/lang/StringUTF16" "HI_BYTE_SHIFT" "I" (.int (0 : Int32))) (sL : Sta Z Z.heap "java/lang/StringUTF16" "LO_BYTE_SHIFT" "I" (.int (8 : Int32))) (sA : Sta Z Z.heap "java/lang/StringUTF16" "$assertionsDisabled" "Z" (.int (1 : Int32))) (SG1 : Sta Z Z.heap "java/lang/String" "COMPACT_STRINGS" "Z" (.int G1)) (nG1 : ¬ G1 = 0) (hE : Exa Z h0 x "java/lang/String") (hV : Fld Z h0 x "java/lang/String" "value" "[B" .null) (hC : Fld Z h0 x "java/lang/String" "coder" "B" (.int (0 : Int32))) (hxz : Z.heap.size ≤ x) (hA : Arv Z h0 b kc .char (14 : Int32) [(.int cz0), (.int cz1), (.int cz2), (.int cz3), (.int cz4), (.int cz5), (.int cz6), (.int cz7), (.int cz8), (.int cz9), (.int cz10), (.int cz11), (.int cz12), (.int cz13)] (.int (0 : Int32))) (hccz0 : Chr cz0) (hccz1 : Chr cz1) (hccz2 : Chr cz2) (hccz3 : Chr cz3) (hccz4 : Chr cz4) (hccz5 : Chr cz5) (hccz6 : Chr cz6) (hccz7 : Chr cz7) (hccz8 : Chr cz8) (hccz9 : Chr cz9) (hccz10 : Chr cz10) (hccz11 : Chr cz11) (hccz12 : Chr cz12) (hccz13 : Chr cz13) (hNL : NL14 cz0 cz1 cz2 cz3 cz4 cz5 cz6 cz7 cz8 cz9 cz10 cz11 cz12 cz13) :
    Ctr l Z (⟨"java/lang/String", "<init>", "([CIILjava/lang/Void;)V"⟩ : MethodName) jdk_42_method_149_code 6 none ws ({ frames := 4, cells := 2, slots := 42, locals := 57 } : Room) #[(.ref x), (.ref b), (.int (0 : Int32)), (.int (14 : Int32)), .null] h0 (Q_rm_iv_14 Z x b kc G1 cz0 cz1 cz2 cz3 cz4 cz5 cz6 cz7 cz8 cz9 cz10 cz11 cz12 cz13 h0) := by
  refine Ctr.intro (Ls := fun _ => #[.val (.ref x), .val (.ref b), .val (.int (0 : Int32)), .val (.int (14 : Int32)), .val .null, .unset]) (plainFor_of_name pn0) (fun m => by first | rfl | (simp [entryFrame, mkF, argsToLocals, Value.category]; done)) ?_
  intro p e s m below meth c s₁ hx hby hml hr hlk hZ hown hnm hs0 X0 e0
  have w : ∀ (k : Nat) (d : Jvm.Cond), tables_1[k]? = some d → d.before a0 Z = true := fun k d q => hw d (List.mem_of_getElem? q)
  have N0 := Fk.nil h0.size [x]
  refine Wk.aloadN X0 hx (hb hby d7_0) rfl rfl rfl ?_
  refine Wk.objinit X0 hx hZ hown (w 44 _ rfl) (w 45 _ rfl) (w 46 _ rfl) e0 (by rw [hml]; rfl) (hb hby d7_1) rfl (by decide) 0 (Nat.le_of_eq rfl) (by decide) ?_
  intro T1 X1 e1
  refine Wk.iloadN X1 hx (hb hby d7_4) rfl rfl ?_
  refine Wk.ifYes X1 hx (hb hby d7_5) (by decide) (q := 27) rfl ((if0 _ _).trans (feq (by decide : ¬ ((14 : Int32) = (0 : Int32)))).2) ?_
  refine Wk.getstatic X1 hx hZ hown (host := "") (Or.inl (w 21 _ rfl)) Via.refl e1 (SG1.ext O0.2) (hb hby d7_27) rfl ?_
  intro T2 X2 e2
  refine Wk.ifNo X2 hx (hb hby d7_30) rfl ((if0 _ _).trans (feq nG1).1) ?_
  refine Wk.aloadN X2 hx (hb hby d7_33) rfl rfl rfl ?_
  refine Wk.iloadN X2 hx (hb hby d7_34) rfl rfl ?_
  refine Wk.iloadN X2 hx (hb hby d7_35) rfl rfl ?_
  refine Wk.callS X2 hx hZ hown (w 47 _ rfl) (w 48 _ rfl) (w 49 _ rfl) (w 50 _ rfl) (by decide) (as' := [(.ref b), (.int (0 : Int32)), (.int (14 : Int32))]) (backOf (W := 0) (rm_cp3_14 l Z a0 hw [] b kc cz0 cz1 cz2 cz3 cz4 cz5 cz6 cz7 cz8 cz9 cz10 cz11 cz12 cz13 h0 O0 sH sL sA hA hccz0 hccz1 hccz2 hccz3 hccz4 hccz5 hccz6 hccz7 hccz8 hccz9 hccz10 hccz11 hccz12 hccz13 hNL) hZ (w 50 _ rfl) (w 49 _ rfl) (by decide) (by decide)) e2 (by rw [hml]; rfl) (rest := []) (lenOf pd12 rfl) rfl (Nat.le_of_eq rfl) (hb hby d7_36) rfl (by decide) (by decide) ?_
  intro T3 h3 v3 L3 X3 e3 hQ3
  obtain ⟨t3, kb3, lb3, rfl, Nq3, K3, q3_0, q3_1⟩ := hQ3
  have N3 := Fk.app N0 Nq3 (Nat.le_refl _) all0
  have O4 : Old Z Z.heap.size h3 := O0.keep K3 all0
  show Wp p e below _ _ T3 (mkF m 39 #[.val (.ref x), .val (.ref b), .val (.int (0 : Int32)), .val (.int (14 : Int32)), .val .null, .unset] [(.ref t3)])
  refine Wk.astore X3 hx (Ls' := #[.val (.ref x), .val (.ref b), .val (.int (0 : Int32)), .val (.int (14 : Int32)), .val .null, .val (.ref t3)]) (hb hby d7_39) rfl rfl rfl ?_
  refine Wk.aloadN X3 hx (hb hby d7_41) rfl rfl rfl ?_
  refine Wk.aload X3 hx (hb hby d7_42) rfl rfl rfl ?_
  refine Wk.iloadN X3 hx (hb hby d7_44) rfl rfl ?_
  refine Wk.callS X3 hx hZ hown (w 54 _ rfl) (w 55 _ rfl) (w 49 _ rfl) (w 56 _ rfl) (by decide) (as' := [(.ref t3), (.int (14 : Int32))]) (backOf (W := 1) (rm_cfa14 l Z a0 hw [] t3 kb3 lb3 h3 O4 q3_1) hZ (w 56 _ rfl) (w 49 _ rfl) (by decide) (by decide)) e3 (by rw [hml]; rfl) (rest := [(.ref x)]) (lenOf pd13 rfl) rfl (Nat.le_of_eq rfl) (hb hby d7_45) rfl (by decide) (by decide) ?_
  intro T5 h5 v5 L5 X5 e5 hQ5
  obtain ⟨rfl, Nq5, K5⟩ := hQ5
  have KK6 : Keep h0 h3 [] := ((Keep.refl h0 []).trans K3 all0)
  have N5 := Fk.app N3 Nq5 KK6.1 all0
  rw [K5] at e5
  show Wp p e below _ _ T5 (mkF m 48 #[.val (.ref x), .val (.ref b), .val (.int (0 : Int32)), .val (.int (14 : Int32)), .val .null, .val (.ref t3)] [(.int (1 : Int32)), (.ref x)])
  have f7 : Exa Z h3 x "java/lang/String" := (hE.keep KK6)
  have f8 : Fld Z h3 x "java/lang/String" "coder" "B" (.int (0 : Int32)) := (hC.keep KK6 nin0)
  have f10 : Fld Z h3 x "java/lang/String" "value" "[B" .null := (hV.keep KK6 nin0)
  refine Wk.putfieldN X5 hx hZ hown (w 22 _ rfl) Via.refl e5 (v' := (.int (1 : Int32))) f8 f7 (Or.inr ⟨(w 5 _ rfl), rfl, hnm⟩) (w 2 _ rfl) (ty := .byte) (by decide) rfl rfl (hb hby d7_48) rfl ?_
  intro T9 h9 L9 M9 X9 e9 W9 Fw9
  have N9 := M9 _ _ N5 (Or.inl (List.mem_of_getElem? (i := 0) rfl))
  have O11 : Old Z Z.heap.size h9 := O4.wr W9 hxz
  have f12 : Fld Z h9 x "java/lang/String" "value" "[B" .null := f10.other W9 (Or.inr (slot_ne (Or.inr (w 4 _ rfl)) (Or.inr (w 5 _ rfl)) (by decide) (t := (.array .byte)) (t' := .byte) (by decide) (by decide)))
  have E9' : Exa Z h9 x "java/lang/String" := f7.wr W9
  refine Wk.aloadN X9 hx (hb hby d7_51) rfl rfl rfl ?_
  refine Wk.aload X9 hx (hb hby d7_52) rfl rfl rfl ?_
  refine Wk.putfield X9 hx hZ hown (host := "") (Or.inl (w 23 _ rfl)) Via.refl e9 f12 E9' (Or.inr ⟨(w 4 _ rfl), rfl, hnm⟩) (w 2 _ rfl) (ty := (.array .byte)) (by decide) rfl rfl (hb hby d7_54) rfl ?_
  intro T13 h13 L13 M13 X13 e13 W13 Fw13
  have N13 := M13 _ _ N9 (Or.inl (List.mem_of_getElem? (i := 0) rfl))
  have O14 : Old Z Z.heap.size h13 := O11.wr W13 hxz
  have f15 : Fld Z h13 x "java/lang/String" "coder" "B" (.int (1 : Int32)) := Fw9.other W13 (Or.inr (slot_ne (Or.inr (w 5 _ rfl)) (Or.inr (w 4 _ rfl)) (by decide) (t := .byte) (t' := (.array .byte)) (by decide) (by decide)))
  have E13' : Exa Z h13 x "java/lang/String" := E9'.wr W13
  have KK16 : Keep h0 h13 [x] := ((((Keep.refl h0 [x]).trans K3 all0).wr W9 (Or.inl (List.mem_of_getElem? (i := 0) rfl))).wr W13 (Or.inl (List.mem_of_getElem? (i := 0) rfl)))
  exact Wk.ret0' X13 hx hlk hr (hb hby d7_57) (by decide) (by decide) (Qc := Q_rm_iv_14 Z x b kc G1 cz0 cz1 cz2 cz3 cz4 cz5 cz6 cz7 cz8 cz9 cz10 cz11 cz12 cz13 h0) e13 ⟨rfl, N13, KK16, E13', f15⟩
def Q_rm_ic_14 (Z : State) (x : Addr) (b : Addr) (kc : ClassId) (G1 : Int32) (cz0 : Int32) (cz1 : Int32) (cz2 : Int32) (cz3 : Int32) (cz4 : Int32) (cz5 : Int32) (cz6 : Int32) (cz7 : Int32) (cz8 : Int32) (cz9 : Int32) (cz10 : Int32) (cz11 : Int32) (cz12 : Int32) (cz13 : Int32) (h0 : Heap) (v : Option Value) (h : Heap) (L : List Loc) : Prop := v = none ∧ Fk h0.size [x] L ∧ Keep h0 h [x] ∧ Exa Z h x "java/lang/String" ∧ Fld Z h x "java/lang/String" "coder" "B" (.int (1 : Int32))
set_option maxRecDepth 65536 in
set_option maxHeartbeats 40000000 in
theorem rm_ic_14 (l : Launch) (Z : State) (a0 : Array Value) (hw : ∀ d ∈ tables_1, d.before a0 Z = true) (ws : List Jvm.Cond) (x : Addr) (b : Addr) (kc : ClassId) (G1 : Int32) (cz0 : Int32) (cz1 : Int32) (cz2 : Int32) (cz3 : Int32) (cz4 : Int32) (cz5 : Int32) (cz6 : Int32) (cz7 : Int32) (cz8 : Int32) (cz9 : Int32) (cz10 : Int32) (cz11 : Int32) (cz12 : Int32) (cz13 : Int32) (h0 : Heap) (O0 : Old Z Z.heap.size h0) (sH : Sta Z Z.heap "java/lang/StringUTF16" "HI_BYTE_SHIFT" "I" (.int (0 : Int32))) (sL : Sta Z Z.heap "java/lang/StringUTF16" "LO_BYTE_SHIFT" "I" (.int (8 : Int32))) (sA : Sta Z Z.heap "java/lang/StringUTF16" "$assertionsDisabled" "Z" (.int (1 : Int32))) (SG1 : Sta Z Z.heap "java/lang/String" "COMPACT_STRINGS" "Z" (.int G1)) (nG1 : ¬ G1 = 0) (hE : Exa Z h0 x "java/lang/String") (hV : Fld Z h0 x "java/lang/String" "value" "[B" .null) (hC : Fld Z h0 x "java/lang/String" "coder" "B" (.int (0 : Int32))) (hxz : Z.heap.size ≤ x) (hA : Arv Z h0 b kc .char (14 : Int32) [(.int cz0), (.int cz1), (.int cz2), (.int cz3), (.int cz4), (.int cz5), (.int cz6), (.int cz7), (.int cz8), (.int cz9), (.int cz10), (.int cz11), (.int cz12), (.int cz13)] (.int (0 : Int32))) (hccz0 : Chr cz0) (hccz1 : Chr cz1) (hccz2 : Chr cz2) (hccz3 : Chr cz3) (hccz4 : Chr cz4) (hccz5 : Chr cz5) (hccz6 : Chr cz6) (hccz7 : Chr cz7) (hccz8 : Chr cz8) (hccz9 : Chr cz9) (hccz10 : Chr cz10) (hccz11 : Chr cz11) (hccz12 : Chr cz12) (hccz13 : Chr cz13) (hNL : NL14 cz0 cz1 cz2 cz3 cz4 cz5 cz6 cz7 cz8 cz9 cz10 cz11 cz12 cz13) :
    Ctr l Z (⟨"java/lang/String", "<init>", "([C)V"⟩ : MethodName) jdk_42_method_3_code 2 none ws ({ frames := 5, cells := 2, slots := 42, locals := 74 } : Room) #[(.ref x), (.ref b)] h0 (Q_rm_ic_14 Z x b kc G1 cz0 cz1 cz2 cz3 cz4 cz5 cz6 cz7 cz8 cz9 cz10 cz11 cz12 cz13 h0) := by
  refine Ctr.intro (Ls := fun _ => #[.val (.ref x), .val (.ref b)]) (plainFor_of_name pn0) (fun m => by first | rfl | (simp [entryFrame, mkF, argsToLocals, Value.category]; done)) ?_
  intro p e s m below meth c s₁ hx hby hml hr hlk hZ hown hnm hs0 X0 e0
  have w : ∀ (k : Nat) (d : Jvm.Cond), tables_1[k]? = some d → d.before a0 Z = true := fun k d q => hw d (List.mem_of_getElem? q)
  have N0 := Fk.nil h0.size [x]
  refine Wk.aloadN X0 hx (hb hby d6_0) rfl rfl rfl ?_
  refine Wk.aloadN X0 hx (hb hby d6_1) rfl rfl rfl ?_
  refine Wk.iconst X0 hx (v := (0 : Int32)) (hb hby d6_2) rfl rfl ?_
  refine Wk.aloadN X0 hx (hb hby d6_3) rfl rfl rfl ?_
  refine Wk.arraylength X0 hx hZ e0 hA (hb hby d6_4) rfl ?_
  refine Wk.aconstNull X0 hx (hb hby d6_5) rfl ?_
  refine Wk.callI X0 hx hZ rfl hown (w 40 _ rfl) (w 41 _ rfl) (w 43 _ rfl) (by decide) (as' := [(.ref b), (.int (0 : Int32)), (.int (14 : Int32)), .null]) (backOf (W := 0) (rm_iv_14 l Z a0 hw [] x b kc G1 cz0 cz1 cz2 cz3 cz4 cz5 cz6 cz7 cz8 cz9 cz10 cz11 cz12 cz13 h0 O0 sH sL sA SG1 nG1 hE hV hC hxz hA hccz0 hccz1 hccz2 hccz3 hccz4 hccz5 hccz6 hccz7 hccz8 hccz9 hccz10 hccz11 hccz12 hccz13 hNL) hZ (w 43 _ rfl) (w 1 _ rfl) (by decide) (by decide)) e0 (by rw [hml]; rfl) (rest := []) (lenOf pd14 rfl) rfl (Nat.le_of_eq rfl) (hb hby d6_6) rfl (by decide) (by decide) ?_
  intro T1 h1 v1 L1 X1 e1 hQ1
  obtain ⟨rfl, Nq1, K1, q1_0, q1_1⟩ := hQ1
  have N1 := Fk.app N0 Nq1 (Nat.le_refl _) (allS (Or.inl (List.mem_of_getElem? (i := 0) rfl)) all0)
  have O2 : Old Z Z.heap.size h1 := O0.keep K1 (allS hxz all0)
  show Wp p e below _ _ T1 (mkF m 9 #[.val (.ref x), .val (.ref b)] [])
  have KK3 : Keep h0 h1 [x] := ((Keep.refl h0 [x]).trans K1 (allS (Or.inl (List.mem_of_getElem? (i := 0) rfl)) all0))
  exact Wk.ret0' X1 hx hlk hr (hb hby d6_9) (by decide) (by decide) (Qc := Q_rm_ic_14 Z x b kc G1 cz0 cz1 cz2 cz3 cz4 cz5 cz6 cz7 cz8 cz9 cz10 cz11 cz12 cz13 h0) e1 ⟨rfl, N1, KK3, q1_0, q1_1⟩
theorem d15_0 : decode jdk_43_method_13_code 0 = .ok (.aload_n 0, 1) := by decide +kernel
theorem d15_1 : decode jdk_43_method_13_code 1 = .ok (.arraylength, 1) := by decide +kernel
theorem d15_2 : decode jdk_43_method_13_code 2 = .ok (.aload_n 1, 1) := by decide +kernel
theorem d15_3 : decode jdk_43_method_13_code 3 = .ok (.arraylength, 1) := by decide +kernel
theorem d15_4 : decode jdk_43_method_13_code 4 = .ok (.if_icmp .ne 30, 3) := by decide +kernel
theorem d15_34 : decode jdk_43_method_13_code 34 = .ok (.iconst 0, 1) := by decide +kernel
theorem d15_35 : decode jdk_43_method_13_code 35 = .ok (.ireturn, 1) := by decide +kernel
def Q_rm_le12 (Z : State) (lt : Addr) (lk : ClassId) (t : Addr) (kb : ClassId) (us : List Value) (h0 : Heap) (v : Option Value) (h : Heap) (L : List Loc) : Prop := v = some (.int (0 : Int32)) ∧ Fk h0.size [] L ∧ h = h0
set_option maxRecDepth 65536 in
set_option maxHeartbeats 40000000 in
theorem rm_le12 (l : Launch) (Z : State) (a0 : Array Value) (hw : ∀ d ∈ tables_1, d.before a0 Z = true) (ws : List Jvm.Cond) (lt : Addr) (lk : ClassId) (t : Addr) (kb : ClassId) (us : List Value) (h0 : Heap) (O0 : Old Z Z.heap.size h0) (pt : Arv Z h0 lt lk .byte (13 : Int32) [(.int (102 : Int32)), (.int (105 : Int32)), (.int (120 : Int32)), (.int (101 : Int32)), (.int (100 : Int32)), (.int (45 : Int32)), (.int (112 : Int32)), (.int (108 : Int32)), (.int (117 : Int32)), (.int (115 : Int32)), (.int (45 : Int32)), (.int (105 : Int32)), (.int (105 : Int32))] (.int (0 : Int32))) (pu : Arv Z h0 t kb .byte (12 : Int32) us (.int (0 : Int32))) :
    Ctr l Z (⟨"java/lang/StringLatin1", "equals", "([B[B)Z"⟩ : MethodName) jdk_43_method_13_code 3 (some .boolean) ws ({ frames := 0, cells := 0, slots := 0, locals := 0 } : Room) #[(.ref lt), (.ref t)] h0 (Q_rm_le12 Z lt lk t kb us h0) := by
  refine Ctr.intro (Ls := fun _ => #[.val (.ref lt), .val (.ref t), .unset]) (plainFor_of_name pn3) (fun m => by first | rfl | (simp [entryFrame, mkF, argsToLocals, Value.category]; done)) ?_
  intro p e s m below meth c s₁ hx hby hml hr hlk hZ hown hnm hs0 X0 e0
  have w : ∀ (k : Nat) (d : Jvm.Cond), tables_1[k]? = some d → d.before a0 Z = true := fun k d q => hw d (List.mem_of_getElem? q)
  have N0 := Fk.nil h0.size []
  refine Wk.aloadN X0 hx (hb hby d15_0) rfl rfl rfl ?_
  refine Wk.arraylength X0 hx hZ e0 pt (hb hby d15_1) rfl ?_
  refine Wk.aloadN X0 hx (hb hby d15_2) rfl rfl rfl ?_
  refine Wk.arraylength X0 hx hZ e0 pu (hb hby d15_3) rfl ?_
  refine Wk.icmpYes X0 hx (hb hby d15_4) (by decide) (q := 34) rfl (feq (by decide : ¬ ((13 : Int32) = (12 : Int32)))).2 ?_
  refine Wk.iconst X0 hx (v := (0 : Int32)) (hb hby d15_34) rfl rfl ?_
  exact Wk.retZ' X0 hx hlk hr (by simp) (hb hby d15_35) (by decide) (by decide) (Qc := Q_rm_le12 Z lt lk t kb us h0) e0 ⟨rfl, N0, rfl⟩
def Q_rm_le14 (Z : State) (lt : Addr) (lk : ClassId) (t : Addr) (kb : ClassId) (us : List Value) (h0 : Heap) (v : Option Value) (h : Heap) (L : List Loc) : Prop := v = some (.int (0 : Int32)) ∧ Fk h0.size [] L ∧ h = h0
set_option maxRecDepth 65536 in
set_option maxHeartbeats 40000000 in
theorem rm_le14 (l : Launch) (Z : State) (a0 : Array Value) (hw : ∀ d ∈ tables_1, d.before a0 Z = true) (ws : List Jvm.Cond) (lt : Addr) (lk : ClassId) (t : Addr) (kb : ClassId) (us : List Value) (h0 : Heap) (O0 : Old Z Z.heap.size h0) (pt : Arv Z h0 lt lk .byte (13 : Int32) [(.int (102 : Int32)), (.int (105 : Int32)), (.int (120 : Int32)), (.int (101 : Int32)), (.int (100 : Int32)), (.int (45 : Int32)), (.int (112 : Int32)), (.int (108 : Int32)), (.int (117 : Int32)), (.int (115 : Int32)), (.int (45 : Int32)), (.int (105 : Int32)), (.int (105 : Int32))] (.int (0 : Int32))) (pu : Arv Z h0 t kb .byte (14 : Int32) us (.int (0 : Int32))) :
    Ctr l Z (⟨"java/lang/StringLatin1", "equals", "([B[B)Z"⟩ : MethodName) jdk_43_method_13_code 3 (some .boolean) ws ({ frames := 0, cells := 0, slots := 0, locals := 0 } : Room) #[(.ref lt), (.ref t)] h0 (Q_rm_le14 Z lt lk t kb us h0) := by
  refine Ctr.intro (Ls := fun _ => #[.val (.ref lt), .val (.ref t), .unset]) (plainFor_of_name pn3) (fun m => by first | rfl | (simp [entryFrame, mkF, argsToLocals, Value.category]; done)) ?_
  intro p e s m below meth c s₁ hx hby hml hr hlk hZ hown hnm hs0 X0 e0
  have w : ∀ (k : Nat) (d : Jvm.Cond), tables_1[k]? = some d → d.before a0 Z = true := fun k d q => hw d (List.mem_of_getElem? q)
  have N0 := Fk.nil h0.size []
  refine Wk.aloadN X0 hx (hb hby d15_0) rfl rfl rfl ?_
  refine Wk.arraylength X0 hx hZ e0 pt (hb hby d15_1) rfl ?_
  refine Wk.aloadN X0 hx (hb hby d15_2) rfl rfl rfl ?_
  refine Wk.arraylength X0 hx hZ e0 pu (hb hby d15_3) rfl ?_
  refine Wk.icmpYes X0 hx (hb hby d15_4) (by decide) (q := 34) rfl (feq (by decide : ¬ ((13 : Int32) = (14 : Int32)))).2 ?_
  refine Wk.iconst X0 hx (v := (0 : Int32)) (hb hby d15_34) rfl rfl ?_
  exact Wk.retZ' X0 hx hlk hr (by simp) (hb hby d15_35) (by decide) (by decide) (Qc := Q_rm_le14 Z lt lk t kb us h0) e0 ⟨rfl, N0, rfl⟩
theorem d15_7 : decode jdk_43_method_13_code 7 = .ok (.iconst 0, 1) := by decide +kernel
theorem d15_8 : decode jdk_43_method_13_code 8 = .ok (.istore_n 2, 1) := by decide +kernel
theorem d15_9 : decode jdk_43_method_13_code 9 = .ok (.iload_n 2, 1) := by decide +kernel
theorem d15_10 : decode jdk_43_method_13_code 10 = .ok (.aload_n 0, 1) := by decide +kernel
theorem d15_11 : decode jdk_43_method_13_code 11 = .ok (.arraylength, 1) := by decide +kernel
theorem d15_12 : decode jdk_43_method_13_code 12 = .ok (.if_icmp .ge 20, 3) := by decide +kernel
theorem d15_15 : decode jdk_43_method_13_code 15 = .ok (.aload_n 0, 1) := by decide +kernel
theorem d15_16 : decode jdk_43_method_13_code 16 = .ok (.iload_n 2, 1) := by decide +kernel
theorem d15_17 : decode jdk_43_method_13_code 17 = .ok (.baload, 1) := by decide +kernel
theorem d15_18 : decode jdk_43_method_13_code 18 = .ok (.aload_n 1, 1) := by decide +kernel
theorem d15_19 : decode jdk_43_method_13_code 19 = .ok (.iload_n 2, 1) := by decide +kernel
theorem d15_20 : decode jdk_43_method_13_code 20 = .ok (.baload, 1) := by decide +kernel
theorem d15_21 : decode jdk_43_method_13_code 21 = .ok (.if_icmp .eq 5, 3) := by decide +kernel
theorem d15_26 : decode jdk_43_method_13_code 26 = .ok (.iinc 2 1, 3) := by decide +kernel
theorem d15_29 : decode jdk_43_method_13_code 29 = .ok (.goto (-20), 3) := by decide +kernel
theorem d15_32 : decode jdk_43_method_13_code 32 = .ok (.iconst 1, 1) := by decide +kernel
theorem d15_33 : decode jdk_43_method_13_code 33 = .ok (.ireturn, 1) := by decide +kernel
def Q_rm_leE (Z : State) (lt : Addr) (lk : ClassId) (t : Addr) (kb : ClassId) (u0 : Int32) (u1 : Int32) (u2 : Int32) (u3 : Int32) (u4 : Int32) (u5 : Int32) (u6 : Int32) (u7 : Int32) (u8 : Int32) (u9 : Int32) (u10 : Int32) (u11 : Int32) (u12 : Int32) (h0 : Heap) (v : Option Value) (h : Heap) (L : List Loc) : Prop := v = some (.int (1 : Int32)) ∧ Fk h0.size [] L ∧ h = h0
set_option maxRecDepth 65536 in
set_option maxHeartbeats 40000000 in
theorem rm_leE (l : Launch) (Z : State) (a0 : Array Value) (hw : ∀ d ∈ tables_1, d.before a0 Z = true) (ws : List Jvm.Cond) (lt : Addr) (lk : ClassId) (t : Addr) (kb : ClassId) (u0 : Int32) (u1 : Int32) (u2 : Int32) (u3 : Int32) (u4 : Int32) (u5 : Int32) (u6 : Int32) (u7 : Int32) (u8 : Int32) (u9 : Int32) (u10 : Int32) (u11 : Int32) (u12 : Int32) (h0 : Heap) (O0 : Old Z Z.heap.size h0) (pt : Arv Z h0 lt lk .byte (13 : Int32) [(.int (102 : Int32)), (.int (105 : Int32)), (.int (120 : Int32)), (.int (101 : Int32)), (.int (100 : Int32)), (.int (45 : Int32)), (.int (112 : Int32)), (.int (108 : Int32)), (.int (117 : Int32)), (.int (115 : Int32)), (.int (45 : Int32)), (.int (105 : Int32)), (.int (105 : Int32))] (.int (0 : Int32))) (pu : Arv Z h0 t kb .byte (13 : Int32) [(.int u0), (.int u1), (.int u2), (.int u3), (.int u4), (.int u5), (.int u6), (.int u7), (.int u8), (.int u9), (.int u10), (.int u11), (.int u12)] (.int (0 : Int32))) (hu0 : u0 = (102 : Int32)) (hu1 : u1 = (105 : Int32)) (hu2 : u2 = (120 : Int32)) (hu3 : u3 = (101 : Int32)) (hu4 : u4 = (100 : Int32)) (hu5 : u5 = (45 : Int32)) (hu6 : u6 = (112 : Int32)) (hu7 : u7 = (108 : Int32)) (hu8 : u8 = (117 : Int32)) (hu9 : u9 = (115 : Int32)) (hu10 : u10 = (45 : Int32)) (hu11 : u11 = (105 : Int32)) (hu12 : u12 = (105 : Int32)) :
    Ctr l Z (⟨"java/lang/StringLatin1", "equals", "([B[B)Z"⟩ : MethodName) jdk_43_method_13_code 3 (some .boolean) ws ({ frames := 0, cells := 0, slots := 0, locals := 0 } : Room) #[(.ref lt), (.ref t)] h0 (Q_rm_leE Z lt lk t kb u0 u1 u2 u3 u4 u5 u6 u7 u8 u9 u10 u11 u12 h0) := by
  refine Ctr.intro (Ls := fun _ => #[.val (.ref lt), .val (.ref t), .unset]) (plainFor_of_name pn3) (fun m => by first | rfl | (simp [entryFrame, mkF, argsToLocals, Value.category]; done)) ?_
  intro p e s m below meth c s₁ hx hby hml hr hlk hZ hown hnm hs0 X0 e0
  have w : ∀ (k : Nat) (d : Jvm.Cond), tables_1[k]? = some d → d.before a0 Z = true := fun k d q => hw d (List.mem_of_getElem? q)
  have N0 := Fk.nil h0.size []
  refine Wk.aloadN X0 hx (hb hby d15_0) rfl rfl rfl ?_
  refine Wk.arraylength X0 hx hZ e0 pt (hb hby d15_1) rfl ?_
  refine Wk.aloadN X0 hx (hb hby d15_2) rfl rfl rfl ?_
  refine Wk.arraylength X0 hx hZ e0 pu (hb hby d15_3) rfl ?_
  refine Wk.icmpNo X0 hx (hb hby d15_4) rfl (teq (by decide : (13 : Int32) = (13 : Int32))).2 ?_
  refine Wk.iconst X0 hx (v := (0 : Int32)) (hb hby d15_7) rfl rfl ?_
  refine Wk.istoreN X0 hx (Ls' := #[.val (.ref lt), .val (.ref t), .val (.int (0 : Int32))]) (hb hby d15_8) rfl rfl ?_
  refine Wk.iloadN X0 hx (hb hby d15_9) rfl rfl ?_
  refine Wk.aloadN X0 hx (hb hby d15_10) rfl rfl rfl ?_
  refine Wk.arraylength X0 hx hZ e0 pt (hb hby d15_11) rfl ?_
  refine Wk.icmpNo X0 hx (hb hby d15_12) rfl (tlt (by decide : (0 : Int32) < (13 : Int32))).2.1 ?_
  refine Wk.aloadN X0 hx (hb hby d15_15) rfl rfl rfl ?_
  refine Wk.iloadN X0 hx (hb hby d15_16) rfl rfl ?_
  refine Wk.baload X0 hx hZ e0 pt (by decide) (by decide) (v := (102 : Int32)) rfl (hb hby d15_17) rfl ?_
  refine Wk.aloadN X0 hx (hb hby d15_18) rfl rfl rfl ?_
  refine Wk.iloadN X0 hx (hb hby d15_19) rfl rfl ?_
  refine Wk.baload X0 hx hZ e0 pu (by decide) (by decide) (v := u0) rfl (hb hby d15_20) rfl ?_
  refine Wk.icmpYes X0 hx (hb hby d15_21) (by decide) (q := 26) rfl (teq hu0.symm).1 ?_
  refine Wk.iinc X0 hx (Ls' := #[.val (.ref lt), .val (.ref t), .val (.int (1 : Int32))]) (hb hby d15_26) rfl rfl rfl ?_
  refine Wk.goto X0 hx (hb hby d15_29) (by decide) (q := 9) rfl ?_
  refine Wk.iloadN X0 hx (hb hby d15_9) rfl rfl ?_
  refine Wk.aloadN X0 hx (hb hby d15_10) rfl rfl rfl ?_
  refine Wk.arraylength X0 hx hZ e0 pt (hb hby d15_11) rfl ?_
  refine Wk.icmpNo X0 hx (hb hby d15_12) rfl (tlt (by decide : (1 : Int32) < (13 : Int32))).2.1 ?_
  refine Wk.aloadN X0 hx (hb hby d15_15) rfl rfl rfl ?_
  refine Wk.iloadN X0 hx (hb hby d15_16) rfl rfl ?_
  refine Wk.baload X0 hx hZ e0 pt (by decide) (by decide) (v := (105 : Int32)) rfl (hb hby d15_17) rfl ?_
  refine Wk.aloadN X0 hx (hb hby d15_18) rfl rfl rfl ?_
  refine Wk.iloadN X0 hx (hb hby d15_19) rfl rfl ?_
  refine Wk.baload X0 hx hZ e0 pu (by decide) (by decide) (v := u1) rfl (hb hby d15_20) rfl ?_
  refine Wk.icmpYes X0 hx (hb hby d15_21) (by decide) (q := 26) rfl (teq hu1.symm).1 ?_
  refine Wk.iinc X0 hx (Ls' := #[.val (.ref lt), .val (.ref t), .val (.int (2 : Int32))]) (hb hby d15_26) rfl rfl rfl ?_
  refine Wk.goto X0 hx (hb hby d15_29) (by decide) (q := 9) rfl ?_
  refine Wk.iloadN X0 hx (hb hby d15_9) rfl rfl ?_
  refine Wk.aloadN X0 hx (hb hby d15_10) rfl rfl rfl ?_
  refine Wk.arraylength X0 hx hZ e0 pt (hb hby d15_11) rfl ?_
  refine Wk.icmpNo X0 hx (hb hby d15_12) rfl (tlt (by decide : (2 : Int32) < (13 : Int32))).2.1 ?_
  refine Wk.aloadN X0 hx (hb hby d15_15) rfl rfl rfl ?_
  refine Wk.iloadN X0 hx (hb hby d15_16) rfl rfl ?_
  refine Wk.baload X0 hx hZ e0 pt (by decide) (by decide) (v := (120 : Int32)) rfl (hb hby d15_17) rfl ?_
  refine Wk.aloadN X0 hx (hb hby d15_18) rfl rfl rfl ?_
  refine Wk.iloadN X0 hx (hb hby d15_19) rfl rfl ?_
  refine Wk.baload X0 hx hZ e0 pu (by decide) (by decide) (v := u2) rfl (hb hby d15_20) rfl ?_
  refine Wk.icmpYes X0 hx (hb hby d15_21) (by decide) (q := 26) rfl (teq hu2.symm).1 ?_
  refine Wk.iinc X0 hx (Ls' := #[.val (.ref lt), .val (.ref t), .val (.int (3 : Int32))]) (hb hby d15_26) rfl rfl rfl ?_
  refine Wk.goto X0 hx (hb hby d15_29) (by decide) (q := 9) rfl ?_
  refine Wk.iloadN X0 hx (hb hby d15_9) rfl rfl ?_
  refine Wk.aloadN X0 hx (hb hby d15_10) rfl rfl rfl ?_
  refine Wk.arraylength X0 hx hZ e0 pt (hb hby d15_11) rfl ?_
  refine Wk.icmpNo X0 hx (hb hby d15_12) rfl (tlt (by decide : (3 : Int32) < (13 : Int32))).2.1 ?_
  refine Wk.aloadN X0 hx (hb hby d15_15) rfl rfl rfl ?_
  refine Wk.iloadN X0 hx (hb hby d15_16) rfl rfl ?_
  refine Wk.baload X0 hx hZ e0 pt (by decide) (by decide) (v := (101 : Int32)) rfl (hb hby d15_17) rfl ?_
  refine Wk.aloadN X0 hx (hb hby d15_18) rfl rfl rfl ?_
  refine Wk.iloadN X0 hx (hb hby d15_19) rfl rfl ?_
  refine Wk.baload X0 hx hZ e0 pu (by decide) (by decide) (v := u3) rfl (hb hby d15_20) rfl ?_
  refine Wk.icmpYes X0 hx (hb hby d15_21) (by decide) (q := 26) rfl (teq hu3.symm).1 ?_
  refine Wk.iinc X0 hx (Ls' := #[.val (.ref lt), .val (.ref t), .val (.int (4 : Int32))]) (hb hby d15_26) rfl rfl rfl ?_
  refine Wk.goto X0 hx (hb hby d15_29) (by decide) (q := 9) rfl ?_
  refine Wk.iloadN X0 hx (hb hby d15_9) rfl rfl ?_
  refine Wk.aloadN X0 hx (hb hby d15_10) rfl rfl rfl ?_
  refine Wk.arraylength X0 hx hZ e0 pt (hb hby d15_11) rfl ?_
  refine Wk.icmpNo X0 hx (hb hby d15_12) rfl (tlt (by decide : (4 : Int32) < (13 : Int32))).2.1 ?_
  refine Wk.aloadN X0 hx (hb hby d15_15) rfl rfl rfl ?_
  refine Wk.iloadN X0 hx (hb hby d15_16) rfl rfl ?_
  refine Wk.baload X0 hx hZ e0 pt (by decide) (by decide) (v := (100 : Int32)) rfl (hb hby d15_17) rfl ?_
  refine Wk.aloadN X0 hx (hb hby d15_18) rfl rfl rfl ?_
  refine Wk.iloadN X0 hx (hb hby d15_19) rfl rfl ?_
  refine Wk.baload X0 hx hZ e0 pu (by decide) (by decide) (v := u4) rfl (hb hby d15_20) rfl ?_
  refine Wk.icmpYes X0 hx (hb hby d15_21) (by decide) (q := 26) rfl (teq hu4.symm).1 ?_
  refine Wk.iinc X0 hx (Ls' := #[.val (.ref lt), .val (.ref t), .val (.int (5 : Int32))]) (hb hby d15_26) rfl rfl rfl ?_
  refine Wk.goto X0 hx (hb hby d15_29) (by decide) (q := 9) rfl ?_
  refine Wk.iloadN X0 hx (hb hby d15_9) rfl rfl ?_
  refine Wk.aloadN X0 hx (hb hby d15_10) rfl rfl rfl ?_
  refine Wk.arraylength X0 hx hZ e0 pt (hb hby d15_11) rfl ?_
  refine Wk.icmpNo X0 hx (hb hby d15_12) rfl (tlt (by decide : (5 : Int32) < (13 : Int32))).2.1 ?_
  refine Wk.aloadN X0 hx (hb hby d15_15) rfl rfl rfl ?_
  refine Wk.iloadN X0 hx (hb hby d15_16) rfl rfl ?_
  refine Wk.baload X0 hx hZ e0 pt (by decide) (by decide) (v := (45 : Int32)) rfl (hb hby d15_17) rfl ?_
  refine Wk.aloadN X0 hx (hb hby d15_18) rfl rfl rfl ?_
  refine Wk.iloadN X0 hx (hb hby d15_19) rfl rfl ?_
  refine Wk.baload X0 hx hZ e0 pu (by decide) (by decide) (v := u5) rfl (hb hby d15_20) rfl ?_
  refine Wk.icmpYes X0 hx (hb hby d15_21) (by decide) (q := 26) rfl (teq hu5.symm).1 ?_
  refine Wk.iinc X0 hx (Ls' := #[.val (.ref lt), .val (.ref t), .val (.int (6 : Int32))]) (hb hby d15_26) rfl rfl rfl ?_
  refine Wk.goto X0 hx (hb hby d15_29) (by decide) (q := 9) rfl ?_
  refine Wk.iloadN X0 hx (hb hby d15_9) rfl rfl ?_
  refine Wk.aloadN X0 hx (hb hby d15_10) rfl rfl rfl ?_
  refine Wk.arraylength X0 hx hZ e0 pt (hb hby d15_11) rfl ?_
  refine Wk.icmpNo X0 hx (hb hby d15_12) rfl (tlt (by decide : (6 : Int32) < (13 : Int32))).2.1 ?_
  refine Wk.aloadN X0 hx (hb hby d15_15) rfl rfl rfl ?_
  refine Wk.iloadN X0 hx (hb hby d15_16) rfl rfl ?_
  refine Wk.baload X0 hx hZ e0 pt (by decide) (by decide) (v := (112 : Int32)) rfl (hb hby d15_17) rfl ?_
  refine Wk.aloadN X0 hx (hb hby d15_18) rfl rfl rfl ?_
  refine Wk.iloadN X0 hx (hb hby d15_19) rfl rfl ?_
  refine Wk.baload X0 hx hZ e0 pu (by decide) (by decide) (v := u6) rfl (hb hby d15_20) rfl ?_
  refine Wk.icmpYes X0 hx (hb hby d15_21) (by decide) (q := 26) rfl (teq hu6.symm).1 ?_
  refine Wk.iinc X0 hx (Ls' := #[.val (.ref lt), .val (.ref t), .val (.int (7 : Int32))]) (hb hby d15_26) rfl rfl rfl ?_
  refine Wk.goto X0 hx (hb hby d15_29) (by decide) (q := 9) rfl ?_
  refine Wk.iloadN X0 hx (hb hby d15_9) rfl rfl ?_
  refine Wk.aloadN X0 hx (hb hby d15_10) rfl rfl rfl ?_
  refine Wk.arraylength X0 hx hZ e0 pt (hb hby d15_11) rfl ?_
  refine Wk.icmpNo X0 hx (hb hby d15_12) rfl (tlt (by decide : (7 : Int32) < (13 : Int32))).2.1 ?_
  refine Wk.aloadN X0 hx (hb hby d15_15) rfl rfl rfl ?_
  refine Wk.iloadN X0 hx (hb hby d15_16) rfl rfl ?_
  refine Wk.baload X0 hx hZ e0 pt (by decide) (by decide) (v := (108 : Int32)) rfl (hb hby d15_17) rfl ?_
  refine Wk.aloadN X0 hx (hb hby d15_18) rfl rfl rfl ?_
  refine Wk.iloadN X0 hx (hb hby d15_19) rfl rfl ?_
  refine Wk.baload X0 hx hZ e0 pu (by decide) (by decide) (v := u7) rfl (hb hby d15_20) rfl ?_
  refine Wk.icmpYes X0 hx (hb hby d15_21) (by decide) (q := 26) rfl (teq hu7.symm).1 ?_
  refine Wk.iinc X0 hx (Ls' := #[.val (.ref lt), .val (.ref t), .val (.int (8 : Int32))]) (hb hby d15_26) rfl rfl rfl ?_
  refine Wk.goto X0 hx (hb hby d15_29) (by decide) (q := 9) rfl ?_
  refine Wk.iloadN X0 hx (hb hby d15_9) rfl rfl ?_
  refine Wk.aloadN X0 hx (hb hby d15_10) rfl rfl rfl ?_
  refine Wk.arraylength X0 hx hZ e0 pt (hb hby d15_11) rfl ?_
  refine Wk.icmpNo X0 hx (hb hby d15_12) rfl (tlt (by decide : (8 : Int32) < (13 : Int32))).2.1 ?_
  refine Wk.aloadN X0 hx (hb hby d15_15) rfl rfl rfl ?_
  refine Wk.iloadN X0 hx (hb hby d15_16) rfl rfl ?_
  refine Wk.baload X0 hx hZ e0 pt (by decide) (by decide) (v := (117 : Int32)) rfl (hb hby d15_17) rfl ?_
  refine Wk.aloadN X0 hx (hb hby d15_18) rfl rfl rfl ?_
  refine Wk.iloadN X0 hx (hb hby d15_19) rfl rfl ?_
  refine Wk.baload X0 hx hZ e0 pu (by decide) (by decide) (v := u8) rfl (hb hby d15_20) rfl ?_
  refine Wk.icmpYes X0 hx (hb hby d15_21) (by decide) (q := 26) rfl (teq hu8.symm).1 ?_
  refine Wk.iinc X0 hx (Ls' := #[.val (.ref lt), .val (.ref t), .val (.int (9 : Int32))]) (hb hby d15_26) rfl rfl rfl ?_
  refine Wk.goto X0 hx (hb hby d15_29) (by decide) (q := 9) rfl ?_
  refine Wk.iloadN X0 hx (hb hby d15_9) rfl rfl ?_
  refine Wk.aloadN X0 hx (hb hby d15_10) rfl rfl rfl ?_
  refine Wk.arraylength X0 hx hZ e0 pt (hb hby d15_11) rfl ?_
  refine Wk.icmpNo X0 hx (hb hby d15_12) rfl (tlt (by decide : (9 : Int32) < (13 : Int32))).2.1 ?_
  refine Wk.aloadN X0 hx (hb hby d15_15) rfl rfl rfl ?_
  refine Wk.iloadN X0 hx (hb hby d15_16) rfl rfl ?_
  refine Wk.baload X0 hx hZ e0 pt (by decide) (by decide) (v := (115 : Int32)) rfl (hb hby d15_17) rfl ?_
  refine Wk.aloadN X0 hx (hb hby d15_18) rfl rfl rfl ?_
  refine Wk.iloadN X0 hx (hb hby d15_19) rfl rfl ?_
  refine Wk.baload X0 hx hZ e0 pu (by decide) (by decide) (v := u9) rfl (hb hby d15_20) rfl ?_
  refine Wk.icmpYes X0 hx (hb hby d15_21) (by decide) (q := 26) rfl (teq hu9.symm).1 ?_
  refine Wk.iinc X0 hx (Ls' := #[.val (.ref lt), .val (.ref t), .val (.int (10 : Int32))]) (hb hby d15_26) rfl rfl rfl ?_
  refine Wk.goto X0 hx (hb hby d15_29) (by decide) (q := 9) rfl ?_
  refine Wk.iloadN X0 hx (hb hby d15_9) rfl rfl ?_
  refine Wk.aloadN X0 hx (hb hby d15_10) rfl rfl rfl ?_
  refine Wk.arraylength X0 hx hZ e0 pt (hb hby d15_11) rfl ?_
  refine Wk.icmpNo X0 hx (hb hby d15_12) rfl (tlt (by decide : (10 : Int32) < (13 : Int32))).2.1 ?_
  refine Wk.aloadN X0 hx (hb hby d15_15) rfl rfl rfl ?_
  refine Wk.iloadN X0 hx (hb hby d15_16) rfl rfl ?_
  refine Wk.baload X0 hx hZ e0 pt (by decide) (by decide) (v := (45 : Int32)) rfl (hb hby d15_17) rfl ?_
  refine Wk.aloadN X0 hx (hb hby d15_18) rfl rfl rfl ?_
  refine Wk.iloadN X0 hx (hb hby d15_19) rfl rfl ?_
  refine Wk.baload X0 hx hZ e0 pu (by decide) (by decide) (v := u10) rfl (hb hby d15_20) rfl ?_
  refine Wk.icmpYes X0 hx (hb hby d15_21) (by decide) (q := 26) rfl (teq hu10.symm).1 ?_
  refine Wk.iinc X0 hx (Ls' := #[.val (.ref lt), .val (.ref t), .val (.int (11 : Int32))]) (hb hby d15_26) rfl rfl rfl ?_
  refine Wk.goto X0 hx (hb hby d15_29) (by decide) (q := 9) rfl ?_
  refine Wk.iloadN X0 hx (hb hby d15_9) rfl rfl ?_
  refine Wk.aloadN X0 hx (hb hby d15_10) rfl rfl rfl ?_
  refine Wk.arraylength X0 hx hZ e0 pt (hb hby d15_11) rfl ?_
  refine Wk.icmpNo X0 hx (hb hby d15_12) rfl (tlt (by decide : (11 : Int32) < (13 : Int32))).2.1 ?_
  refine Wk.aloadN X0 hx (hb hby d15_15) rfl rfl rfl ?_
  refine Wk.iloadN X0 hx (hb hby d15_16) rfl rfl ?_
  refine Wk.baload X0 hx hZ e0 pt (by decide) (by decide) (v := (105 : Int32)) rfl (hb hby d15_17) rfl ?_
  refine Wk.aloadN X0 hx (hb hby d15_18) rfl rfl rfl ?_
  refine Wk.iloadN X0 hx (hb hby d15_19) rfl rfl ?_
  refine Wk.baload X0 hx hZ e0 pu (by decide) (by decide) (v := u11) rfl (hb hby d15_20) rfl ?_
  refine Wk.icmpYes X0 hx (hb hby d15_21) (by decide) (q := 26) rfl (teq hu11.symm).1 ?_
  refine Wk.iinc X0 hx (Ls' := #[.val (.ref lt), .val (.ref t), .val (.int (12 : Int32))]) (hb hby d15_26) rfl rfl rfl ?_
  refine Wk.goto X0 hx (hb hby d15_29) (by decide) (q := 9) rfl ?_
  refine Wk.iloadN X0 hx (hb hby d15_9) rfl rfl ?_
  refine Wk.aloadN X0 hx (hb hby d15_10) rfl rfl rfl ?_
  refine Wk.arraylength X0 hx hZ e0 pt (hb hby d15_11) rfl ?_
  refine Wk.icmpNo X0 hx (hb hby d15_12) rfl (tlt (by decide : (12 : Int32) < (13 : Int32))).2.1 ?_
  refine Wk.aloadN X0 hx (hb hby d15_15) rfl rfl rfl ?_
  refine Wk.iloadN X0 hx (hb hby d15_16) rfl rfl ?_
  refine Wk.baload X0 hx hZ e0 pt (by decide) (by decide) (v := (105 : Int32)) rfl (hb hby d15_17) rfl ?_
  refine Wk.aloadN X0 hx (hb hby d15_18) rfl rfl rfl ?_
  refine Wk.iloadN X0 hx (hb hby d15_19) rfl rfl ?_
  refine Wk.baload X0 hx hZ e0 pu (by decide) (by decide) (v := u12) rfl (hb hby d15_20) rfl ?_
  refine Wk.icmpYes X0 hx (hb hby d15_21) (by decide) (q := 26) rfl (teq hu12.symm).1 ?_
  refine Wk.iinc X0 hx (Ls' := #[.val (.ref lt), .val (.ref t), .val (.int (13 : Int32))]) (hb hby d15_26) rfl rfl rfl ?_
  refine Wk.goto X0 hx (hb hby d15_29) (by decide) (q := 9) rfl ?_
  refine Wk.iloadN X0 hx (hb hby d15_9) rfl rfl ?_
  refine Wk.aloadN X0 hx (hb hby d15_10) rfl rfl rfl ?_
  refine Wk.arraylength X0 hx hZ e0 pt (hb hby d15_11) rfl ?_
  refine Wk.icmpYes X0 hx (hb hby d15_12) (by decide) (q := 32) rfl (flt (by decide : ¬ ((13 : Int32) < (13 : Int32)))).2.1 ?_
  refine Wk.iconst X0 hx (v := (1 : Int32)) (hb hby d15_32) rfl rfl ?_
  exact Wk.retZ' X0 hx hlk hr (by simp) (hb hby d15_33) (by decide) (by decide) (Qc := Q_rm_leE Z lt lk t kb u0 u1 u2 u3 u4 u5 u6 u7 u8 u9 u10 u11 u12 h0) e0 ⟨rfl, N0, rfl⟩
theorem d15_24 : decode jdk_43_method_13_code 24 = .ok (.iconst 0, 1) := by decide +kernel
theorem d15_25 : decode jdk_43_method_13_code 25 = .ok (.ireturn, 1) := by decide +kernel
def Q_rm_leD (Z : State) (lt : Addr) (lk : ClassId) (t : Addr) (kb : ClassId) (u0 : Int32) (u1 : Int32) (u2 : Int32) (u3 : Int32) (u4 : Int32) (u5 : Int32) (u6 : Int32) (u7 : Int32) (u8 : Int32) (u9 : Int32) (u10 : Int32) (u11 : Int32) (u12 : Int32) (h0 : Heap) (v : Option Value) (h : Heap) (L : List Loc) : Prop := v = some (.int (0 : Int32)) ∧ Fk h0.size [] L ∧ h = h0
set_option maxRecDepth 65536 in
set_option maxHeartbeats 40000000 in
theorem rm_leD (l : Launch) (Z : State) (a0 : Array Value) (hw : ∀ d ∈ tables_1, d.before a0 Z = true) (ws : List Jvm.Cond) (lt : Addr) (lk : ClassId) (t : Addr) (kb : ClassId) (u0 : Int32) (u1 : Int32) (u2 : Int32) (u3 : Int32) (u4 : Int32) (u5 : Int32) (u6 : Int32) (u7 : Int32) (u8 : Int32) (u9 : Int32) (u10 : Int32) (u11 : Int32) (u12 : Int32) (h0 : Heap) (O0 : Old Z Z.heap.size h0) (pt : Arv Z h0 lt lk .byte (13 : Int32) [(.int (102 : Int32)), (.int (105 : Int32)), (.int (120 : Int32)), (.int (101 : Int32)), (.int (100 : Int32)), (.int (45 : Int32)), (.int (112 : Int32)), (.int (108 : Int32)), (.int (117 : Int32)), (.int (115 : Int32)), (.int (45 : Int32)), (.int (105 : Int32)), (.int (105 : Int32))] (.int (0 : Int32))) (pu : Arv Z h0 t kb .byte (13 : Int32) [(.int u0), (.int u1), (.int u2), (.int u3), (.int u4), (.int u5), (.int u6), (.int u7), (.int u8), (.int u9), (.int u10), (.int u11), (.int u12)] (.int (0 : Int32))) (hnq : ¬ EqL u0 u1 u2 u3 u4 u5 u6 u7 u8 u9 u10 u11 u12) :
    Ctr l Z (⟨"java/lang/StringLatin1", "equals", "([B[B)Z"⟩ : MethodName) jdk_43_method_13_code 3 (some .boolean) ws ({ frames := 0, cells := 0, slots := 0, locals := 0 } : Room) #[(.ref lt), (.ref t)] h0 (Q_rm_leD Z lt lk t kb u0 u1 u2 u3 u4 u5 u6 u7 u8 u9 u10 u11 u12 h0) := by
  refine Ctr.intro (Ls := fun _ => #[.val (.ref lt), .val (.ref t), .unset]) (plainFor_of_name pn3) (fun m => by first | rfl | (simp [entryFrame, mkF, argsToLocals, Value.category]; done)) ?_
  intro p e s m below meth c s₁ hx hby hml hr hlk hZ hown hnm hs0 X0 e0
  have w : ∀ (k : Nat) (d : Jvm.Cond), tables_1[k]? = some d → d.before a0 Z = true := fun k d q => hw d (List.mem_of_getElem? q)
  have N0 := Fk.nil h0.size []
  refine Wk.aloadN X0 hx (hb hby d15_0) rfl rfl rfl ?_
  refine Wk.arraylength X0 hx hZ e0 pt (hb hby d15_1) rfl ?_
  refine Wk.aloadN X0 hx (hb hby d15_2) rfl rfl rfl ?_
  refine Wk.arraylength X0 hx hZ e0 pu (hb hby d15_3) rfl ?_
  refine Wk.icmpNo X0 hx (hb hby d15_4) rfl (teq (by decide : (13 : Int32) = (13 : Int32))).2 ?_
  refine Wk.iconst X0 hx (v := (0 : Int32)) (hb hby d15_7) rfl rfl ?_
  refine Wk.istoreN X0 hx (Ls' := #[.val (.ref lt), .val (.ref t), .val (.int (0 : Int32))]) (hb hby d15_8) rfl rfl ?_
  refine Wk.iloadN X0 hx (hb hby d15_9) rfl rfl ?_
  refine Wk.aloadN X0 hx (hb hby d15_10) rfl rfl rfl ?_
  refine Wk.arraylength X0 hx hZ e0 pt (hb hby d15_11) rfl ?_
  refine Wk.icmpNo X0 hx (hb hby d15_12) rfl (tlt (by decide : (0 : Int32) < (13 : Int32))).2.1 ?_
  refine Wk.aloadN X0 hx (hb hby d15_15) rfl rfl rfl ?_
  refine Wk.iloadN X0 hx (hb hby d15_16) rfl rfl ?_
  refine Wk.baload X0 hx hZ e0 pt (by decide) (by decide) (v := (102 : Int32)) rfl (hb hby d15_17) rfl ?_
  refine Wk.aloadN X0 hx (hb hby d15_18) rfl rfl rfl ?_
  refine Wk.iloadN X0 hx (hb hby d15_19) rfl rfl ?_
  refine Wk.baload X0 hx hZ e0 pu (by decide) (by decide) (v := u0) rfl (hb hby d15_20) rfl ?_
  by_cases hc1 : (102 : Int32) = u0
  · skip
    refine Wk.icmpYes X0 hx (hb hby d15_21) (by decide) (q := 26) rfl (teq hc1).1 ?_
    refine Wk.iinc X0 hx (Ls' := #[.val (.ref lt), .val (.ref t), .val (.int (1 : Int32))]) (hb hby d15_26) rfl rfl rfl ?_
    refine Wk.goto X0 hx (hb hby d15_29) (by decide) (q := 9) rfl ?_
    refine Wk.iloadN X0 hx (hb hby d15_9) rfl rfl ?_
    refine Wk.aloadN X0 hx (hb hby d15_10) rfl rfl rfl ?_
    refine Wk.arraylength X0 hx hZ e0 pt (hb hby d15_11) rfl ?_
    refine Wk.icmpNo X0 hx (hb hby d15_12) rfl (tlt (by decide : (1 : Int32) < (13 : Int32))).2.1 ?_
    refine Wk.aloadN X0 hx (hb hby d15_15) rfl rfl rfl ?_
    refine Wk.iloadN X0 hx (hb hby d15_16) rfl rfl ?_
    refine Wk.baload X0 hx hZ e0 pt (by decide) (by decide) (v := (105 : Int32)) rfl (hb hby d15_17) rfl ?_
    refine Wk.aloadN X0 hx (hb hby d15_18) rfl rfl rfl ?_
    refine Wk.iloadN X0 hx (hb hby d15_19) rfl rfl ?_
    refine Wk.baload X0 hx hZ e0 pu (by decide) (by decide) (v := u1) rfl (hb hby d15_20) rfl ?_
    by_cases hc2 : (105 : Int32) = u1
    · skip
      refine Wk.icmpYes X0 hx (hb hby d15_21) (by decide) (q := 26) rfl (teq hc2).1 ?_
      refine Wk.iinc X0 hx (Ls' := #[.val (.ref lt), .val (.ref t), .val (.int (2 : Int32))]) (hb hby d15_26) rfl rfl rfl ?_
      refine Wk.goto X0 hx (hb hby d15_29) (by decide) (q := 9) rfl ?_
      refine Wk.iloadN X0 hx (hb hby d15_9) rfl rfl ?_
      refine Wk.aloadN X0 hx (hb hby d15_10) rfl rfl rfl ?_
      refine Wk.arraylength X0 hx hZ e0 pt (hb hby d15_11) rfl ?_
      refine Wk.icmpNo X0 hx (hb hby d15_12) rfl (tlt (by decide : (2 : Int32) < (13 : Int32))).2.1 ?_
      refine Wk.aloadN X0 hx (hb hby d15_15) rfl rfl rfl ?_
      refine Wk.iloadN X0 hx (hb hby d15_16) rfl rfl ?_
      refine Wk.baload X0 hx hZ e0 pt (by decide) (by decide) (v := (120 : Int32)) rfl (hb hby d15_17) rfl ?_
      refine Wk.aloadN X0 hx (hb hby d15_18) rfl rfl rfl ?_
      refine Wk.iloadN X0 hx (hb hby d15_19) rfl rfl ?_
      refine Wk.baload X0 hx hZ e0 pu (by decide) (by decide) (v := u2) rfl (hb hby d15_20) rfl ?_
      by_cases hc3 : (120 : Int32) = u2
      · skip
        refine Wk.icmpYes X0 hx (hb hby d15_21) (by decide) (q := 26) rfl (teq hc3).1 ?_
        refine Wk.iinc X0 hx (Ls' := #[.val (.ref lt), .val (.ref t), .val (.int (3 : Int32))]) (hb hby d15_26) rfl rfl rfl ?_
        refine Wk.goto X0 hx (hb hby d15_29) (by decide) (q := 9) rfl ?_
        refine Wk.iloadN X0 hx (hb hby d15_9) rfl rfl ?_
        refine Wk.aloadN X0 hx (hb hby d15_10) rfl rfl rfl ?_
        refine Wk.arraylength X0 hx hZ e0 pt (hb hby d15_11) rfl ?_
        refine Wk.icmpNo X0 hx (hb hby d15_12) rfl (tlt (by decide : (3 : Int32) < (13 : Int32))).2.1 ?_
        refine Wk.aloadN X0 hx (hb hby d15_15) rfl rfl rfl ?_
        refine Wk.iloadN X0 hx (hb hby d15_16) rfl rfl ?_
        refine Wk.baload X0 hx hZ e0 pt (by decide) (by decide) (v := (101 : Int32)) rfl (hb hby d15_17) rfl ?_
        refine Wk.aloadN X0 hx (hb hby d15_18) rfl rfl rfl ?_
        refine Wk.iloadN X0 hx (hb hby d15_19) rfl rfl ?_
        refine Wk.baload X0 hx hZ e0 pu (by decide) (by decide) (v := u3) rfl (hb hby d15_20) rfl ?_
        by_cases hc4 : (101 : Int32) = u3
        · skip
          refine Wk.icmpYes X0 hx (hb hby d15_21) (by decide) (q := 26) rfl (teq hc4).1 ?_
          refine Wk.iinc X0 hx (Ls' := #[.val (.ref lt), .val (.ref t), .val (.int (4 : Int32))]) (hb hby d15_26) rfl rfl rfl ?_
          refine Wk.goto X0 hx (hb hby d15_29) (by decide) (q := 9) rfl ?_
          refine Wk.iloadN X0 hx (hb hby d15_9) rfl rfl ?_
          refine Wk.aloadN X0 hx (hb hby d15_10) rfl rfl rfl ?_
          refine Wk.arraylength X0 hx hZ e0 pt (hb hby d15_11) rfl ?_
          refine Wk.icmpNo X0 hx (hb hby d15_12) rfl (tlt (by decide : (4 : Int32) < (13 : Int32))).2.1 ?_
          refine Wk.aloadN X0 hx (hb hby d15_15) rfl rfl rfl ?_
          refine Wk.iloadN X0 hx (hb hby d15_16) rfl rfl ?_
          refine Wk.baload X0 hx hZ e0 pt (by decide) (by decide) (v := (100 : Int32)) rfl (hb hby d15_17) rfl ?_
          refine Wk.aloadN X0 hx (hb hby d15_18) rfl rfl rfl ?_
          refine Wk.iloadN X0 hx (hb hby d15_19) rfl rfl ?_
          refine Wk.baload X0 hx hZ e0 pu (by decide) (by decide) (v := u4) rfl (hb hby d15_20) rfl ?_
          by_cases hc5 : (100 : Int32) = u4
          · skip
            refine Wk.icmpYes X0 hx (hb hby d15_21) (by decide) (q := 26) rfl (teq hc5).1 ?_
            refine Wk.iinc X0 hx (Ls' := #[.val (.ref lt), .val (.ref t), .val (.int (5 : Int32))]) (hb hby d15_26) rfl rfl rfl ?_
            refine Wk.goto X0 hx (hb hby d15_29) (by decide) (q := 9) rfl ?_
            refine Wk.iloadN X0 hx (hb hby d15_9) rfl rfl ?_
            refine Wk.aloadN X0 hx (hb hby d15_10) rfl rfl rfl ?_
            refine Wk.arraylength X0 hx hZ e0 pt (hb hby d15_11) rfl ?_
            refine Wk.icmpNo X0 hx (hb hby d15_12) rfl (tlt (by decide : (5 : Int32) < (13 : Int32))).2.1 ?_
            refine Wk.aloadN X0 hx (hb hby d15_15) rfl rfl rfl ?_
            refine Wk.iloadN X0 hx (hb hby d15_16) rfl rfl ?_
            refine Wk.baload X0 hx hZ e0 pt (by decide) (by decide) (v := (45 : Int32)) rfl (hb hby d15_17) rfl ?_
            refine Wk.aloadN X0 hx (hb hby d15_18) rfl rfl rfl ?_
            refine Wk.iloadN X0 hx (hb hby d15_19) rfl rfl ?_
            refine Wk.baload X0 hx hZ e0 pu (by decide) (by decide) (v := u5) rfl (hb hby d15_20) rfl ?_
            by_cases hc6 : (45 : Int32) = u5
            · skip
              refine Wk.icmpYes X0 hx (hb hby d15_21) (by decide) (q := 26) rfl (teq hc6).1 ?_
              refine Wk.iinc X0 hx (Ls' := #[.val (.ref lt), .val (.ref t), .val (.int (6 : Int32))]) (hb hby d15_26) rfl rfl rfl ?_
              refine Wk.goto X0 hx (hb hby d15_29) (by decide) (q := 9) rfl ?_
              refine Wk.iloadN X0 hx (hb hby d15_9) rfl rfl ?_
              refine Wk.aloadN X0 hx (hb hby d15_10) rfl rfl rfl ?_
              refine Wk.arraylength X0 hx hZ e0 pt (hb hby d15_11) rfl ?_
              refine Wk.icmpNo X0 hx (hb hby d15_12) rfl (tlt (by decide : (6 : Int32) < (13 : Int32))).2.1 ?_
              refine Wk.aloadN X0 hx (hb hby d15_15) rfl rfl rfl ?_
              refine Wk.iloadN X0 hx (hb hby d15_16) rfl rfl ?_
              refine Wk.baload X0 hx hZ e0 pt (by decide) (by decide) (v := (112 : Int32)) rfl (hb hby d15_17) rfl ?_
              refine Wk.aloadN X0 hx (hb hby d15_18) rfl rfl rfl ?_
              refine Wk.iloadN X0 hx (hb hby d15_19) rfl rfl ?_
              refine Wk.baload X0 hx hZ e0 pu (by decide) (by decide) (v := u6) rfl (hb hby d15_20) rfl ?_
              by_cases hc7 : (112 : Int32) = u6
              · skip
                refine Wk.icmpYes X0 hx (hb hby d15_21) (by decide) (q := 26) rfl (teq hc7).1 ?_
                refine Wk.iinc X0 hx (Ls' := #[.val (.ref lt), .val (.ref t), .val (.int (7 : Int32))]) (hb hby d15_26) rfl rfl rfl ?_
                refine Wk.goto X0 hx (hb hby d15_29) (by decide) (q := 9) rfl ?_
                refine Wk.iloadN X0 hx (hb hby d15_9) rfl rfl ?_
                refine Wk.aloadN X0 hx (hb hby d15_10) rfl rfl rfl ?_
                refine Wk.arraylength X0 hx hZ e0 pt (hb hby d15_11) rfl ?_
                refine Wk.icmpNo X0 hx (hb hby d15_12) rfl (tlt (by decide : (7 : Int32) < (13 : Int32))).2.1 ?_
                refine Wk.aloadN X0 hx (hb hby d15_15) rfl rfl rfl ?_
                refine Wk.iloadN X0 hx (hb hby d15_16) rfl rfl ?_
                refine Wk.baload X0 hx hZ e0 pt (by decide) (by decide) (v := (108 : Int32)) rfl (hb hby d15_17) rfl ?_
                refine Wk.aloadN X0 hx (hb hby d15_18) rfl rfl rfl ?_
                refine Wk.iloadN X0 hx (hb hby d15_19) rfl rfl ?_
                refine Wk.baload X0 hx hZ e0 pu (by decide) (by decide) (v := u7) rfl (hb hby d15_20) rfl ?_
                by_cases hc8 : (108 : Int32) = u7
                · skip
                  refine Wk.icmpYes X0 hx (hb hby d15_21) (by decide) (q := 26) rfl (teq hc8).1 ?_
                  refine Wk.iinc X0 hx (Ls' := #[.val (.ref lt), .val (.ref t), .val (.int (8 : Int32))]) (hb hby d15_26) rfl rfl rfl ?_
                  refine Wk.goto X0 hx (hb hby d15_29) (by decide) (q := 9) rfl ?_
                  refine Wk.iloadN X0 hx (hb hby d15_9) rfl rfl ?_
                  refine Wk.aloadN X0 hx (hb hby d15_10) rfl rfl rfl ?_
                  refine Wk.arraylength X0 hx hZ e0 pt (hb hby d15_11) rfl ?_
                  refine Wk.icmpNo X0 hx (hb hby d15_12) rfl (tlt (by decide : (8 : Int32) < (13 : Int32))).2.1 ?_
                  refine Wk.aloadN X0 hx (hb hby d15_15) rfl rfl rfl ?_
                  refine Wk.iloadN X0 hx (hb hby d15_16) rfl rfl ?_
                  refine Wk.baload X0 hx hZ e0 pt (by decide) (by decide) (v := (117 : Int32)) rfl (hb hby d15_17) rfl ?_
                  refine Wk.aloadN X0 hx (hb hby d15_18) rfl rfl rfl ?_
                  refine Wk.iloadN X0 hx (hb hby d15_19) rfl rfl ?_
                  refine Wk.baload X0 hx hZ e0 pu (by decide) (by decide) (v := u8) rfl (hb hby d15_20) rfl ?_
                  by_cases hc9 : (117 : Int32) = u8
                  · skip
                    refine Wk.icmpYes X0 hx (hb hby d15_21) (by decide) (q := 26) rfl (teq hc9).1 ?_
                    refine Wk.iinc X0 hx (Ls' := #[.val (.ref lt), .val (.ref t), .val (.int (9 : Int32))]) (hb hby d15_26) rfl rfl rfl ?_
                    refine Wk.goto X0 hx (hb hby d15_29) (by decide) (q := 9) rfl ?_
                    refine Wk.iloadN X0 hx (hb hby d15_9) rfl rfl ?_
                    refine Wk.aloadN X0 hx (hb hby d15_10) rfl rfl rfl ?_
                    refine Wk.arraylength X0 hx hZ e0 pt (hb hby d15_11) rfl ?_
                    refine Wk.icmpNo X0 hx (hb hby d15_12) rfl (tlt (by decide : (9 : Int32) < (13 : Int32))).2.1 ?_
                    refine Wk.aloadN X0 hx (hb hby d15_15) rfl rfl rfl ?_
                    refine Wk.iloadN X0 hx (hb hby d15_16) rfl rfl ?_
                    refine Wk.baload X0 hx hZ e0 pt (by decide) (by decide) (v := (115 : Int32)) rfl (hb hby d15_17) rfl ?_
                    refine Wk.aloadN X0 hx (hb hby d15_18) rfl rfl rfl ?_
                    refine Wk.iloadN X0 hx (hb hby d15_19) rfl rfl ?_
                    refine Wk.baload X0 hx hZ e0 pu (by decide) (by decide) (v := u9) rfl (hb hby d15_20) rfl ?_
                    by_cases hc10 : (115 : Int32) = u9
                    · skip
                      refine Wk.icmpYes X0 hx (hb hby d15_21) (by decide) (q := 26) rfl (teq hc10).1 ?_
                      refine Wk.iinc X0 hx (Ls' := #[.val (.ref lt), .val (.ref t), .val (.int (10 : Int32))]) (hb hby d15_26) rfl rfl rfl ?_
                      refine Wk.goto X0 hx (hb hby d15_29) (by decide) (q := 9) rfl ?_
                      refine Wk.iloadN X0 hx (hb hby d15_9) rfl rfl ?_
                      refine Wk.aloadN X0 hx (hb hby d15_10) rfl rfl rfl ?_
                      refine Wk.arraylength X0 hx hZ e0 pt (hb hby d15_11) rfl ?_
                      refine Wk.icmpNo X0 hx (hb hby d15_12) rfl (tlt (by decide : (10 : Int32) < (13 : Int32))).2.1 ?_
                      refine Wk.aloadN X0 hx (hb hby d15_15) rfl rfl rfl ?_
                      refine Wk.iloadN X0 hx (hb hby d15_16) rfl rfl ?_
                      refine Wk.baload X0 hx hZ e0 pt (by decide) (by decide) (v := (45 : Int32)) rfl (hb hby d15_17) rfl ?_
                      refine Wk.aloadN X0 hx (hb hby d15_18) rfl rfl rfl ?_
                      refine Wk.iloadN X0 hx (hb hby d15_19) rfl rfl ?_
                      refine Wk.baload X0 hx hZ e0 pu (by decide) (by decide) (v := u10) rfl (hb hby d15_20) rfl ?_
                      by_cases hc11 : (45 : Int32) = u10
                      · skip
                        refine Wk.icmpYes X0 hx (hb hby d15_21) (by decide) (q := 26) rfl (teq hc11).1 ?_
                        refine Wk.iinc X0 hx (Ls' := #[.val (.ref lt), .val (.ref t), .val (.int (11 : Int32))]) (hb hby d15_26) rfl rfl rfl ?_
                        refine Wk.goto X0 hx (hb hby d15_29) (by decide) (q := 9) rfl ?_
                        refine Wk.iloadN X0 hx (hb hby d15_9) rfl rfl ?_
                        refine Wk.aloadN X0 hx (hb hby d15_10) rfl rfl rfl ?_
                        refine Wk.arraylength X0 hx hZ e0 pt (hb hby d15_11) rfl ?_
                        refine Wk.icmpNo X0 hx (hb hby d15_12) rfl (tlt (by decide : (11 : Int32) < (13 : Int32))).2.1 ?_
                        refine Wk.aloadN X0 hx (hb hby d15_15) rfl rfl rfl ?_
                        refine Wk.iloadN X0 hx (hb hby d15_16) rfl rfl ?_
                        refine Wk.baload X0 hx hZ e0 pt (by decide) (by decide) (v := (105 : Int32)) rfl (hb hby d15_17) rfl ?_
                        refine Wk.aloadN X0 hx (hb hby d15_18) rfl rfl rfl ?_
                        refine Wk.iloadN X0 hx (hb hby d15_19) rfl rfl ?_
                        refine Wk.baload X0 hx hZ e0 pu (by decide) (by decide) (v := u11) rfl (hb hby d15_20) rfl ?_
                        by_cases hc12 : (105 : Int32) = u11
                        · skip
                          refine Wk.icmpYes X0 hx (hb hby d15_21) (by decide) (q := 26) rfl (teq hc12).1 ?_
                          refine Wk.iinc X0 hx (Ls' := #[.val (.ref lt), .val (.ref t), .val (.int (12 : Int32))]) (hb hby d15_26) rfl rfl rfl ?_
                          refine Wk.goto X0 hx (hb hby d15_29) (by decide) (q := 9) rfl ?_
                          refine Wk.iloadN X0 hx (hb hby d15_9) rfl rfl ?_
                          refine Wk.aloadN X0 hx (hb hby d15_10) rfl rfl rfl ?_
                          refine Wk.arraylength X0 hx hZ e0 pt (hb hby d15_11) rfl ?_
                          refine Wk.icmpNo X0 hx (hb hby d15_12) rfl (tlt (by decide : (12 : Int32) < (13 : Int32))).2.1 ?_
                          refine Wk.aloadN X0 hx (hb hby d15_15) rfl rfl rfl ?_
                          refine Wk.iloadN X0 hx (hb hby d15_16) rfl rfl ?_
                          refine Wk.baload X0 hx hZ e0 pt (by decide) (by decide) (v := (105 : Int32)) rfl (hb hby d15_17) rfl ?_
                          refine Wk.aloadN X0 hx (hb hby d15_18) rfl rfl rfl ?_
                          refine Wk.iloadN X0 hx (hb hby d15_19) rfl rfl ?_
                          refine Wk.baload X0 hx hZ e0 pu (by decide) (by decide) (v := u12) rfl (hb hby d15_20) rfl ?_
                          by_cases hc13 : (105 : Int32) = u12
                          · skip
                            refine Wk.icmpYes X0 hx (hb hby d15_21) (by decide) (q := 26) rfl (teq hc13).1 ?_
                            refine Wk.iinc X0 hx (Ls' := #[.val (.ref lt), .val (.ref t), .val (.int (13 : Int32))]) (hb hby d15_26) rfl rfl rfl ?_
                            refine Wk.goto X0 hx (hb hby d15_29) (by decide) (q := 9) rfl ?_
                            refine Wk.iloadN X0 hx (hb hby d15_9) rfl rfl ?_
                            refine Wk.aloadN X0 hx (hb hby d15_10) rfl rfl rfl ?_
                            refine Wk.arraylength X0 hx hZ e0 pt (hb hby d15_11) rfl ?_
                            refine Wk.icmpYes X0 hx (hb hby d15_12) (by decide) (q := 32) rfl (flt (by decide : ¬ ((13 : Int32) < (13 : Int32)))).2.1 ?_
                            exact absurd (show EqL u0 u1 u2 u3 u4 u5 u6 u7 u8 u9 u10 u11 u12 from ⟨hc1.symm, hc2.symm, hc3.symm, hc4.symm, hc5.symm, hc6.symm, hc7.symm, hc8.symm, hc9.symm, hc10.symm, hc11.symm, hc12.symm, hc13.symm⟩) hnq
                          refine Wk.icmpNo X0 hx (hb hby d15_21) rfl (feq hc13).1 ?_
                          refine Wk.iconst X0 hx (v := (0 : Int32)) (hb hby d15_24) rfl rfl ?_
                          exact Wk.retZ' X0 hx hlk hr (by simp) (hb hby d15_25) (by decide) (by decide) (Qc := Q_rm_leD Z lt lk t kb u0 u1 u2 u3 u4 u5 u6 u7 u8 u9 u10 u11 u12 h0) e0 ⟨rfl, N0, rfl⟩
                        refine Wk.icmpNo X0 hx (hb hby d15_21) rfl (feq hc12).1 ?_
                        refine Wk.iconst X0 hx (v := (0 : Int32)) (hb hby d15_24) rfl rfl ?_
                        exact Wk.retZ' X0 hx hlk hr (by simp) (hb hby d15_25) (by decide) (by decide) (Qc := Q_rm_leD Z lt lk t kb u0 u1 u2 u3 u4 u5 u6 u7 u8 u9 u10 u11 u12 h0) e0 ⟨rfl, N0, rfl⟩
                      refine Wk.icmpNo X0 hx (hb hby d15_21) rfl (feq hc11).1 ?_
                      refine Wk.iconst X0 hx (v := (0 : Int32)) (hb hby d15_24) rfl rfl ?_
                      exact Wk.retZ' X0 hx hlk hr (by simp) (hb hby d15_25) (by decide) (by decide) (Qc := Q_rm_leD Z lt lk t kb u0 u1 u2 u3 u4 u5 u6 u7 u8 u9 u10 u11 u12 h0) e0 ⟨rfl, N0, rfl⟩
                    refine Wk.icmpNo X0 hx (hb hby d15_21) rfl (feq hc10).1 ?_
                    refine Wk.iconst X0 hx (v := (0 : Int32)) (hb hby d15_24) rfl rfl ?_
                    exact Wk.retZ' X0 hx hlk hr (by simp) (hb hby d15_25) (by decide) (by decide) (Qc := Q_rm_leD Z lt lk t kb u0 u1 u2 u3 u4 u5 u6 u7 u8 u9 u10 u11 u12 h0) e0 ⟨rfl, N0, rfl⟩
                  refine Wk.icmpNo X0 hx (hb hby d15_21) rfl (feq hc9).1 ?_
                  refine Wk.iconst X0 hx (v := (0 : Int32)) (hb hby d15_24) rfl rfl ?_
                  exact Wk.retZ' X0 hx hlk hr (by simp) (hb hby d15_25) (by decide) (by decide) (Qc := Q_rm_leD Z lt lk t kb u0 u1 u2 u3 u4 u5 u6 u7 u8 u9 u10 u11 u12 h0) e0 ⟨rfl, N0, rfl⟩
                refine Wk.icmpNo X0 hx (hb hby d15_21) rfl (feq hc8).1 ?_
                refine Wk.iconst X0 hx (v := (0 : Int32)) (hb hby d15_24) rfl rfl ?_
                exact Wk.retZ' X0 hx hlk hr (by simp) (hb hby d15_25) (by decide) (by decide) (Qc := Q_rm_leD Z lt lk t kb u0 u1 u2 u3 u4 u5 u6 u7 u8 u9 u10 u11 u12 h0) e0 ⟨rfl, N0, rfl⟩
              refine Wk.icmpNo X0 hx (hb hby d15_21) rfl (feq hc7).1 ?_
              refine Wk.iconst X0 hx (v := (0 : Int32)) (hb hby d15_24) rfl rfl ?_
              exact Wk.retZ' X0 hx hlk hr (by simp) (hb hby d15_25) (by decide) (by decide) (Qc := Q_rm_leD Z lt lk t kb u0 u1 u2 u3 u4 u5 u6 u7 u8 u9 u10 u11 u12 h0) e0 ⟨rfl, N0, rfl⟩
            refine Wk.icmpNo X0 hx (hb hby d15_21) rfl (feq hc6).1 ?_
            refine Wk.iconst X0 hx (v := (0 : Int32)) (hb hby d15_24) rfl rfl ?_
            exact Wk.retZ' X0 hx hlk hr (by simp) (hb hby d15_25) (by decide) (by decide) (Qc := Q_rm_leD Z lt lk t kb u0 u1 u2 u3 u4 u5 u6 u7 u8 u9 u10 u11 u12 h0) e0 ⟨rfl, N0, rfl⟩
          refine Wk.icmpNo X0 hx (hb hby d15_21) rfl (feq hc5).1 ?_
          refine Wk.iconst X0 hx (v := (0 : Int32)) (hb hby d15_24) rfl rfl ?_
          exact Wk.retZ' X0 hx hlk hr (by simp) (hb hby d15_25) (by decide) (by decide) (Qc := Q_rm_leD Z lt lk t kb u0 u1 u2 u3 u4 u5 u6 u7 u8 u9 u10 u11 u12 h0) e0 ⟨rfl, N0, rfl⟩
        refine Wk.icmpNo X0 hx (hb hby d15_21) rfl (feq hc4).1 ?_
        refine Wk.iconst X0 hx (v := (0 : Int32)) (hb hby d15_24) rfl rfl ?_
        exact Wk.retZ' X0 hx hlk hr (by simp) (hb hby d15_25) (by decide) (by decide) (Qc := Q_rm_leD Z lt lk t kb u0 u1 u2 u3 u4 u5 u6 u7 u8 u9 u10 u11 u12 h0) e0 ⟨rfl, N0, rfl⟩
      refine Wk.icmpNo X0 hx (hb hby d15_21) rfl (feq hc3).1 ?_
      refine Wk.iconst X0 hx (v := (0 : Int32)) (hb hby d15_24) rfl rfl ?_
      exact Wk.retZ' X0 hx hlk hr (by simp) (hb hby d15_25) (by decide) (by decide) (Qc := Q_rm_leD Z lt lk t kb u0 u1 u2 u3 u4 u5 u6 u7 u8 u9 u10 u11 u12 h0) e0 ⟨rfl, N0, rfl⟩
    refine Wk.icmpNo X0 hx (hb hby d15_21) rfl (feq hc2).1 ?_
    refine Wk.iconst X0 hx (v := (0 : Int32)) (hb hby d15_24) rfl rfl ?_
    exact Wk.retZ' X0 hx hlk hr (by simp) (hb hby d15_25) (by decide) (by decide) (Qc := Q_rm_leD Z lt lk t kb u0 u1 u2 u3 u4 u5 u6 u7 u8 u9 u10 u11 u12 h0) e0 ⟨rfl, N0, rfl⟩
  refine Wk.icmpNo X0 hx (hb hby d15_21) rfl (feq hc1).1 ?_
  refine Wk.iconst X0 hx (v := (0 : Int32)) (hb hby d15_24) rfl rfl ?_
  exact Wk.retZ' X0 hx hlk hr (by simp) (hb hby d15_25) (by decide) (by decide) (Qc := Q_rm_leD Z lt lk t kb u0 u1 u2 u3 u4 u5 u6 u7 u8 u9 u10 u11 u12 h0) e0 ⟨rfl, N0, rfl⟩
theorem d14_0 : decode jdk_42_method_66_code 0 = .ok (.aload_n 0, 1) := by decide +kernel
theorem d14_1 : decode jdk_42_method_66_code 1 = .ok (.aload_n 1, 1) := by decide +kernel
theorem d14_2 : decode jdk_42_method_66_code 2 = .ok (.if_acmp .ne 5, 3) := by decide +kernel
theorem d14_7 : decode jdk_42_method_66_code 7 = .ok (.aload_n 1, 1) := by decide +kernel
theorem d14_8 : decode jdk_42_method_66_code 8 = .ok (.instanceof 10, 3) := by decide +kernel
theorem d14_11 : decode jdk_42_method_66_code 11 = .ok (.ifCond .eq 43, 3) := by decide +kernel
theorem d14_54 : decode jdk_42_method_66_code 54 = .ok (.iconst 0, 1) := by decide +kernel
theorem d14_55 : decode jdk_42_method_66_code 55 = .ok (.ireturn, 1) := by decide +kernel
def Q_rm_eqN (Z : State) (lb_ : Addr) (h0 : Heap) (v : Option Value) (h : Heap) (L : List Loc) : Prop := v = some (.int (0 : Int32)) ∧ Fk h0.size [] L ∧ h = h0
set_option maxRecDepth 65536 in
set_option maxHeartbeats 40000000 in
theorem rm_eqN (l : Launch) (Z : State) (a0 : Array Value) (hw : ∀ d ∈ tables_1, d.before a0 Z = true) (ws : List Jvm.Cond) (lb_ : Addr) (h0 : Heap) (O0 : Old Z Z.heap.size h0) :
    Ctr l Z (⟨"java/lang/String", "equals", "(Ljava/lang/Object;)Z"⟩ : MethodName) jdk_42_method_66_code 3 (some .boolean) ws ({ frames := 0, cells := 0, slots := 0, locals := 0 } : Room) #[(.ref lb_), .null] h0 (Q_rm_eqN Z lb_ h0) := by
  refine Ctr.intro (Ls := fun _ => #[.val (.ref lb_), .val .null, .unset]) (plainFor_of_name pn0) (fun m => by first | rfl | (simp [entryFrame, mkF, argsToLocals, Value.category]; done)) ?_
  intro p e s m below meth c s₁ hx hby hml hr hlk hZ hown hnm hs0 X0 e0
  have w : ∀ (k : Nat) (d : Jvm.Cond), tables_1[k]? = some d → d.before a0 Z = true := fun k d q => hw d (List.mem_of_getElem? q)
  have N0 := Fk.nil h0.size []
  refine Wk.aloadN X0 hx (hb hby d14_0) rfl rfl rfl ?_
  refine Wk.aloadN X0 hx (hb hby d14_1) rfl rfl rfl ?_
  refine Wk.acmpNe X0 hx (hb hby d14_2) rfl rfl (by nofun) (by decide) (q := 7) (by decide) ?_
  refine Wk.aloadN X0 hx (hb hby d14_7) rfl rfl rfl ?_
  refine Wk.instNull X0 hx (hb hby d14_8) rfl ?_
  refine Wk.ifYes X0 hx (hb hby d14_11) (by decide) (q := 54) rfl ((if0 _ _).trans (teq (by decide : (0 : Int32) = (0 : Int32))).1) ?_
  refine Wk.iconst X0 hx (v := (0 : Int32)) (hb hby d14_54) rfl rfl ?_
  exact Wk.retZ' X0 hx hlk hr (by simp) (hb hby d14_55) (by decide) (by decide) (Qc := Q_rm_eqN Z lb_ h0) e0 ⟨rfl, N0, rfl⟩
theorem d14_14 : decode jdk_42_method_66_code 14 = .ok (.aload_n 1, 1) := by decide +kernel
theorem d14_15 : decode jdk_42_method_66_code 15 = .ok (.checkcast 10, 3) := by decide +kernel
theorem d14_18 : decode jdk_42_method_66_code 18 = .ok (.astore_n 2, 1) := by decide +kernel
theorem d14_19 : decode jdk_42_method_66_code 19 = .ok (.getstatic 38, 3) := by decide +kernel
theorem d14_22 : decode jdk_42_method_66_code 22 = .ok (.ifCond .eq 14, 3) := by decide +kernel
theorem d14_25 : decode jdk_42_method_66_code 25 = .ok (.aload_n 0, 1) := by decide +kernel
theorem d14_26 : decode jdk_42_method_66_code 26 = .ok (.getfield 15, 3) := by decide +kernel
theorem d14_29 : decode jdk_42_method_66_code 29 = .ok (.aload_n 2, 1) := by decide +kernel
theorem d14_30 : decode jdk_42_method_66_code 30 = .ok (.getfield 15, 3) := by decide +kernel
theorem d14_33 : decode jdk_42_method_66_code 33 = .ok (.if_icmp .ne 21, 3) := by decide +kernel
def Q_rm_eqU (Z : State) (lb_ : Addr) (lt : Addr) (lk : ClassId) (G1 : Int32) (x : Addr) (h0 : Heap) (v : Option Value) (h : Heap) (L : List Loc) : Prop := v = some (.int (0 : Int32)) ∧ Fk h0.size [] L ∧ h = h0
set_option maxRecDepth 65536 in
set_option maxHeartbeats 40000000 in
theorem rm_eqU (l : Launch) (Z : State) (a0 : Array Value) (hw : ∀ d ∈ tables_1, d.before a0 Z = true) (ws : List Jvm.Cond) (lb_ : Addr) (lt : Addr) (lk : ClassId) (G1 : Int32) (x : Addr) (h0 : Heap) (O0 : Old Z Z.heap.size h0) (SG1 : Sta Z Z.heap "java/lang/String" "COMPACT_STRINGS" "Z" (.int G1)) (nG1 : ¬ G1 = 0) (pl0_ : Exa Z h0 lb_ "java/lang/String") (pl1_ : Fld Z h0 lb_ "java/lang/String" "coder" "B" (.int (0 : Int32))) (pl2_ : Fld Z h0 lb_ "java/lang/String" "value" "[B" (.ref lt)) (pl3_ : Arv Z h0 lt lk .byte (13 : Int32) [(.int (102 : Int32)), (.int (105 : Int32)), (.int (120 : Int32)), (.int (101 : Int32)), (.int (100 : Int32)), (.int (45 : Int32)), (.int (112 : Int32)), (.int (108 : Int32)), (.int (117 : Int32)), (.int (115 : Int32)), (.int (45 : Int32)), (.int (105 : Int32)), (.int (105 : Int32))] (.int (0 : Int32))) (ps0_ : Exa Z h0 x "java/lang/String") (ps1_ : Fld Z h0 x "java/lang/String" "coder" "B" (.int (1 : Int32))) (hne : lb_ ≠ x) :
    Ctr l Z (⟨"java/lang/String", "equals", "(Ljava/lang/Object;)Z"⟩ : MethodName) jdk_42_method_66_code 3 (some .boolean) ws ({ frames := 0, cells := 0, slots := 0, locals := 0 } : Room) #[(.ref lb_), (.ref x)] h0 (Q_rm_eqU Z lb_ lt lk G1 x h0) := by
  refine Ctr.intro (Ls := fun _ => #[.val (.ref lb_), .val (.ref x), .unset]) (plainFor_of_name pn0) (fun m => by first | rfl | (simp [entryFrame, mkF, argsToLocals, Value.category]; done)) ?_
  intro p e s m below meth c s₁ hx hby hml hr hlk hZ hown hnm hs0 X0 e0
  have w : ∀ (k : Nat) (d : Jvm.Cond), tables_1[k]? = some d → d.before a0 Z = true := fun k d q => hw d (List.mem_of_getElem? q)
  have N0 := Fk.nil h0.size []
  refine Wk.aloadN X0 hx (hb hby d14_0) rfl rfl rfl ?_
  refine Wk.aloadN X0 hx (hb hby d14_1) rfl rfl rfl ?_
  refine Wk.acmpNe X0 hx (hb hby d14_2) rfl rfl (fun q => hne (Value.ref.inj q)) (by decide) (q := 7) (by decide) ?_
  refine Wk.aloadN X0 hx (hb hby d14_7) rfl rfl rfl ?_
  refine Wk.instY X0 hx hZ hown (w 84 _ rfl) e0 (Ins.self ps0_) (hb hby d14_8) rfl ?_
  intro T1 X1 e1
  refine Wk.ifNo X1 hx (hb hby d14_11) rfl ((if0 _ _).trans (feq (by decide : ¬ ((1 : Int32) = (0 : Int32)))).1) ?_
  refine Wk.aloadN X1 hx (hb hby d14_14) rfl rfl rfl ?_
  refine Wk.castY X1 hx hZ hown (w 84 _ rfl) e1 (Ins.self ps0_) (hb hby d14_15) rfl ?_
  intro T2 X2 e2
  refine Wk.astoreN X2 hx (Ls' := #[.val (.ref lb_), .val (.ref x), .val (.ref x)]) (hb hby d14_18) rfl rfl rfl ?_
  refine Wk.getstatic X2 hx hZ hown (host := "") (Or.inl (w 21 _ rfl)) Via.refl e2 (SG1.ext O0.2) (hb hby d14_19) rfl ?_
  intro T3 X3 e3
  refine Wk.ifNo X3 hx (hb hby d14_22) rfl ((if0 _ _).trans (feq nG1).1) ?_
  refine Wk.aloadN X3 hx (hb hby d14_25) rfl rfl rfl ?_
  refine Wk.getfield X3 hx hZ hown (host := "") (Or.inl (w 22 _ rfl)) Via.refl e3 pl1_ (hb hby d14_26) rfl ?_
  intro T4 X4 e4
  refine Wk.aloadN X4 hx (hb hby d14_29) rfl rfl rfl ?_
  refine Wk.getfield X4 hx hZ hown (host := "") (Or.inl (w 22 _ rfl)) Via.refl e4 ps1_ (hb hby d14_30) rfl ?_
  intro T5 X5 e5
  refine Wk.icmpYes X5 hx (hb hby d14_33) (by decide) (q := 54) rfl (feq (by decide : ¬ ((0 : Int32) = (1 : Int32)))).2 ?_
  refine Wk.iconst X5 hx (v := (0 : Int32)) (hb hby d14_54) rfl rfl ?_
  exact Wk.retZ' X5 hx hlk hr (by simp) (hb hby d14_55) (by decide) (by decide) (Qc := Q_rm_eqU Z lb_ lt lk G1 x h0) e5 ⟨rfl, N0, rfl⟩
theorem d14_36 : decode jdk_42_method_66_code 36 = .ok (.aload_n 0, 1) := by decide +kernel
theorem d14_37 : decode jdk_42_method_66_code 37 = .ok (.getfield 9, 3) := by decide +kernel
theorem d14_40 : decode jdk_42_method_66_code 40 = .ok (.aload_n 2, 1) := by decide +kernel
theorem d14_41 : decode jdk_42_method_66_code 41 = .ok (.getfield 9, 3) := by decide +kernel
theorem d14_44 : decode jdk_42_method_66_code 44 = .ok (.invokestatic 541, 3) := by decide +kernel
theorem pd15 : parseMethodDescriptor "([B[B)Z" = some ⟨[(.array .byte), (.array .byte)], some .boolean⟩ := by decide +kernel
theorem d14_47 : decode jdk_42_method_66_code 47 = .ok (.ifCond .eq 7, 3) := by decide +kernel
def Q_rm_eq12 (Z : State) (lb_ : Addr) (lt : Addr) (lk : ClassId) (G1 : Int32) (x : Addr) (t : Addr) (kb : ClassId) (us : List Value) (h0 : Heap) (v : Option Value) (h : Heap) (L : List Loc) : Prop := v = some (.int (0 : Int32)) ∧ Fk h0.size [] L ∧ h = h0
set_option maxRecDepth 65536 in
set_option maxHeartbeats 40000000 in
theorem rm_eq12 (l : Launch) (Z : State) (a0 : Array Value) (hw : ∀ d ∈ tables_1, d.before a0 Z = true) (ws : List Jvm.Cond) (lb_ : Addr) (lt : Addr) (lk : ClassId) (G1 : Int32) (x : Addr) (t : Addr) (kb : ClassId) (us : List Value) (h0 : Heap) (O0 : Old Z Z.heap.size h0) (SG1 : Sta Z Z.heap "java/lang/String" "COMPACT_STRINGS" "Z" (.int G1)) (nG1 : ¬ G1 = 0) (pl0_ : Exa Z h0 lb_ "java/lang/String") (pl1_ : Fld Z h0 lb_ "java/lang/String" "coder" "B" (.int (0 : Int32))) (pl2_ : Fld Z h0 lb_ "java/lang/String" "value" "[B" (.ref lt)) (pl3_ : Arv Z h0 lt lk .byte (13 : Int32) [(.int (102 : Int32)), (.int (105 : Int32)), (.int (120 : Int32)), (.int (101 : Int32)), (.int (100 : Int32)), (.int (45 : Int32)), (.int (112 : Int32)), (.int (108 : Int32)), (.int (117 : Int32)), (.int (115 : Int32)), (.int (45 : Int32)), (.int (105 : Int32)), (.int (105 : Int32))] (.int (0 : Int32))) (ps0_ : Exa Z h0 x "java/lang/String") (ps1_ : Fld Z h0 x "java/lang/String" "coder" "B" (.int (0 : Int32))) (ps2_ : Fld Z h0 x "java/lang/String" "value" "[B" (.ref t)) (ps3_ : Arv Z h0 t kb .byte (12 : Int32) us (.int (0 : Int32))) (hne : lb_ ≠ x) :
    Ctr l Z (⟨"java/lang/String", "equals", "(Ljava/lang/Object;)Z"⟩ : MethodName) jdk_42_method_66_code 3 (some .boolean) ws ({ frames := 1, cells := 0, slots := 0, locals := 14 } : Room) #[(.ref lb_), (.ref x)] h0 (Q_rm_eq12 Z lb_ lt lk G1 x t kb us h0) := by
  refine Ctr.intro (Ls := fun _ => #[.val (.ref lb_), .val (.ref x), .unset]) (plainFor_of_name pn0) (fun m => by first | rfl | (simp [entryFrame, mkF, argsToLocals, Value.category]; done)) ?_
  intro p e s m below meth c s₁ hx hby hml hr hlk hZ hown hnm hs0 X0 e0
  have w : ∀ (k : Nat) (d : Jvm.Cond), tables_1[k]? = some d → d.before a0 Z = true := fun k d q => hw d (List.mem_of_getElem? q)
  have N0 := Fk.nil h0.size []
  refine Wk.aloadN X0 hx (hb hby d14_0) rfl rfl rfl ?_
  refine Wk.aloadN X0 hx (hb hby d14_1) rfl rfl rfl ?_
  refine Wk.acmpNe X0 hx (hb hby d14_2) rfl rfl (fun q => hne (Value.ref.inj q)) (by decide) (q := 7) (by decide) ?_
  refine Wk.aloadN X0 hx (hb hby d14_7) rfl rfl rfl ?_
  refine Wk.instY X0 hx hZ hown (w 84 _ rfl) e0 (Ins.self ps0_) (hb hby d14_8) rfl ?_
  intro T1 X1 e1
  refine Wk.ifNo X1 hx (hb hby d14_11) rfl ((if0 _ _).trans (feq (by decide : ¬ ((1 : Int32) = (0 : Int32)))).1) ?_
  refine Wk.aloadN X1 hx (hb hby d14_14) rfl rfl rfl ?_
  refine Wk.castY X1 hx hZ hown (w 84 _ rfl) e1 (Ins.self ps0_) (hb hby d14_15) rfl ?_
  intro T2 X2 e2
  refine Wk.astoreN X2 hx (Ls' := #[.val (.ref lb_), .val (.ref x), .val (.ref x)]) (hb hby d14_18) rfl rfl rfl ?_
  refine Wk.getstatic X2 hx hZ hown (host := "") (Or.inl (w 21 _ rfl)) Via.refl e2 (SG1.ext O0.2) (hb hby d14_19) rfl ?_
  intro T3 X3 e3
  refine Wk.ifNo X3 hx (hb hby d14_22) rfl ((if0 _ _).trans (feq nG1).1) ?_
  refine Wk.aloadN X3 hx (hb hby d14_25) rfl rfl rfl ?_
  refine Wk.getfield X3 hx hZ hown (host := "") (Or.inl (w 22 _ rfl)) Via.refl e3 pl1_ (hb hby d14_26) rfl ?_
  intro T4 X4 e4
  refine Wk.aloadN X4 hx (hb hby d14_29) rfl rfl rfl ?_
  refine Wk.getfield X4 hx hZ hown (host := "") (Or.inl (w 22 _ rfl)) Via.refl e4 ps1_ (hb hby d14_30) rfl ?_
  intro T5 X5 e5
  refine Wk.icmpNo X5 hx (hb hby d14_33) rfl (teq (by decide : (0 : Int32) = (0 : Int32))).2 ?_
  refine Wk.aloadN X5 hx (hb hby d14_36) rfl rfl rfl ?_
  refine Wk.getfield X5 hx hZ hown (host := "") (Or.inl (w 23 _ rfl)) Via.refl e5 pl2_ (hb hby d14_37) rfl ?_
  intro T6 X6 e6
  refine Wk.aloadN X6 hx (hb hby d14_40) rfl rfl rfl ?_
  refine Wk.getfield X6 hx hZ hown (host := "") (Or.inl (w 23 _ rfl)) Via.refl e6 ps2_ (hb hby d14_41) rfl ?_
  intro T7 X7 e7
  refine Wk.callS X7 hx hZ hown (w 85 _ rfl) (w 86 _ rfl) (w 26 _ rfl) (w 87 _ rfl) (by decide) (as' := [(.ref lt), (.ref t)]) (backOf (W := 0) (rm_le12 l Z a0 hw [] lt lk t kb us h0 O0 pl3_ ps3_) hZ (w 87 _ rfl) (w 26 _ rfl) (by decide) (by decide)) e7 (by rw [hml]; rfl) (rest := []) (lenOf pd15 rfl) rfl (Nat.le_of_eq rfl) (hb hby d14_44) rfl (by decide) (by decide) ?_
  intro T8 h8 v8 L8 X8 e8 hQ8
  obtain ⟨rfl, Nq8, K8⟩ := hQ8
  have N8 := Fk.app N0 Nq8 (Nat.le_refl _) all0
  rw [K8] at e8
  show Wp p e below _ _ T8 (mkF m 47 #[.val (.ref lb_), .val (.ref x), .val (.ref x)] [(.int (0 : Int32))])
  refine Wk.ifYes X8 hx (hb hby d14_47) (by decide) (q := 54) rfl ((if0 _ _).trans (teq (by decide : (0 : Int32) = (0 : Int32))).1) ?_
  refine Wk.iconst X8 hx (v := (0 : Int32)) (hb hby d14_54) rfl rfl ?_
  exact Wk.retZ' X8 hx hlk hr (by simp) (hb hby d14_55) (by decide) (by decide) (Qc := Q_rm_eq12 Z lb_ lt lk G1 x t kb us h0) e8 ⟨rfl, N8, rfl⟩
def Q_rm_eq14 (Z : State) (lb_ : Addr) (lt : Addr) (lk : ClassId) (G1 : Int32) (x : Addr) (t : Addr) (kb : ClassId) (us : List Value) (h0 : Heap) (v : Option Value) (h : Heap) (L : List Loc) : Prop := v = some (.int (0 : Int32)) ∧ Fk h0.size [] L ∧ h = h0
set_option maxRecDepth 65536 in
set_option maxHeartbeats 40000000 in
theorem rm_eq14 (l : Launch) (Z : State) (a0 : Array Value) (hw : ∀ d ∈ tables_1, d.before a0 Z = true) (ws : List Jvm.Cond) (lb_ : Addr) (lt : Addr) (lk : ClassId) (G1 : Int32) (x : Addr) (t : Addr) (kb : ClassId) (us : List Value) (h0 : Heap) (O0 : Old Z Z.heap.size h0) (SG1 : Sta Z Z.heap "java/lang/String" "COMPACT_STRINGS" "Z" (.int G1)) (nG1 : ¬ G1 = 0) (pl0_ : Exa Z h0 lb_ "java/lang/String") (pl1_ : Fld Z h0 lb_ "java/lang/String" "coder" "B" (.int (0 : Int32))) (pl2_ : Fld Z h0 lb_ "java/lang/String" "value" "[B" (.ref lt)) (pl3_ : Arv Z h0 lt lk .byte (13 : Int32) [(.int (102 : Int32)), (.int (105 : Int32)), (.int (120 : Int32)), (.int (101 : Int32)), (.int (100 : Int32)), (.int (45 : Int32)), (.int (112 : Int32)), (.int (108 : Int32)), (.int (117 : Int32)), (.int (115 : Int32)), (.int (45 : Int32)), (.int (105 : Int32)), (.int (105 : Int32))] (.int (0 : Int32))) (ps0_ : Exa Z h0 x "java/lang/String") (ps1_ : Fld Z h0 x "java/lang/String" "coder" "B" (.int (0 : Int32))) (ps2_ : Fld Z h0 x "java/lang/String" "value" "[B" (.ref t)) (ps3_ : Arv Z h0 t kb .byte (14 : Int32) us (.int (0 : Int32))) (hne : lb_ ≠ x) :
    Ctr l Z (⟨"java/lang/String", "equals", "(Ljava/lang/Object;)Z"⟩ : MethodName) jdk_42_method_66_code 3 (some .boolean) ws ({ frames := 1, cells := 0, slots := 0, locals := 14 } : Room) #[(.ref lb_), (.ref x)] h0 (Q_rm_eq14 Z lb_ lt lk G1 x t kb us h0) := by
  refine Ctr.intro (Ls := fun _ => #[.val (.ref lb_), .val (.ref x), .unset]) (plainFor_of_name pn0) (fun m => by first | rfl | (simp [entryFrame, mkF, argsToLocals, Value.category]; done)) ?_
  intro p e s m below meth c s₁ hx hby hml hr hlk hZ hown hnm hs0 X0 e0
  have w : ∀ (k : Nat) (d : Jvm.Cond), tables_1[k]? = some d → d.before a0 Z = true := fun k d q => hw d (List.mem_of_getElem? q)
  have N0 := Fk.nil h0.size []
  refine Wk.aloadN X0 hx (hb hby d14_0) rfl rfl rfl ?_
  refine Wk.aloadN X0 hx (hb hby d14_1) rfl rfl rfl ?_
  refine Wk.acmpNe X0 hx (hb hby d14_2) rfl rfl (fun q => hne (Value.ref.inj q)) (by decide) (q := 7) (by decide) ?_
  refine Wk.aloadN X0 hx (hb hby d14_7) rfl rfl rfl ?_
  refine Wk.instY X0 hx hZ hown (w 84 _ rfl) e0 (Ins.self ps0_) (hb hby d14_8) rfl ?_
  intro T1 X1 e1
  refine Wk.ifNo X1 hx (hb hby d14_11) rfl ((if0 _ _).trans (feq (by decide : ¬ ((1 : Int32) = (0 : Int32)))).1) ?_
  refine Wk.aloadN X1 hx (hb hby d14_14) rfl rfl rfl ?_
  refine Wk.castY X1 hx hZ hown (w 84 _ rfl) e1 (Ins.self ps0_) (hb hby d14_15) rfl ?_
  intro T2 X2 e2
  refine Wk.astoreN X2 hx (Ls' := #[.val (.ref lb_), .val (.ref x), .val (.ref x)]) (hb hby d14_18) rfl rfl rfl ?_
  refine Wk.getstatic X2 hx hZ hown (host := "") (Or.inl (w 21 _ rfl)) Via.refl e2 (SG1.ext O0.2) (hb hby d14_19) rfl ?_
  intro T3 X3 e3
  refine Wk.ifNo X3 hx (hb hby d14_22) rfl ((if0 _ _).trans (feq nG1).1) ?_
  refine Wk.aloadN X3 hx (hb hby d14_25) rfl rfl rfl ?_
  refine Wk.getfield X3 hx hZ hown (host := "") (Or.inl (w 22 _ rfl)) Via.refl e3 pl1_ (hb hby d14_26) rfl ?_
  intro T4 X4 e4
  refine Wk.aloadN X4 hx (hb hby d14_29) rfl rfl rfl ?_
  refine Wk.getfield X4 hx hZ hown (host := "") (Or.inl (w 22 _ rfl)) Via.refl e4 ps1_ (hb hby d14_30) rfl ?_
  intro T5 X5 e5
  refine Wk.icmpNo X5 hx (hb hby d14_33) rfl (teq (by decide : (0 : Int32) = (0 : Int32))).2 ?_
  refine Wk.aloadN X5 hx (hb hby d14_36) rfl rfl rfl ?_
  refine Wk.getfield X5 hx hZ hown (host := "") (Or.inl (w 23 _ rfl)) Via.refl e5 pl2_ (hb hby d14_37) rfl ?_
  intro T6 X6 e6
  refine Wk.aloadN X6 hx (hb hby d14_40) rfl rfl rfl ?_
  refine Wk.getfield X6 hx hZ hown (host := "") (Or.inl (w 23 _ rfl)) Via.refl e6 ps2_ (hb hby d14_41) rfl ?_
  intro T7 X7 e7
  refine Wk.callS X7 hx hZ hown (w 85 _ rfl) (w 86 _ rfl) (w 26 _ rfl) (w 87 _ rfl) (by decide) (as' := [(.ref lt), (.ref t)]) (backOf (W := 0) (rm_le14 l Z a0 hw [] lt lk t kb us h0 O0 pl3_ ps3_) hZ (w 87 _ rfl) (w 26 _ rfl) (by decide) (by decide)) e7 (by rw [hml]; rfl) (rest := []) (lenOf pd15 rfl) rfl (Nat.le_of_eq rfl) (hb hby d14_44) rfl (by decide) (by decide) ?_
  intro T8 h8 v8 L8 X8 e8 hQ8
  obtain ⟨rfl, Nq8, K8⟩ := hQ8
  have N8 := Fk.app N0 Nq8 (Nat.le_refl _) all0
  rw [K8] at e8
  show Wp p e below _ _ T8 (mkF m 47 #[.val (.ref lb_), .val (.ref x), .val (.ref x)] [(.int (0 : Int32))])
  refine Wk.ifYes X8 hx (hb hby d14_47) (by decide) (q := 54) rfl ((if0 _ _).trans (teq (by decide : (0 : Int32) = (0 : Int32))).1) ?_
  refine Wk.iconst X8 hx (v := (0 : Int32)) (hb hby d14_54) rfl rfl ?_
  exact Wk.retZ' X8 hx hlk hr (by simp) (hb hby d14_55) (by decide) (by decide) (Qc := Q_rm_eq14 Z lb_ lt lk G1 x t kb us h0) e8 ⟨rfl, N8, rfl⟩
theorem d14_50 : decode jdk_42_method_66_code 50 = .ok (.iconst 1, 1) := by decide +kernel
theorem d14_51 : decode jdk_42_method_66_code 51 = .ok (.goto 4, 3) := by decide +kernel
def Q_rm_eqE (Z : State) (lb_ : Addr) (lt : Addr) (lk : ClassId) (G1 : Int32) (x : Addr) (t : Addr) (kb : ClassId) (u0 : Int32) (u1 : Int32) (u2 : Int32) (u3 : Int32) (u4 : Int32) (u5 : Int32) (u6 : Int32) (u7 : Int32) (u8 : Int32) (u9 : Int32) (u10 : Int32) (u11 : Int32) (u12 : Int32) (h0 : Heap) (v : Option Value) (h : Heap) (L : List Loc) : Prop := v = some (.int (1 : Int32)) ∧ Fk h0.size [] L ∧ h = h0
set_option maxRecDepth 65536 in
set_option maxHeartbeats 40000000 in
theorem rm_eqE (l : Launch) (Z : State) (a0 : Array Value) (hw : ∀ d ∈ tables_1, d.before a0 Z = true) (ws : List Jvm.Cond) (lb_ : Addr) (lt : Addr) (lk : ClassId) (G1 : Int32) (x : Addr) (t : Addr) (kb : ClassId) (u0 : Int32) (u1 : Int32) (u2 : Int32) (u3 : Int32) (u4 : Int32) (u5 : Int32) (u6 : Int32) (u7 : Int32) (u8 : Int32) (u9 : Int32) (u10 : Int32) (u11 : Int32) (u12 : Int32) (h0 : Heap) (O0 : Old Z Z.heap.size h0) (SG1 : Sta Z Z.heap "java/lang/String" "COMPACT_STRINGS" "Z" (.int G1)) (nG1 : ¬ G1 = 0) (pl0_ : Exa Z h0 lb_ "java/lang/String") (pl1_ : Fld Z h0 lb_ "java/lang/String" "coder" "B" (.int (0 : Int32))) (pl2_ : Fld Z h0 lb_ "java/lang/String" "value" "[B" (.ref lt)) (pl3_ : Arv Z h0 lt lk .byte (13 : Int32) [(.int (102 : Int32)), (.int (105 : Int32)), (.int (120 : Int32)), (.int (101 : Int32)), (.int (100 : Int32)), (.int (45 : Int32)), (.int (112 : Int32)), (.int (108 : Int32)), (.int (117 : Int32)), (.int (115 : Int32)), (.int (45 : Int32)), (.int (105 : Int32)), (.int (105 : Int32))] (.int (0 : Int32))) (ps0_ : Exa Z h0 x "java/lang/String") (ps1_ : Fld Z h0 x "java/lang/String" "coder" "B" (.int (0 : Int32))) (ps2_ : Fld Z h0 x "java/lang/String" "value" "[B" (.ref t)) (ps3_ : Arv Z h0 t kb .byte (13 : Int32) [(.int u0), (.int u1), (.int u2), (.int u3), (.int u4), (.int u5), (.int u6), (.int u7), (.int u8), (.int u9), (.int u10), (.int u11), (.int u12)] (.int (0 : Int32))) (hne : lb_ ≠ x) (hu0 : u0 = (102 : Int32)) (hu1 : u1 = (105 : Int32)) (hu2 : u2 = (120 : Int32)) (hu3 : u3 = (101 : Int32)) (hu4 : u4 = (100 : Int32)) (hu5 : u5 = (45 : Int32)) (hu6 : u6 = (112 : Int32)) (hu7 : u7 = (108 : Int32)) (hu8 : u8 = (117 : Int32)) (hu9 : u9 = (115 : Int32)) (hu10 : u10 = (45 : Int32)) (hu11 : u11 = (105 : Int32)) (hu12 : u12 = (105 : Int32)) :
    Ctr l Z (⟨"java/lang/String", "equals", "(Ljava/lang/Object;)Z"⟩ : MethodName) jdk_42_method_66_code 3 (some .boolean) ws ({ frames := 1, cells := 0, slots := 0, locals := 14 } : Room) #[(.ref lb_), (.ref x)] h0 (Q_rm_eqE Z lb_ lt lk G1 x t kb u0 u1 u2 u3 u4 u5 u6 u7 u8 u9 u10 u11 u12 h0) := by
  refine Ctr.intro (Ls := fun _ => #[.val (.ref lb_), .val (.ref x), .unset]) (plainFor_of_name pn0) (fun m => by first | rfl | (simp [entryFrame, mkF, argsToLocals, Value.category]; done)) ?_
  intro p e s m below meth c s₁ hx hby hml hr hlk hZ hown hnm hs0 X0 e0
  have w : ∀ (k : Nat) (d : Jvm.Cond), tables_1[k]? = some d → d.before a0 Z = true := fun k d q => hw d (List.mem_of_getElem? q)
  have N0 := Fk.nil h0.size []
  refine Wk.aloadN X0 hx (hb hby d14_0) rfl rfl rfl ?_
  refine Wk.aloadN X0 hx (hb hby d14_1) rfl rfl rfl ?_
  refine Wk.acmpNe X0 hx (hb hby d14_2) rfl rfl (fun q => hne (Value.ref.inj q)) (by decide) (q := 7) (by decide) ?_
  refine Wk.aloadN X0 hx (hb hby d14_7) rfl rfl rfl ?_
  refine Wk.instY X0 hx hZ hown (w 84 _ rfl) e0 (Ins.self ps0_) (hb hby d14_8) rfl ?_
  intro T1 X1 e1
  refine Wk.ifNo X1 hx (hb hby d14_11) rfl ((if0 _ _).trans (feq (by decide : ¬ ((1 : Int32) = (0 : Int32)))).1) ?_
  refine Wk.aloadN X1 hx (hb hby d14_14) rfl rfl rfl ?_
  refine Wk.castY X1 hx hZ hown (w 84 _ rfl) e1 (Ins.self ps0_) (hb hby d14_15) rfl ?_
  intro T2 X2 e2
  refine Wk.astoreN X2 hx (Ls' := #[.val (.ref lb_), .val (.ref x), .val (.ref x)]) (hb hby d14_18) rfl rfl rfl ?_
  refine Wk.getstatic X2 hx hZ hown (host := "") (Or.inl (w 21 _ rfl)) Via.refl e2 (SG1.ext O0.2) (hb hby d14_19) rfl ?_
  intro T3 X3 e3
  refine Wk.ifNo X3 hx (hb hby d14_22) rfl ((if0 _ _).trans (feq nG1).1) ?_
  refine Wk.aloadN X3 hx (hb hby d14_25) rfl rfl rfl ?_
  refine Wk.getfield X3 hx hZ hown (host := "") (Or.inl (w 22 _ rfl)) Via.refl e3 pl1_ (hb hby d14_26) rfl ?_
  intro T4 X4 e4
  refine Wk.aloadN X4 hx (hb hby d14_29) rfl rfl rfl ?_
  refine Wk.getfield X4 hx hZ hown (host := "") (Or.inl (w 22 _ rfl)) Via.refl e4 ps1_ (hb hby d14_30) rfl ?_
  intro T5 X5 e5
  refine Wk.icmpNo X5 hx (hb hby d14_33) rfl (teq (by decide : (0 : Int32) = (0 : Int32))).2 ?_
  refine Wk.aloadN X5 hx (hb hby d14_36) rfl rfl rfl ?_
  refine Wk.getfield X5 hx hZ hown (host := "") (Or.inl (w 23 _ rfl)) Via.refl e5 pl2_ (hb hby d14_37) rfl ?_
  intro T6 X6 e6
  refine Wk.aloadN X6 hx (hb hby d14_40) rfl rfl rfl ?_
  refine Wk.getfield X6 hx hZ hown (host := "") (Or.inl (w 23 _ rfl)) Via.refl e6 ps2_ (hb hby d14_41) rfl ?_
  intro T7 X7 e7
  refine Wk.callS X7 hx hZ hown (w 85 _ rfl) (w 86 _ rfl) (w 26 _ rfl) (w 87 _ rfl) (by decide) (as' := [(.ref lt), (.ref t)]) (backOf (W := 0) (rm_leE l Z a0 hw [] lt lk t kb u0 u1 u2 u3 u4 u5 u6 u7 u8 u9 u10 u11 u12 h0 O0 pl3_ ps3_ hu0 hu1 hu2 hu3 hu4 hu5 hu6 hu7 hu8 hu9 hu10 hu11 hu12) hZ (w 87 _ rfl) (w 26 _ rfl) (by decide) (by decide)) e7 (by rw [hml]; rfl) (rest := []) (lenOf pd15 rfl) rfl (Nat.le_of_eq rfl) (hb hby d14_44) rfl (by decide) (by decide) ?_
  intro T8 h8 v8 L8 X8 e8 hQ8
  obtain ⟨rfl, Nq8, K8⟩ := hQ8
  have N8 := Fk.app N0 Nq8 (Nat.le_refl _) all0
  rw [K8] at e8
  show Wp p e below _ _ T8 (mkF m 47 #[.val (.ref lb_), .val (.ref x), .val (.ref x)] [(.int (1 : Int32))])
  refine Wk.ifNo X8 hx (hb hby d14_47) rfl ((if0 _ _).trans (feq (by decide : ¬ ((1 : Int32) = (0 : Int32)))).1) ?_
  refine Wk.iconst X8 hx (v := (1 : Int32)) (hb hby d14_50) rfl rfl ?_
  refine Wk.goto X8 hx (hb hby d14_51) (by decide) (q := 55) rfl ?_
  exact Wk.retZ' X8 hx hlk hr (by simp) (hb hby d14_55) (by decide) (by decide) (Qc := Q_rm_eqE Z lb_ lt lk G1 x t kb u0 u1 u2 u3 u4 u5 u6 u7 u8 u9 u10 u11 u12 h0) e8 ⟨rfl, N8, rfl⟩
def Q_rm_eqD (Z : State) (lb_ : Addr) (lt : Addr) (lk : ClassId) (G1 : Int32) (x : Addr) (t : Addr) (kb : ClassId) (u0 : Int32) (u1 : Int32) (u2 : Int32) (u3 : Int32) (u4 : Int32) (u5 : Int32) (u6 : Int32) (u7 : Int32) (u8 : Int32) (u9 : Int32) (u10 : Int32) (u11 : Int32) (u12 : Int32) (h0 : Heap) (v : Option Value) (h : Heap) (L : List Loc) : Prop := v = some (.int (0 : Int32)) ∧ Fk h0.size [] L ∧ h = h0
set_option maxRecDepth 65536 in
set_option maxHeartbeats 40000000 in
theorem rm_eqD (l : Launch) (Z : State) (a0 : Array Value) (hw : ∀ d ∈ tables_1, d.before a0 Z = true) (ws : List Jvm.Cond) (lb_ : Addr) (lt : Addr) (lk : ClassId) (G1 : Int32) (x : Addr) (t : Addr) (kb : ClassId) (u0 : Int32) (u1 : Int32) (u2 : Int32) (u3 : Int32) (u4 : Int32) (u5 : Int32) (u6 : Int32) (u7 : Int32) (u8 : Int32) (u9 : Int32) (u10 : Int32) (u11 : Int32) (u12 : Int32) (h0 : Heap) (O0 : Old Z Z.heap.size h0) (SG1 : Sta Z Z.heap "java/lang/String" "COMPACT_STRINGS" "Z" (.int G1)) (nG1 : ¬ G1 = 0) (pl0_ : Exa Z h0 lb_ "java/lang/String") (pl1_ : Fld Z h0 lb_ "java/lang/String" "coder" "B" (.int (0 : Int32))) (pl2_ : Fld Z h0 lb_ "java/lang/String" "value" "[B" (.ref lt)) (pl3_ : Arv Z h0 lt lk .byte (13 : Int32) [(.int (102 : Int32)), (.int (105 : Int32)), (.int (120 : Int32)), (.int (101 : Int32)), (.int (100 : Int32)), (.int (45 : Int32)), (.int (112 : Int32)), (.int (108 : Int32)), (.int (117 : Int32)), (.int (115 : Int32)), (.int (45 : Int32)), (.int (105 : Int32)), (.int (105 : Int32))] (.int (0 : Int32))) (ps0_ : Exa Z h0 x "java/lang/String") (ps1_ : Fld Z h0 x "java/lang/String" "coder" "B" (.int (0 : Int32))) (ps2_ : Fld Z h0 x "java/lang/String" "value" "[B" (.ref t)) (ps3_ : Arv Z h0 t kb .byte (13 : Int32) [(.int u0), (.int u1), (.int u2), (.int u3), (.int u4), (.int u5), (.int u6), (.int u7), (.int u8), (.int u9), (.int u10), (.int u11), (.int u12)] (.int (0 : Int32))) (hne : lb_ ≠ x) (hnq : ¬ EqL u0 u1 u2 u3 u4 u5 u6 u7 u8 u9 u10 u11 u12) :
    Ctr l Z (⟨"java/lang/String", "equals", "(Ljava/lang/Object;)Z"⟩ : MethodName) jdk_42_method_66_code 3 (some .boolean) ws ({ frames := 1, cells := 0, slots := 0, locals := 14 } : Room) #[(.ref lb_), (.ref x)] h0 (Q_rm_eqD Z lb_ lt lk G1 x t kb u0 u1 u2 u3 u4 u5 u6 u7 u8 u9 u10 u11 u12 h0) := by
  refine Ctr.intro (Ls := fun _ => #[.val (.ref lb_), .val (.ref x), .unset]) (plainFor_of_name pn0) (fun m => by first | rfl | (simp [entryFrame, mkF, argsToLocals, Value.category]; done)) ?_
  intro p e s m below meth c s₁ hx hby hml hr hlk hZ hown hnm hs0 X0 e0
  have w : ∀ (k : Nat) (d : Jvm.Cond), tables_1[k]? = some d → d.before a0 Z = true := fun k d q => hw d (List.mem_of_getElem? q)
  have N0 := Fk.nil h0.size []
  refine Wk.aloadN X0 hx (hb hby d14_0) rfl rfl rfl ?_
  refine Wk.aloadN X0 hx (hb hby d14_1) rfl rfl rfl ?_
  refine Wk.acmpNe X0 hx (hb hby d14_2) rfl rfl (fun q => hne (Value.ref.inj q)) (by decide) (q := 7) (by decide) ?_
  refine Wk.aloadN X0 hx (hb hby d14_7) rfl rfl rfl ?_
  refine Wk.instY X0 hx hZ hown (w 84 _ rfl) e0 (Ins.self ps0_) (hb hby d14_8) rfl ?_
  intro T1 X1 e1
  refine Wk.ifNo X1 hx (hb hby d14_11) rfl ((if0 _ _).trans (feq (by decide : ¬ ((1 : Int32) = (0 : Int32)))).1) ?_
  refine Wk.aloadN X1 hx (hb hby d14_14) rfl rfl rfl ?_
  refine Wk.castY X1 hx hZ hown (w 84 _ rfl) e1 (Ins.self ps0_) (hb hby d14_15) rfl ?_
  intro T2 X2 e2
  refine Wk.astoreN X2 hx (Ls' := #[.val (.ref lb_), .val (.ref x), .val (.ref x)]) (hb hby d14_18) rfl rfl rfl ?_
  refine Wk.getstatic X2 hx hZ hown (host := "") (Or.inl (w 21 _ rfl)) Via.refl e2 (SG1.ext O0.2) (hb hby d14_19) rfl ?_
  intro T3 X3 e3
  refine Wk.ifNo X3 hx (hb hby d14_22) rfl ((if0 _ _).trans (feq nG1).1) ?_
  refine Wk.aloadN X3 hx (hb hby d14_25) rfl rfl rfl ?_
  refine Wk.getfield X3 hx hZ hown (host := "") (Or.inl (w 22 _ rfl)) Via.refl e3 pl1_ (hb hby d14_26) rfl ?_
  intro T4 X4 e4
  refine Wk.aloadN X4 hx (hb hby d14_29) rfl rfl rfl ?_
  refine Wk.getfield X4 hx hZ hown (host := "") (Or.inl (w 22 _ rfl)) Via.refl e4 ps1_ (hb hby d14_30) rfl ?_
  intro T5 X5 e5
  refine Wk.icmpNo X5 hx (hb hby d14_33) rfl (teq (by decide : (0 : Int32) = (0 : Int32))).2 ?_
  refine Wk.aloadN X5 hx (hb hby d14_36) rfl rfl rfl ?_
  refine Wk.getfield X5 hx hZ hown (host := "") (Or.inl (w 23 _ rfl)) Via.refl e5 pl2_ (hb hby d14_37) rfl ?_
  intro T6 X6 e6
  refine Wk.aloadN X6 hx (hb hby d14_40) rfl rfl rfl ?_
  refine Wk.getfield X6 hx hZ hown (host := "") (Or.inl (w 23 _ rfl)) Via.refl e6 ps2_ (hb hby d14_41) rfl ?_
  intro T7 X7 e7
  refine Wk.callS X7 hx hZ hown (w 85 _ rfl) (w 86 _ rfl) (w 26 _ rfl) (w 87 _ rfl) (by decide) (as' := [(.ref lt), (.ref t)]) (backOf (W := 0) (rm_leD l Z a0 hw [] lt lk t kb u0 u1 u2 u3 u4 u5 u6 u7 u8 u9 u10 u11 u12 h0 O0 pl3_ ps3_ hnq) hZ (w 87 _ rfl) (w 26 _ rfl) (by decide) (by decide)) e7 (by rw [hml]; rfl) (rest := []) (lenOf pd15 rfl) rfl (Nat.le_of_eq rfl) (hb hby d14_44) rfl (by decide) (by decide) ?_
  intro T8 h8 v8 L8 X8 e8 hQ8
  obtain ⟨rfl, Nq8, K8⟩ := hQ8
  have N8 := Fk.app N0 Nq8 (Nat.le_refl _) all0
  rw [K8] at e8
  show Wp p e below _ _ T8 (mkF m 47 #[.val (.ref lb_), .val (.ref x), .val (.ref x)] [(.int (0 : Int32))])
  refine Wk.ifYes X8 hx (hb hby d14_47) (by decide) (q := 54) rfl ((if0 _ _).trans (teq (by decide : (0 : Int32) = (0 : Int32))).1) ?_
  refine Wk.iconst X8 hx (v := (0 : Int32)) (hb hby d14_54) rfl rfl ?_
  exact Wk.retZ' X8 hx hlk hr (by simp) (hb hby d14_55) (by decide) (by decide) (Qc := Q_rm_eqD Z lb_ lt lk G1 x t kb u0 u1 u2 u3 u4 u5 u6 u7 u8 u9 u10 u11 u12 h0) e8 ⟨rfl, N8, rfl⟩
theorem pn16 : plainName "com/example/accumulus/accumulus/terms/FixedOption" = true := by first | (simp [plainName, overriddenIn]; done) | decide +kernel
theorem d13_0 : decode prog_68_method_1_code 0 = .ok (.getstatic 7, 3) := by decide +kernel
theorem d13_3 : decode prog_68_method_1_code 3 = .ok (.invokevirtual 11, 3) := by decide +kernel
theorem d13_6 : decode prog_68_method_1_code 6 = .ok (.checkcast 12, 3) := by decide +kernel
theorem d13_9 : decode prog_68_method_1_code 9 = .ok (.areturn, 1) := by decide +kernel
def Q_rm_vals (Z : State) (va : Addr) (kv : ClassId) (kf : Addr) (h0 : Heap) (v : Option Value) (h : Heap) (L : List Loc) : Prop := ∃ x : Addr, v = some (.ref x) ∧ Fk h0.size [] L ∧ Keep h0 h [] ∧ h0.size ≤ x ∧ Arv Z h x kv (.object "com/example/accumulus/accumulus/terms/FixedOption") (1 : Int32) [(.ref kf)] .null
set_option maxRecDepth 65536 in
set_option maxHeartbeats 40000000 in
theorem rm_vals (l : Launch) (Z : State) (a0 : Array Value) (hw : ∀ d ∈ tables_1, d.before a0 Z = true) (ws : List Jvm.Cond) (va : Addr) (kv : ClassId) (kf : Addr) (h0 : Heap) (O0 : Old Z Z.heap.size h0) (sV : Sta Z Z.heap "com/example/accumulus/accumulus/terms/FixedOption" "$VALUES" "[Lcom/example/accumulus/accumulus/terms/FixedOption;" (.ref va)) (pA : Arv Z h0 va kv (.object "com/example/accumulus/accumulus/terms/FixedOption") (1 : Int32) [(.ref kf)] .null) (pE : Exa Z h0 va "[Lcom/example/accumulus/accumulus/terms/FixedOption;") :
    Ctr l Z (⟨"com/example/accumulus/accumulus/terms/FixedOption", "values", "()[Lcom/example/accumulus/accumulus/terms/FixedOption;"⟩ : MethodName) prog_68_method_1_code 0 (some (.array (.object "com/example/accumulus/accumulus/terms/FixedOption"))) ws ({ frames := 1, cells := 1, slots := 1, locals := 14 } : Room) #[] h0 (Q_rm_vals Z va kv kf h0) := by
  refine Ctr.intro (Ls := fun _ => #[]) (plainFor_of_name pn16) (fun m => by first | rfl | (simp [entryFrame, mkF, argsToLocals, Value.category]; done)) ?_
  intro p e s m below meth c s₁ hx hby hml hr hlk hZ hown hnm hs0 X0 e0
  have w : ∀ (k : Nat) (d : Jvm.Cond), tables_1[k]? = some d → d.before a0 Z = true := fun k d q => hw d (List.mem_of_getElem? q)
  have N0 := Fk.nil h0.size []
  refine Wk.getstatic X0 hx hZ hown (host := "") (Or.inl (w 64 _ rfl)) Via.refl e0 (sV.ext O0.2) (hb hby d13_0) rfl ?_
  intro T1 X1 e1
  refine Wk.clone X1 hx hZ hown (w 66 _ rfl) (w 67 _ rfl) (w 71 _ rfl) (w 69 _ rfl) (w 70 _ rfl) (w 72 _ rfl) e1 pA pE (by rw [hml]; rfl) (hb hby d13_3) rfl (by decide) 0 1 (Nat.le_of_eq rfl) (by decide) (by decide) (by decide) (by decide) ?_
  intro T2 h2 a2 g2 X2 e2 E2 V2 A2
  have O3 : Old Z Z.heap.size h2 := O0.ext E2
  refine Wk.castY X2 hx hZ hown (w 75 _ rfl) e2 (Ins.self A2) (hb hby d13_6) rfl ?_
  intro T4 X4 e4
  have KK5 : Keep h0 h2 [] := ((Keep.refl h0 []).ext E2)
  exact Wk.retA' X4 hx hlk hr rfl rfl (hb hby d13_9) (by decide) (by decide) (Qc := Q_rm_vals Z va kv kf h0) e4 ⟨a2, rfl, N0, KK5, (Nat.le_of_eq g2), V2⟩
theorem d12_0 : decode prog_68_method_4_code 0 = .ok (.invokestatic 42, 3) := by decide +kernel
theorem pd17 : parseMethodDescriptor "()[Lcom/example/accumulus/accumulus/terms/FixedOption;" = some ⟨[], some (.array (.object "com/example/accumulus/accumulus/terms/FixedOption"))⟩ := by decide +kernel
theorem d12_3 : decode prog_68_method_4_code 3 = .ok (.astore_n 1, 1) := by decide +kernel
theorem d12_4 : decode prog_68_method_4_code 4 = .ok (.aload_n 1, 1) := by decide +kernel
theorem d12_5 : decode prog_68_method_4_code 5 = .ok (.arraylength, 1) := by decide +kernel
theorem d12_6 : decode prog_68_method_4_code 6 = .ok (.istore_n 2, 1) := by decide +kernel
theorem d12_7 : decode prog_68_method_4_code 7 = .ok (.iconst 0, 1) := by decide +kernel
theorem d12_8 : decode prog_68_method_4_code 8 = .ok (.istore_n 3, 1) := by decide +kernel
theorem d12_9 : decode prog_68_method_4_code 9 = .ok (.iload_n 3, 1) := by decide +kernel
theorem d12_10 : decode prog_68_method_4_code 10 = .ok (.iload_n 2, 1) := by decide +kernel
theorem d12_11 : decode prog_68_method_4_code 11 = .ok (.if_icmp .ge 29, 3) := by decide +kernel
theorem d12_14 : decode prog_68_method_4_code 14 = .ok (.aload_n 1, 1) := by decide +kernel
theorem d12_15 : decode prog_68_method_4_code 15 = .ok (.iload_n 3, 1) := by decide +kernel
theorem d12_16 : decode prog_68_method_4_code 16 = .ok (.aaload, 1) := by decide +kernel
theorem d12_17 : decode prog_68_method_4_code 17 = .ok (.astore 4, 2) := by decide +kernel
theorem d12_19 : decode prog_68_method_4_code 19 = .ok (.aload 4, 2) := by decide +kernel
theorem d12_21 : decode prog_68_method_4_code 21 = .ok (.getfield 32, 3) := by decide +kernel
theorem d12_24 : decode prog_68_method_4_code 24 = .ok (.aload_n 0, 1) := by decide +kernel
theorem d12_25 : decode prog_68_method_4_code 25 = .ok (.invokevirtual 46, 3) := by decide +kernel
theorem pd18 : parseMethodDescriptor "(Ljava/lang/Object;)Z" = some ⟨[(.object "java/lang/Object")], some .boolean⟩ := by decide +kernel
theorem d12_28 : decode prog_68_method_4_code 28 = .ok (.ifCond .eq 6, 3) := by decide +kernel
theorem d12_34 : decode prog_68_method_4_code 34 = .ok (.iinc 3 1, 3) := by decide +kernel
theorem d12_37 : decode prog_68_method_4_code 37 = .ok (.goto (-28), 3) := by decide +kernel
theorem d12_40 : decode prog_68_method_4_code 40 = .ok (.aconst_null, 1) := by decide +kernel
theorem d12_41 : decode prog_68_method_4_code 41 = .ok (.areturn, 1) := by decide +kernel
def Q_rm_wlN (Z : State) (va : Addr) (kv : ClassId) (kf : Addr) (lb_ : Addr) (lt : Addr) (lk : ClassId) (h0 : Heap) (v : Option Value) (h : Heap) (L : List Loc) : Prop := v = some .null ∧ Fk h0.size [] L ∧ Keep h0 h []
set_option maxRecDepth 65536 in
set_option maxHeartbeats 40000000 in
theorem rm_wlN (l : Launch) (Z : State) (a0 : Array Value) (hw : ∀ d ∈ tables_1, d.before a0 Z = true) (ws : List Jvm.Cond) (va : Addr) (kv : ClassId) (kf : Addr) (lb_ : Addr) (lt : Addr) (lk : ClassId) (h0 : Heap) (O0 : Old Z Z.heap.size h0) (sV : Sta Z Z.heap "com/example/accumulus/accumulus/terms/FixedOption" "$VALUES" "[Lcom/example/accumulus/accumulus/terms/FixedOption;" (.ref va)) (pA : Arv Z h0 va kv (.object "com/example/accumulus/accumulus/terms/FixedOption") (1 : Int32) [(.ref kf)] .null) (pE : Exa Z h0 va "[Lcom/example/accumulus/accumulus/terms/FixedOption;") (pF : Fld Z h0 kf "com/example/accumulus/accumulus/terms/FixedOption" "label" "Ljava/lang/String;" (.ref lb_)) (pl0_ : Exa Z h0 lb_ "java/lang/String") (pl1_ : Fld Z h0 lb_ "java/lang/String" "coder" "B" (.int (0 : Int32))) (pl2_ : Fld Z h0 lb_ "java/lang/String" "value" "[B" (.ref lt)) (pl3_ : Arv Z h0 lt lk .byte (13 : Int32) [(.int (102 : Int32)), (.int (105 : Int32)), (.int (120 : Int32)), (.int (101 : Int32)), (.int (100 : Int32)), (.int (45 : Int32)), (.int (112 : Int32)), (.int (108 : Int32)), (.int (117 : Int32)), (.int (115 : Int32)), (.int (45 : Int32)), (.int (105 : Int32)), (.int (105 : Int32))] (.int (0 : Int32))) :
    Ctr l Z (⟨"com/example/accumulus/accumulus/terms/FixedOption", "withLabel", "(Ljava/lang/String;)Lcom/example/accumulus/accumulus/terms/FixedOption;"⟩ : MethodName) prog_68_method_4_code 5 (some (.object "com/example/accumulus/accumulus/terms/FixedOption")) ws ({ frames := 2, cells := 1, slots := 1, locals := 25 } : Room) #[.null] h0 (Q_rm_wlN Z va kv kf lb_ lt lk h0) := by
  refine Ctr.intro (Ls := fun _ => #[.val .null, .unset, .unset, .unset, .unset]) (plainFor_of_name pn16) (fun m => by first | rfl | (simp [entryFrame, mkF, argsToLocals, Value.category]; done)) ?_
  intro p e s m below meth c s₁ hx hby hml hr hlk hZ hown hnm hs0 X0 e0
  have w : ∀ (k : Nat) (d : Jvm.Cond), tables_1[k]? = some d → d.before a0 Z = true := fun k d q => hw d (List.mem_of_getElem? q)
  have N0 := Fk.nil h0.size []
  refine Wk.callS X0 hx hZ hown (w 61 _ rfl) (w 62 _ rfl) (w 59 _ rfl) (w 63 _ rfl) (by decide) (as' := []) (backOf (W := 0) (rm_vals l Z a0 hw [] va kv kf h0 O0 sV pA pE) hZ (w 63 _ rfl) (w 59 _ rfl) (by decide) (by decide)) e0 (by rw [hml]; rfl) (rest := []) (lenOf pd17 rfl) rfl (Nat.le_of_eq rfl) (hb hby d12_0) rfl (by decide) (by decide) ?_
  intro T1 h1 v1 L1 X1 e1 hQ1
  obtain ⟨x1, rfl, Nq1, K1, q1_0, q1_1⟩ := hQ1
  have N1 := Fk.app N0 Nq1 (Nat.le_refl _) all0
  have O2 : Old Z Z.heap.size h1 := O0.keep K1 all0
  show Wp p e below _ _ T1 (mkF m 3 #[.val .null, .unset, .unset, .unset, .unset] [(.ref x1)])
  refine Wk.astoreN X1 hx (Ls' := #[.val .null, .val (.ref x1), .unset, .unset, .unset]) (hb hby d12_3) rfl rfl rfl ?_
  refine Wk.aloadN X1 hx (hb hby d12_4) rfl rfl rfl ?_
  refine Wk.arraylength X1 hx hZ e1 q1_1 (hb hby d12_5) rfl ?_
  refine Wk.istoreN X1 hx (Ls' := #[.val .null, .val (.ref x1), .val (.int (1 : Int32)), .unset, .unset]) (hb hby d12_6) rfl rfl ?_
  refine Wk.iconst X1 hx (v := (0 : Int32)) (hb hby d12_7) rfl rfl ?_
  refine Wk.istoreN X1 hx (Ls' := #[.val .null, .val (.ref x1), .val (.int (1 : Int32)), .val (.int (0 : Int32)), .unset]) (hb hby d12_8) rfl rfl ?_
  refine Wk.iloadN X1 hx (hb hby d12_9) rfl rfl ?_
  refine Wk.iloadN X1 hx (hb hby d12_10) rfl rfl ?_
  refine Wk.icmpNo X1 hx (hb hby d12_11) rfl (tlt (by decide : (0 : Int32) < (1 : Int32))).2.1 ?_
  refine Wk.aloadN X1 hx (hb hby d12_14) rfl rfl rfl ?_
  refine Wk.iloadN X1 hx (hb hby d12_15) rfl rfl ?_
  refine Wk.aaload X1 hx hZ e1 (C := (.object "com/example/accumulus/accumulus/terms/FixedOption")) q1_1 (by decide) (by decide) (v := (.ref kf)) rfl rfl (hb hby d12_16) rfl ?_
  refine Wk.astore X1 hx (Ls' := #[.val .null, .val (.ref x1), .val (.int (1 : Int32)), .val (.int (0 : Int32)), .val (.ref kf)]) (hb hby d12_17) rfl rfl rfl ?_
  refine Wk.aload X1 hx (hb hby d12_19) rfl rfl rfl ?_
  have KK3 : Keep h0 h1 [] := ((Keep.refl h0 []).trans K1 all0)
  have f4 : Fld Z h1 kf "com/example/accumulus/accumulus/terms/FixedOption" "label" "Ljava/lang/String;" (.ref lb_) := (pF.keep KK3 nin0)
  refine Wk.getfield X1 hx hZ hown (host := "") (Or.inl (w 77 _ rfl)) Via.refl e1 f4 (hb hby d12_21) rfl ?_
  intro T5 X5 e5
  refine Wk.aloadN X5 hx (hb hby d12_24) rfl rfl rfl ?_
  have f7 : Exa Z h1 lb_ "java/lang/String" := (pl0_.keep KK3)
  refine Wk.callV X5 hx hZ (y := (⟨"java/lang/String", "equals", "(Ljava/lang/Object;)Z"⟩ : MethodName)) (z := (⟨"java/lang/String", "equals", "(Ljava/lang/Object;)Z"⟩ : MethodName)) hown (w 79 _ rfl) (w 80 _ rfl) (notFace_of_selects (args := #[]) (mvT hZ (w 82 _ rfl))) (w 82 _ rfl) (w 81 _ rfl) (by decide) (as' := [.null]) (backOf (W := 0) (rm_eqN l Z a0 hw [] lb_ h1 O2) hZ (w 83 _ rfl) (w 1 _ rfl) (by decide) (by decide)) e5 f7 (by rw [hml]; rfl) (rest := []) (lenOf pd18 rfl) rfl (Nat.le_of_eq rfl) (hb hby d12_25) rfl (by decide) (by decide) ?_
  intro T6 h6 v6 L6 X6 e6 hQ6
  obtain ⟨rfl, Nq6, K6⟩ := hQ6
  have N6 := Fk.app N1 Nq6 KK3.1 all0
  rw [K6] at e6
  show Wp p e below _ _ T6 (mkF m 28 #[.val .null, .val (.ref x1), .val (.int (1 : Int32)), .val (.int (0 : Int32)), .val (.ref kf)] [(.int (0 : Int32))])
  refine Wk.ifYes X6 hx (hb hby d12_28) (by decide) (q := 34) rfl ((if0 _ _).trans (teq (by decide : (0 : Int32) = (0 : Int32))).1) ?_
  refine Wk.iinc X6 hx (Ls' := #[.val .null, .val (.ref x1), .val (.int (1 : Int32)), .val (.int (1 : Int32)), .val (.ref kf)]) (hb hby d12_34) rfl rfl rfl ?_
  refine Wk.goto X6 hx (hb hby d12_37) (by decide) (q := 9) rfl ?_
  refine Wk.iloadN X6 hx (hb hby d12_9) rfl rfl ?_
  refine Wk.iloadN X6 hx (hb hby d12_10) rfl rfl ?_
  refine Wk.icmpYes X6 hx (hb hby d12_11) (by decide) (q := 40) rfl (flt (by decide : ¬ ((1 : Int32) < (1 : Int32)))).2.1 ?_
  refine Wk.aconstNull X6 hx (hb hby d12_40) rfl ?_
  exact Wk.retA' X6 hx hlk hr rfl rfl (hb hby d12_41) (by decide) (by decide) (Qc := Q_rm_wlN Z va kv kf lb_ lt lk h0) e6 ⟨rfl, N6, KK3⟩
def Q_rm_wlU (Z : State) (va : Addr) (kv : ClassId) (kf : Addr) (lb_ : Addr) (lt : Addr) (lk : ClassId) (G1 : Int32) (x : Addr) (h0 : Heap) (v : Option Value) (h : Heap) (L : List Loc) : Prop := v = some .null ∧ Fk h0.size [] L ∧ Keep h0 h []
set_option maxRecDepth 65536 in
set_option maxHeartbeats 40000000 in
theorem rm_wlU (l : Launch) (Z : State) (a0 : Array Value) (hw : ∀ d ∈ tables_1, d.before a0 Z = true) (ws : List Jvm.Cond) (va : Addr) (kv : ClassId) (kf : Addr) (lb_ : Addr) (lt : Addr) (lk : ClassId) (G1 : Int32) (x : Addr) (h0 : Heap) (O0 : Old Z Z.heap.size h0) (SG1 : Sta Z Z.heap "java/lang/String" "COMPACT_STRINGS" "Z" (.int G1)) (nG1 : ¬ G1 = 0) (sV : Sta Z Z.heap "com/example/accumulus/accumulus/terms/FixedOption" "$VALUES" "[Lcom/example/accumulus/accumulus/terms/FixedOption;" (.ref va)) (pA : Arv Z h0 va kv (.object "com/example/accumulus/accumulus/terms/FixedOption") (1 : Int32) [(.ref kf)] .null) (pE : Exa Z h0 va "[Lcom/example/accumulus/accumulus/terms/FixedOption;") (pF : Fld Z h0 kf "com/example/accumulus/accumulus/terms/FixedOption" "label" "Ljava/lang/String;" (.ref lb_)) (pl0_ : Exa Z h0 lb_ "java/lang/String") (pl1_ : Fld Z h0 lb_ "java/lang/String" "coder" "B" (.int (0 : Int32))) (pl2_ : Fld Z h0 lb_ "java/lang/String" "value" "[B" (.ref lt)) (pl3_ : Arv Z h0 lt lk .byte (13 : Int32) [(.int (102 : Int32)), (.int (105 : Int32)), (.int (120 : Int32)), (.int (101 : Int32)), (.int (100 : Int32)), (.int (45 : Int32)), (.int (112 : Int32)), (.int (108 : Int32)), (.int (117 : Int32)), (.int (115 : Int32)), (.int (45 : Int32)), (.int (105 : Int32)), (.int (105 : Int32))] (.int (0 : Int32))) (ps0_ : Exa Z h0 x "java/lang/String") (ps1_ : Fld Z h0 x "java/lang/String" "coder" "B" (.int (1 : Int32))) (hne : lb_ ≠ x) :
    Ctr l Z (⟨"com/example/accumulus/accumulus/terms/FixedOption", "withLabel", "(Ljava/lang/String;)Lcom/example/accumulus/accumulus/terms/FixedOption;"⟩ : MethodName) prog_68_method_4_code 5 (some (.object "com/example/accumulus/accumulus/terms/FixedOption")) ws ({ frames := 2, cells := 1, slots := 1, locals := 25 } : Room) #[(.ref x)] h0 (Q_rm_wlU Z va kv kf lb_ lt lk G1 x h0) := by
  refine Ctr.intro (Ls := fun _ => #[.val (.ref x), .unset, .unset, .unset, .unset]) (plainFor_of_name pn16) (fun m => by first | rfl | (simp [entryFrame, mkF, argsToLocals, Value.category]; done)) ?_
  intro p e s m below meth c s₁ hx hby hml hr hlk hZ hown hnm hs0 X0 e0
  have w : ∀ (k : Nat) (d : Jvm.Cond), tables_1[k]? = some d → d.before a0 Z = true := fun k d q => hw d (List.mem_of_getElem? q)
  have N0 := Fk.nil h0.size []
  refine Wk.callS X0 hx hZ hown (w 61 _ rfl) (w 62 _ rfl) (w 59 _ rfl) (w 63 _ rfl) (by decide) (as' := []) (backOf (W := 0) (rm_vals l Z a0 hw [] va kv kf h0 O0 sV pA pE) hZ (w 63 _ rfl) (w 59 _ rfl) (by decide) (by decide)) e0 (by rw [hml]; rfl) (rest := []) (lenOf pd17 rfl) rfl (Nat.le_of_eq rfl) (hb hby d12_0) rfl (by decide) (by decide) ?_
  intro T1 h1 v1 L1 X1 e1 hQ1
  obtain ⟨x1, rfl, Nq1, K1, q1_0, q1_1⟩ := hQ1
  have N1 := Fk.app N0 Nq1 (Nat.le_refl _) all0
  have O2 : Old Z Z.heap.size h1 := O0.keep K1 all0
  show Wp p e below _ _ T1 (mkF m 3 #[.val (.ref x), .unset, .unset, .unset, .unset] [(.ref x1)])
  refine Wk.astoreN X1 hx (Ls' := #[.val (.ref x), .val (.ref x1), .unset, .unset, .unset]) (hb hby d12_3) rfl rfl rfl ?_
  refine Wk.aloadN X1 hx (hb hby d12_4) rfl rfl rfl ?_
  refine Wk.arraylength X1 hx hZ e1 q1_1 (hb hby d12_5) rfl ?_
  refine Wk.istoreN X1 hx (Ls' := #[.val (.ref x), .val (.ref x1), .val (.int (1 : Int32)), .unset, .unset]) (hb hby d12_6) rfl rfl ?_
  refine Wk.iconst X1 hx (v := (0 : Int32)) (hb hby d12_7) rfl rfl ?_
  refine Wk.istoreN X1 hx (Ls' := #[.val (.ref x), .val (.ref x1), .val (.int (1 : Int32)), .val (.int (0 : Int32)), .unset]) (hb hby d12_8) rfl rfl ?_
  refine Wk.iloadN X1 hx (hb hby d12_9) rfl rfl ?_
  refine Wk.iloadN X1 hx (hb hby d12_10) rfl rfl ?_
  refine Wk.icmpNo X1 hx (hb hby d12_11) rfl (tlt (by decide : (0 : Int32) < (1 : Int32))).2.1 ?_
  refine Wk.aloadN X1 hx (hb hby d12_14) rfl rfl rfl ?_
  refine Wk.iloadN X1 hx (hb hby d12_15) rfl rfl ?_
  refine Wk.aaload X1 hx hZ e1 (C := (.object "com/example/accumulus/accumulus/terms/FixedOption")) q1_1 (by decide) (by decide) (v := (.ref kf)) rfl rfl (hb hby d12_16) rfl ?_
  refine Wk.astore X1 hx (Ls' := #[.val (.ref x), .val (.ref x1), .val (.int (1 : Int32)), .val (.int (0 : Int32)), .val (.ref kf)]) (hb hby d12_17) rfl rfl rfl ?_
  refine Wk.aload X1 hx (hb hby d12_19) rfl rfl rfl ?_
  have KK3 : Keep h0 h1 [] := ((Keep.refl h0 []).trans K1 all0)
  have f4 : Fld Z h1 kf "com/example/accumulus/accumulus/terms/FixedOption" "label" "Ljava/lang/String;" (.ref lb_) := (pF.keep KK3 nin0)
  refine Wk.getfield X1 hx hZ hown (host := "") (Or.inl (w 77 _ rfl)) Via.refl e1 f4 (hb hby d12_21) rfl ?_
  intro T5 X5 e5
  refine Wk.aloadN X5 hx (hb hby d12_24) rfl rfl rfl ?_
  have f6 : Exa Z h1 lb_ "java/lang/String" := (pl0_.keep KK3)
  have f7 : Fld Z h1 lb_ "java/lang/String" "coder" "B" (.int (0 : Int32)) := (pl1_.keep KK3 nin0)
  have f8 : Fld Z h1 lb_ "java/lang/String" "value" "[B" (.ref lt) := (pl2_.keep KK3 nin0)
  have f9 := (pl3_.keep KK3 nin0)
  have f10 : Exa Z h1 x "java/lang/String" := (ps0_.keep KK3)
  have f11 : Fld Z h1 x "java/lang/String" "coder" "B" (.int (1 : Int32)) := (ps1_.keep KK3 nin0)
  refine Wk.callV X5 hx hZ (y := (⟨"java/lang/String", "equals", "(Ljava/lang/Object;)Z"⟩ : MethodName)) (z := (⟨"java/lang/String", "equals", "(Ljava/lang/Object;)Z"⟩ : MethodName)) hown (w 79 _ rfl) (w 80 _ rfl) (notFace_of_selects (args := #[]) (mvT hZ (w 82 _ rfl))) (w 82 _ rfl) (w 81 _ rfl) (by decide) (as' := [(.ref x)]) (backOf (W := 0) (rm_eqU l Z a0 hw [] lb_ lt lk G1 x h1 O2 SG1 nG1 f6 f7 f8 f9 f10 f11 hne) hZ (w 83 _ rfl) (w 1 _ rfl) (by decide) (by decide)) e5 f6 (by rw [hml]; rfl) (rest := []) (lenOf pd18 rfl) rfl (Nat.le_of_eq rfl) (hb hby d12_25) rfl (by decide) (by decide) ?_
  intro T12 h12 v12 L12 X12 e12 hQ12
  obtain ⟨rfl, Nq12, K12⟩ := hQ12
  have N12 := Fk.app N1 Nq12 KK3.1 all0
  rw [K12] at e12
  show Wp p e below _ _ T12 (mkF m 28 #[.val (.ref x), .val (.ref x1), .val (.int (1 : Int32)), .val (.int (0 : Int32)), .val (.ref kf)] [(.int (0 : Int32))])
  refine Wk.ifYes X12 hx (hb hby d12_28) (by decide) (q := 34) rfl ((if0 _ _).trans (teq (by decide : (0 : Int32) = (0 : Int32))).1) ?_
  refine Wk.iinc X12 hx (Ls' := #[.val (.ref x), .val (.ref x1), .val (.int (1 : Int32)), .val (.int (1 : Int32)), .val (.ref kf)]) (hb hby d12_34) rfl rfl rfl ?_
  refine Wk.goto X12 hx (hb hby d12_37) (by decide) (q := 9) rfl ?_
  refine Wk.iloadN X12 hx (hb hby d12_9) rfl rfl ?_
  refine Wk.iloadN X12 hx (hb hby d12_10) rfl rfl ?_
  refine Wk.icmpYes X12 hx (hb hby d12_11) (by decide) (q := 40) rfl (flt (by decide : ¬ ((1 : Int32) < (1 : Int32)))).2.1 ?_
  refine Wk.aconstNull X12 hx (hb hby d12_40) rfl ?_
  exact Wk.retA' X12 hx hlk hr rfl rfl (hb hby d12_41) (by decide) (by decide) (Qc := Q_rm_wlU Z va kv kf lb_ lt lk G1 x h0) e12 ⟨rfl, N12, KK3⟩
def Q_rm_wl12 (Z : State) (va : Addr) (kv : ClassId) (kf : Addr) (lb_ : Addr) (lt : Addr) (lk : ClassId) (G1 : Int32) (x : Addr) (t : Addr) (kb : ClassId) (us : List Value) (h0 : Heap) (v : Option Value) (h : Heap) (L : List Loc) : Prop := v = some .null ∧ Fk h0.size [] L ∧ Keep h0 h []
set_option maxRecDepth 65536 in
set_option maxHeartbeats 40000000 in
theorem rm_wl12 (l : Launch) (Z : State) (a0 : Array Value) (hw : ∀ d ∈ tables_1, d.before a0 Z = true) (ws : List Jvm.Cond) (va : Addr) (kv : ClassId) (kf : Addr) (lb_ : Addr) (lt : Addr) (lk : ClassId) (G1 : Int32) (x : Addr) (t : Addr) (kb : ClassId) (us : List Value) (h0 : Heap) (O0 : Old Z Z.heap.size h0) (SG1 : Sta Z Z.heap "java/lang/String" "COMPACT_STRINGS" "Z" (.int G1)) (nG1 : ¬ G1 = 0) (sV : Sta Z Z.heap "com/example/accumulus/accumulus/terms/FixedOption" "$VALUES" "[Lcom/example/accumulus/accumulus/terms/FixedOption;" (.ref va)) (pA : Arv Z h0 va kv (.object "com/example/accumulus/accumulus/terms/FixedOption") (1 : Int32) [(.ref kf)] .null) (pE : Exa Z h0 va "[Lcom/example/accumulus/accumulus/terms/FixedOption;") (pF : Fld Z h0 kf "com/example/accumulus/accumulus/terms/FixedOption" "label" "Ljava/lang/String;" (.ref lb_)) (pl0_ : Exa Z h0 lb_ "java/lang/String") (pl1_ : Fld Z h0 lb_ "java/lang/String" "coder" "B" (.int (0 : Int32))) (pl2_ : Fld Z h0 lb_ "java/lang/String" "value" "[B" (.ref lt)) (pl3_ : Arv Z h0 lt lk .byte (13 : Int32) [(.int (102 : Int32)), (.int (105 : Int32)), (.int (120 : Int32)), (.int (101 : Int32)), (.int (100 : Int32)), (.int (45 : Int32)), (.int (112 : Int32)), (.int (108 : Int32)), (.int (117 : Int32)), (.int (115 : Int32)), (.int (45 : Int32)), (.int (105 : Int32)), (.int (105 : Int32))] (.int (0 : Int32))) (ps0_ : Exa Z h0 x "java/lang/String") (ps1_ : Fld Z h0 x "java/lang/String" "coder" "B" (.int (0 : Int32))) (ps2_ : Fld Z h0 x "java/lang/String" "value" "[B" (.ref t)) (ps3_ : Arv Z h0 t kb .byte (12 : Int32) us (.int (0 : Int32))) (hne : lb_ ≠ x) :
    Ctr l Z (⟨"com/example/accumulus/accumulus/terms/FixedOption", "withLabel", "(Ljava/lang/String;)Lcom/example/accumulus/accumulus/terms/FixedOption;"⟩ : MethodName) prog_68_method_4_code 5 (some (.object "com/example/accumulus/accumulus/terms/FixedOption")) ws ({ frames := 2, cells := 1, slots := 1, locals := 28 } : Room) #[(.ref x)] h0 (Q_rm_wl12 Z va kv kf lb_ lt lk G1 x t kb us h0) := by
  refine Ctr.intro (Ls := fun _ => #[.val (.ref x), .unset, .unset, .unset, .unset]) (plainFor_of_name pn16) (fun m => by first | rfl | (simp [entryFrame, mkF, argsToLocals, Value.category]; done)) ?_
  intro p e s m below meth c s₁ hx hby hml hr hlk hZ hown hnm hs0 X0 e0
  have w : ∀ (k : Nat) (d : Jvm.Cond), tables_1[k]? = some d → d.before a0 Z = true := fun k d q => hw d (List.mem_of_getElem? q)
  have N0 := Fk.nil h0.size []
  refine Wk.callS X0 hx hZ hown (w 61 _ rfl) (w 62 _ rfl) (w 59 _ rfl) (w 63 _ rfl) (by decide) (as' := []) (backOf (W := 0) (rm_vals l Z a0 hw [] va kv kf h0 O0 sV pA pE) hZ (w 63 _ rfl) (w 59 _ rfl) (by decide) (by decide)) e0 (by rw [hml]; rfl) (rest := []) (lenOf pd17 rfl) rfl (Nat.le_of_eq rfl) (hb hby d12_0) rfl (by decide) (by decide) ?_
  intro T1 h1 v1 L1 X1 e1 hQ1
  obtain ⟨x1, rfl, Nq1, K1, q1_0, q1_1⟩ := hQ1
  have N1 := Fk.app N0 Nq1 (Nat.le_refl _) all0
  have O2 : Old Z Z.heap.size h1 := O0.keep K1 all0
  show Wp p e below _ _ T1 (mkF m 3 #[.val (.ref x), .unset, .unset, .unset, .unset] [(.ref x1)])
  refine Wk.astoreN X1 hx (Ls' := #[.val (.ref x), .val (.ref x1), .unset, .unset, .unset]) (hb hby d12_3) rfl rfl rfl ?_
  refine Wk.aloadN X1 hx (hb hby d12_4) rfl rfl rfl ?_
  refine Wk.arraylength X1 hx hZ e1 q1_1 (hb hby d12_5) rfl ?_
  refine Wk.istoreN X1 hx (Ls' := #[.val (.ref x), .val (.ref x1), .val (.int (1 : Int32)), .unset, .unset]) (hb hby d12_6) rfl rfl ?_
  refine Wk.iconst X1 hx (v := (0 : Int32)) (hb hby d12_7) rfl rfl ?_
  refine Wk.istoreN X1 hx (Ls' := #[.val (.ref x), .val (.ref x1), .val (.int (1 : Int32)), .val (.int (0 : Int32)), .unset]) (hb hby d12_8) rfl rfl ?_
  refine Wk.iloadN X1 hx (hb hby d12_9) rfl rfl ?_
  refine Wk.iloadN X1 hx (hb hby d12_10) rfl rfl ?_
  refine Wk.icmpNo X1 hx (hb hby d12_11) rfl (tlt (by decide : (0 : Int32) < (1 : Int32))).2.1 ?_
  refine Wk.aloadN X1 hx (hb hby d12_14) rfl rfl rfl ?_
  refine Wk.iloadN X1 hx (hb hby d12_15) rfl rfl ?_
  refine Wk.aaload X1 hx hZ e1 (C := (.object "com/example/accumulus/accumulus/terms/FixedOption")) q1_1 (by decide) (by decide) (v := (.ref kf)) rfl rfl (hb hby d12_16) rfl ?_
  refine Wk.astore X1 hx (Ls' := #[.val (.ref x), .val (.ref x1), .val (.int (1 : Int32)), .val (.int (0 : Int32)), .val (.ref kf)]) (hb hby d12_17) rfl rfl rfl ?_
  refine Wk.aload X1 hx (hb hby d12_19) rfl rfl rfl ?_
  have KK3 : Keep h0 h1 [] := ((Keep.refl h0 []).trans K1 all0)
  have f4 : Fld Z h1 kf "com/example/accumulus/accumulus/terms/FixedOption" "label" "Ljava/lang/String;" (.ref lb_) := (pF.keep KK3 nin0)
  refine Wk.getfield X1 hx hZ hown (host := "") (Or.inl (w 77 _ rfl)) Via.refl e1 f4 (hb hby d12_21) rfl ?_
  intro T5 X5 e5
  refine Wk.aloadN X5 hx (hb hby d12_24) rfl rfl rfl ?_
  have f6 : Exa Z h1 lb_ "java/lang/String" := (pl0_.keep KK3)
  have f7 : Fld Z h1 lb_ "java/lang/String" "coder" "B" (.int (0 : Int32)) := (pl1_.keep KK3 nin0)
  have f8 : Fld Z h1 lb_ "java/lang/String" "value" "[B" (.ref lt) := (pl2_.keep KK3 nin0)
  have f9 := (pl3_.keep KK3 nin0)
  have f10 : Exa Z h1 x "java/lang/String" := (ps0_.keep KK3)
  have f11 : Fld Z h1 x "java/lang/String" "coder" "B" (.int (0 : Int32)) := (ps1_.keep KK3 nin0)
  have f12 : Fld Z h1 x "java/lang/String" "value" "[B" (.ref t) := (ps2_.keep KK3 nin0)
  have f13 := (ps3_.keep KK3 nin0)
  refine Wk.callV X5 hx hZ (y := (⟨"java/lang/String", "equals", "(Ljava/lang/Object;)Z"⟩ : MethodName)) (z := (⟨"java/lang/String", "equals", "(Ljava/lang/Object;)Z"⟩ : MethodName)) hown (w 79 _ rfl) (w 80 _ rfl) (notFace_of_selects (args := #[]) (mvT hZ (w 82 _ rfl))) (w 82 _ rfl) (w 81 _ rfl) (by decide) (as' := [(.ref x)]) (backOf (W := 0) (rm_eq12 l Z a0 hw [] lb_ lt lk G1 x t kb us h1 O2 SG1 nG1 f6 f7 f8 f9 f10 f11 f12 f13 hne) hZ (w 83 _ rfl) (w 1 _ rfl) (by decide) (by decide)) e5 f6 (by rw [hml]; rfl) (rest := []) (lenOf pd18 rfl) rfl (Nat.le_of_eq rfl) (hb hby d12_25) rfl (by decide) (by decide) ?_
  intro T14 h14 v14 L14 X14 e14 hQ14
  obtain ⟨rfl, Nq14, K14⟩ := hQ14
  have N14 := Fk.app N1 Nq14 KK3.1 all0
  rw [K14] at e14
  show Wp p e below _ _ T14 (mkF m 28 #[.val (.ref x), .val (.ref x1), .val (.int (1 : Int32)), .val (.int (0 : Int32)), .val (.ref kf)] [(.int (0 : Int32))])
  refine Wk.ifYes X14 hx (hb hby d12_28) (by decide) (q := 34) rfl ((if0 _ _).trans (teq (by decide : (0 : Int32) = (0 : Int32))).1) ?_
  refine Wk.iinc X14 hx (Ls' := #[.val (.ref x), .val (.ref x1), .val (.int (1 : Int32)), .val (.int (1 : Int32)), .val (.ref kf)]) (hb hby d12_34) rfl rfl rfl ?_
  refine Wk.goto X14 hx (hb hby d12_37) (by decide) (q := 9) rfl ?_
  refine Wk.iloadN X14 hx (hb hby d12_9) rfl rfl ?_
  refine Wk.iloadN X14 hx (hb hby d12_10) rfl rfl ?_
  refine Wk.icmpYes X14 hx (hb hby d12_11) (by decide) (q := 40) rfl (flt (by decide : ¬ ((1 : Int32) < (1 : Int32)))).2.1 ?_
  refine Wk.aconstNull X14 hx (hb hby d12_40) rfl ?_
  exact Wk.retA' X14 hx hlk hr rfl rfl (hb hby d12_41) (by decide) (by decide) (Qc := Q_rm_wl12 Z va kv kf lb_ lt lk G1 x t kb us h0) e14 ⟨rfl, N14, KK3⟩
def Q_rm_wl14 (Z : State) (va : Addr) (kv : ClassId) (kf : Addr) (lb_ : Addr) (lt : Addr) (lk : ClassId) (G1 : Int32) (x : Addr) (t : Addr) (kb : ClassId) (us : List Value) (h0 : Heap) (v : Option Value) (h : Heap) (L : List Loc) : Prop := v = some .null ∧ Fk h0.size [] L ∧ Keep h0 h []
set_option maxRecDepth 65536 in
set_option maxHeartbeats 40000000 in
theorem rm_wl14 (l : Launch) (Z : State) (a0 : Array Value) (hw : ∀ d ∈ tables_1, d.before a0 Z = true) (ws : List Jvm.Cond) (va : Addr) (kv : ClassId) (kf : Addr) (lb_ : Addr) (lt : Addr) (lk : ClassId) (G1 : Int32) (x : Addr) (t : Addr) (kb : ClassId) (us : List Value) (h0 : Heap) (O0 : Old Z Z.heap.size h0) (SG1 : Sta Z Z.heap "java/lang/String" "COMPACT_STRINGS" "Z" (.int G1)) (nG1 : ¬ G1 = 0) (sV : Sta Z Z.heap "com/example/accumulus/accumulus/terms/FixedOption" "$VALUES" "[Lcom/example/accumulus/accumulus/terms/FixedOption;" (.ref va)) (pA : Arv Z h0 va kv (.object "com/example/accumulus/accumulus/terms/FixedOption") (1 : Int32) [(.ref kf)] .null) (pE : Exa Z h0 va "[Lcom/example/accumulus/accumulus/terms/FixedOption;") (pF : Fld Z h0 kf "com/example/accumulus/accumulus/terms/FixedOption" "label" "Ljava/lang/String;" (.ref lb_)) (pl0_ : Exa Z h0 lb_ "java/lang/String") (pl1_ : Fld Z h0 lb_ "java/lang/String" "coder" "B" (.int (0 : Int32))) (pl2_ : Fld Z h0 lb_ "java/lang/String" "value" "[B" (.ref lt)) (pl3_ : Arv Z h0 lt lk .byte (13 : Int32) [(.int (102 : Int32)), (.int (105 : Int32)), (.int (120 : Int32)), (.int (101 : Int32)), (.int (100 : Int32)), (.int (45 : Int32)), (.int (112 : Int32)), (.int (108 : Int32)), (.int (117 : Int32)), (.int (115 : Int32)), (.int (45 : Int32)), (.int (105 : Int32)), (.int (105 : Int32))] (.int (0 : Int32))) (ps0_ : Exa Z h0 x "java/lang/String") (ps1_ : Fld Z h0 x "java/lang/String" "coder" "B" (.int (0 : Int32))) (ps2_ : Fld Z h0 x "java/lang/String" "value" "[B" (.ref t)) (ps3_ : Arv Z h0 t kb .byte (14 : Int32) us (.int (0 : Int32))) (hne : lb_ ≠ x) :
    Ctr l Z (⟨"com/example/accumulus/accumulus/terms/FixedOption", "withLabel", "(Ljava/lang/String;)Lcom/example/accumulus/accumulus/terms/FixedOption;"⟩ : MethodName) prog_68_method_4_code 5 (some (.object "com/example/accumulus/accumulus/terms/FixedOption")) ws ({ frames := 2, cells := 1, slots := 1, locals := 28 } : Room) #[(.ref x)] h0 (Q_rm_wl14 Z va kv kf lb_ lt lk G1 x t kb us h0) := by
  refine Ctr.intro (Ls := fun _ => #[.val (.ref x), .unset, .unset, .unset, .unset]) (plainFor_of_name pn16) (fun m => by first | rfl | (simp [entryFrame, mkF, argsToLocals, Value.category]; done)) ?_
  intro p e s m below meth c s₁ hx hby hml hr hlk hZ hown hnm hs0 X0 e0
  have w : ∀ (k : Nat) (d : Jvm.Cond), tables_1[k]? = some d → d.before a0 Z = true := fun k d q => hw d (List.mem_of_getElem? q)
  have N0 := Fk.nil h0.size []
  refine Wk.callS X0 hx hZ hown (w 61 _ rfl) (w 62 _ rfl) (w 59 _ rfl) (w 63 _ rfl) (by decide) (as' := []) (backOf (W := 0) (rm_vals l Z a0 hw [] va kv kf h0 O0 sV pA pE) hZ (w 63 _ rfl) (w 59 _ rfl) (by decide) (by decide)) e0 (by rw [hml]; rfl) (rest := []) (lenOf pd17 rfl) rfl (Nat.le_of_eq rfl) (hb hby d12_0) rfl (by decide) (by decide) ?_
  intro T1 h1 v1 L1 X1 e1 hQ1
  obtain ⟨x1, rfl, Nq1, K1, q1_0, q1_1⟩ := hQ1
  have N1 := Fk.app N0 Nq1 (Nat.le_refl _) all0
  have O2 : Old Z Z.heap.size h1 := O0.keep K1 all0
  show Wp p e below _ _ T1 (mkF m 3 #[.val (.ref x), .unset, .unset, .unset, .unset] [(.ref x1)])
  refine Wk.astoreN X1 hx (Ls' := #[.val (.ref x), .val (.ref x1), .unset, .unset, .unset]) (hb hby d12_3) rfl rfl rfl ?_
  refine Wk.aloadN X1 hx (hb hby d12_4) rfl rfl rfl ?_
  refine Wk.arraylength X1 hx hZ e1 q1_1 (hb hby d12_5) rfl ?_
  refine Wk.istoreN X1 hx (Ls' := #[.val (.ref x), .val (.ref x1), .val (.int (1 : Int32)), .unset, .unset]) (hb hby d12_6) rfl rfl ?_
  refine Wk.iconst X1 hx (v := (0 : Int32)) (hb hby d12_7) rfl rfl ?_
  refine Wk.istoreN X1 hx (Ls' := #[.val (.ref x), .val (.ref x1), .val (.int (1 : Int32)), .val (.int (0 : Int32)), .unset]) (hb hby d12_8) rfl rfl ?_
  refine Wk.iloadN X1 hx (hb hby d12_9) rfl rfl ?_
  refine Wk.iloadN X1 hx (hb hby d12_10) rfl rfl ?_
  refine Wk.icmpNo X1 hx (hb hby d12_11) rfl (tlt (by decide : (0 : Int32) < (1 : Int32))).2.1 ?_
  refine Wk.aloadN X1 hx (hb hby d12_14) rfl rfl rfl ?_
  refine Wk.iloadN X1 hx (hb hby d12_15) rfl rfl ?_
  refine Wk.aaload X1 hx hZ e1 (C := (.object "com/example/accumulus/accumulus/terms/FixedOption")) q1_1 (by decide) (by decide) (v := (.ref kf)) rfl rfl (hb hby d12_16) rfl ?_
  refine Wk.astore X1 hx (Ls' := #[.val (.ref x), .val (.ref x1), .val (.int (1 : Int32)), .val (.int (0 : Int32)), .val (.ref kf)]) (hb hby d12_17) rfl rfl rfl ?_
  refine Wk.aload X1 hx (hb hby d12_19) rfl rfl rfl ?_
  have KK3 : Keep h0 h1 [] := ((Keep.refl h0 []).trans K1 all0)
  have f4 : Fld Z h1 kf "com/example/accumulus/accumulus/terms/FixedOption" "label" "Ljava/lang/String;" (.ref lb_) := (pF.keep KK3 nin0)
  refine Wk.getfield X1 hx hZ hown (host := "") (Or.inl (w 77 _ rfl)) Via.refl e1 f4 (hb hby d12_21) rfl ?_
  intro T5 X5 e5
  refine Wk.aloadN X5 hx (hb hby d12_24) rfl rfl rfl ?_
  have f6 : Exa Z h1 lb_ "java/lang/String" := (pl0_.keep KK3)
  have f7 : Fld Z h1 lb_ "java/lang/String" "coder" "B" (.int (0 : Int32)) := (pl1_.keep KK3 nin0)
  have f8 : Fld Z h1 lb_ "java/lang/String" "value" "[B" (.ref lt) := (pl2_.keep KK3 nin0)
  have f9 := (pl3_.keep KK3 nin0)
  have f10 : Exa Z h1 x "java/lang/String" := (ps0_.keep KK3)
  have f11 : Fld Z h1 x "java/lang/String" "coder" "B" (.int (0 : Int32)) := (ps1_.keep KK3 nin0)
  have f12 : Fld Z h1 x "java/lang/String" "value" "[B" (.ref t) := (ps2_.keep KK3 nin0)
  have f13 := (ps3_.keep KK3 nin0)
  refine Wk.callV X5 hx hZ (y := (⟨"java/lang/String", "equals", "(Ljava/lang/Object;)Z"⟩ : MethodName)) (z := (⟨"java/lang/String", "equals", "(Ljava/lang/Object;)Z"⟩ : MethodName)) hown (w 79 _ rfl) (w 80 _ rfl) (notFace_of_selects (args := #[]) (mvT hZ (w 82 _ rfl))) (w 82 _ rfl) (w 81 _ rfl) (by decide) (as' := [(.ref x)]) (backOf (W := 0) (rm_eq14 l Z a0 hw [] lb_ lt lk G1 x t kb us h1 O2 SG1 nG1 f6 f7 f8 f9 f10 f11 f12 f13 hne) hZ (w 83 _ rfl) (w 1 _ rfl) (by decide) (by decide)) e5 f6 (by rw [hml]; rfl) (rest := []) (lenOf pd18 rfl) rfl (Nat.le_of_eq rfl) (hb hby d12_25) rfl (by decide) (by decide) ?_
  intro T14 h14 v14 L14 X14 e14 hQ14
  obtain ⟨rfl, Nq14, K14⟩ := hQ14
  have N14 := Fk.app N1 Nq14 KK3.1 all0
  rw [K14] at e14
  show Wp p e below _ _ T14 (mkF m 28 #[.val (.ref x), .val (.ref x1), .val (.int (1 : Int32)), .val (.int (0 : Int32)), .val (.ref kf)] [(.int (0 : Int32))])
  refine Wk.ifYes X14 hx (hb hby d12_28) (by decide) (q := 34) rfl ((if0 _ _).trans (teq (by decide : (0 : Int32) = (0 : Int32))).1) ?_
  refine Wk.iinc X14 hx (Ls' := #[.val (.ref x), .val (.ref x1), .val (.int (1 : Int32)), .val (.int (1 : Int32)), .val (.ref kf)]) (hb hby d12_34) rfl rfl rfl ?_
  refine Wk.goto X14 hx (hb hby d12_37) (by decide) (q := 9) rfl ?_
  refine Wk.iloadN X14 hx (hb hby d12_9) rfl rfl ?_
  refine Wk.iloadN X14 hx (hb hby d12_10) rfl rfl ?_
  refine Wk.icmpYes X14 hx (hb hby d12_11) (by decide) (q := 40) rfl (flt (by decide : ¬ ((1 : Int32) < (1 : Int32)))).2.1 ?_
  refine Wk.aconstNull X14 hx (hb hby d12_40) rfl ?_
  exact Wk.retA' X14 hx hlk hr rfl rfl (hb hby d12_41) (by decide) (by decide) (Qc := Q_rm_wl14 Z va kv kf lb_ lt lk G1 x t kb us h0) e14 ⟨rfl, N14, KK3⟩
theorem d12_31 : decode prog_68_method_4_code 31 = .ok (.aload 4, 2) := by decide +kernel
theorem d12_33 : decode prog_68_method_4_code 33 = .ok (.areturn, 1) := by decide +kernel
def Q_rm_wlE (Z : State) (va : Addr) (kv : ClassId) (kf : Addr) (lb_ : Addr) (lt : Addr) (lk : ClassId) (G1 : Int32) (x : Addr) (t : Addr) (kb : ClassId) (u0 : Int32) (u1 : Int32) (u2 : Int32) (u3 : Int32) (u4 : Int32) (u5 : Int32) (u6 : Int32) (u7 : Int32) (u8 : Int32) (u9 : Int32) (u10 : Int32) (u11 : Int32) (u12 : Int32) (h0 : Heap) (v : Option Value) (h : Heap) (L : List Loc) : Prop := v = some (.ref kf) ∧ Fk h0.size [] L ∧ Keep h0 h []
set_option maxRecDepth 65536 in
set_option maxHeartbeats 40000000 in
theorem rm_wlE (l : Launch) (Z : State) (a0 : Array Value) (hw : ∀ d ∈ tables_1, d.before a0 Z = true) (ws : List Jvm.Cond) (va : Addr) (kv : ClassId) (kf : Addr) (lb_ : Addr) (lt : Addr) (lk : ClassId) (G1 : Int32) (x : Addr) (t : Addr) (kb : ClassId) (u0 : Int32) (u1 : Int32) (u2 : Int32) (u3 : Int32) (u4 : Int32) (u5 : Int32) (u6 : Int32) (u7 : Int32) (u8 : Int32) (u9 : Int32) (u10 : Int32) (u11 : Int32) (u12 : Int32) (h0 : Heap) (O0 : Old Z Z.heap.size h0) (SG1 : Sta Z Z.heap "java/lang/String" "COMPACT_STRINGS" "Z" (.int G1)) (nG1 : ¬ G1 = 0) (sV : Sta Z Z.heap "com/example/accumulus/accumulus/terms/FixedOption" "$VALUES" "[Lcom/example/accumulus/accumulus/terms/FixedOption;" (.ref va)) (pA : Arv Z h0 va kv (.object "com/example/accumulus/accumulus/terms/FixedOption") (1 : Int32) [(.ref kf)] .null) (pE : Exa Z h0 va "[Lcom/example/accumulus/accumulus/terms/FixedOption;") (pF : Fld Z h0 kf "com/example/accumulus/accumulus/terms/FixedOption" "label" "Ljava/lang/String;" (.ref lb_)) (pl0_ : Exa Z h0 lb_ "java/lang/String") (pl1_ : Fld Z h0 lb_ "java/lang/String" "coder" "B" (.int (0 : Int32))) (pl2_ : Fld Z h0 lb_ "java/lang/String" "value" "[B" (.ref lt)) (pl3_ : Arv Z h0 lt lk .byte (13 : Int32) [(.int (102 : Int32)), (.int (105 : Int32)), (.int (120 : Int32)), (.int (101 : Int32)), (.int (100 : Int32)), (.int (45 : Int32)), (.int (112 : Int32)), (.int (108 : Int32)), (.int (117 : Int32)), (.int (115 : Int32)), (.int (45 : Int32)), (.int (105 : Int32)), (.int (105 : Int32))] (.int (0 : Int32))) (ps0_ : Exa Z h0 x "java/lang/String") (ps1_ : Fld Z h0 x "java/lang/String" "coder" "B" (.int (0 : Int32))) (ps2_ : Fld Z h0 x "java/lang/String" "value" "[B" (.ref t)) (ps3_ : Arv Z h0 t kb .byte (13 : Int32) [(.int u0), (.int u1), (.int u2), (.int u3), (.int u4), (.int u5), (.int u6), (.int u7), (.int u8), (.int u9), (.int u10), (.int u11), (.int u12)] (.int (0 : Int32))) (hne : lb_ ≠ x) (hu0 : u0 = (102 : Int32)) (hu1 : u1 = (105 : Int32)) (hu2 : u2 = (120 : Int32)) (hu3 : u3 = (101 : Int32)) (hu4 : u4 = (100 : Int32)) (hu5 : u5 = (45 : Int32)) (hu6 : u6 = (112 : Int32)) (hu7 : u7 = (108 : Int32)) (hu8 : u8 = (117 : Int32)) (hu9 : u9 = (115 : Int32)) (hu10 : u10 = (45 : Int32)) (hu11 : u11 = (105 : Int32)) (hu12 : u12 = (105 : Int32)) :
    Ctr l Z (⟨"com/example/accumulus/accumulus/terms/FixedOption", "withLabel", "(Ljava/lang/String;)Lcom/example/accumulus/accumulus/terms/FixedOption;"⟩ : MethodName) prog_68_method_4_code 5 (some (.object "com/example/accumulus/accumulus/terms/FixedOption")) ws ({ frames := 2, cells := 1, slots := 1, locals := 28 } : Room) #[(.ref x)] h0 (Q_rm_wlE Z va kv kf lb_ lt lk G1 x t kb u0 u1 u2 u3 u4 u5 u6 u7 u8 u9 u10 u11 u12 h0) := by
  refine Ctr.intro (Ls := fun _ => #[.val (.ref x), .unset, .unset, .unset, .unset]) (plainFor_of_name pn16) (fun m => by first | rfl | (simp [entryFrame, mkF, argsToLocals, Value.category]; done)) ?_
  intro p e s m below meth c s₁ hx hby hml hr hlk hZ hown hnm hs0 X0 e0
  have w : ∀ (k : Nat) (d : Jvm.Cond), tables_1[k]? = some d → d.before a0 Z = true := fun k d q => hw d (List.mem_of_getElem? q)
  have N0 := Fk.nil h0.size []
  refine Wk.callS X0 hx hZ hown (w 61 _ rfl) (w 62 _ rfl) (w 59 _ rfl) (w 63 _ rfl) (by decide) (as' := []) (backOf (W := 0) (rm_vals l Z a0 hw [] va kv kf h0 O0 sV pA pE) hZ (w 63 _ rfl) (w 59 _ rfl) (by decide) (by decide)) e0 (by rw [hml]; rfl) (rest := []) (lenOf pd17 rfl) rfl (Nat.le_of_eq rfl) (hb hby d12_0) rfl (by decide) (by decide) ?_
  intro T1 h1 v1 L1 X1 e1 hQ1
  obtain ⟨x1, rfl, Nq1, K1, q1_0, q1_1⟩ := hQ1
  have N1 := Fk.app N0 Nq1 (Nat.le_refl _) all0
  have O2 : Old Z Z.heap.size h1 := O0.keep K1 all0
  show Wp p e below _ _ T1 (mkF m 3 #[.val (.ref x), .unset, .unset, .unset, .unset] [(.ref x1)])
  refine Wk.astoreN X1 hx (Ls' := #[.val (.ref x), .val (.ref x1), .unset, .unset, .unset]) (hb hby d12_3) rfl rfl rfl ?_
  refine Wk.aloadN X1 hx (hb hby d12_4) rfl rfl rfl ?_
  refine Wk.arraylength X1 hx hZ e1 q1_1 (hb hby d12_5) rfl ?_
  refine Wk.istoreN X1 hx (Ls' := #[.val (.ref x), .val (.ref x1), .val (.int (1 : Int32)), .unset, .unset]) (hb hby d12_6) rfl rfl ?_
  refine Wk.iconst X1 hx (v := (0 : Int32)) (hb hby d12_7) rfl rfl ?_
  refine Wk.istoreN X1 hx (Ls' := #[.val (.ref x), .val (.ref x1), .val (.int (1 : Int32)), .val (.int (0 : Int32)), .unset]) (hb hby d12_8) rfl rfl ?_
  refine Wk.iloadN X1 hx (hb hby d12_9) rfl rfl ?_
  refine Wk.iloadN X1 hx (hb hby d12_10) rfl rfl ?_
  refine Wk.icmpNo X1 hx (hb hby d12_11) rfl (tlt (by decide : (0 : Int32) < (1 : Int32))).2.1 ?_
  refine Wk.aloadN X1 hx (hb hby d12_14) rfl rfl rfl ?_
  refine Wk.iloadN X1 hx (hb hby d12_15) rfl rfl ?_
  refine Wk.aaload X1 hx hZ e1 (C := (.object "com/example/accumulus/accumulus/terms/FixedOption")) q1_1 (by decide) (by decide) (v := (.ref kf)) rfl rfl (hb hby d12_16) rfl ?_
  refine Wk.astore X1 hx (Ls' := #[.val (.ref x), .val (.ref x1), .val (.int (1 : Int32)), .val (.int (0 : Int32)), .val (.ref kf)]) (hb hby d12_17) rfl rfl rfl ?_
  refine Wk.aload X1 hx (hb hby d12_19) rfl rfl rfl ?_
  have KK3 : Keep h0 h1 [] := ((Keep.refl h0 []).trans K1 all0)
  have f4 : Fld Z h1 kf "com/example/accumulus/accumulus/terms/FixedOption" "label" "Ljava/lang/String;" (.ref lb_) := (pF.keep KK3 nin0)
  refine Wk.getfield X1 hx hZ hown (host := "") (Or.inl (w 77 _ rfl)) Via.refl e1 f4 (hb hby d12_21) rfl ?_
  intro T5 X5 e5
  refine Wk.aloadN X5 hx (hb hby d12_24) rfl rfl rfl ?_
  have f6 : Exa Z h1 lb_ "java/lang/String" := (pl0_.keep KK3)
  have f7 : Fld Z h1 lb_ "java/lang/String" "coder" "B" (.int (0 : Int32)) := (pl1_.keep KK3 nin0)
  have f8 : Fld Z h1 lb_ "java/lang/String" "value" "[B" (.ref lt) := (pl2_.keep KK3 nin0)
  have f9 := (pl3_.keep KK3 nin0)
  have f10 : Exa Z h1 x "java/lang/String" := (ps0_.keep KK3)
  have f11 : Fld Z h1 x "java/lang/String" "coder" "B" (.int (0 : Int32)) := (ps1_.keep KK3 nin0)
  have f12 : Fld Z h1 x "java/lang/String" "value" "[B" (.ref t) := (ps2_.keep KK3 nin0)
  have f13 := (ps3_.keep KK3 nin0)
  refine Wk.callV X5 hx hZ (y := (⟨"java/lang/String", "equals", "(Ljava/lang/Object;)Z"⟩ : MethodName)) (z := (⟨"java/lang/String", "equals", "(Ljava/lang/Object;)Z"⟩ : MethodName)) hown (w 79 _ rfl) (w 80 _ rfl) (notFace_of_selects (args := #[]) (mvT hZ (w 82 _ rfl))) (w 82 _ rfl) (w 81 _ rfl) (by decide) (as' := [(.ref x)]) (backOf (W := 0) (rm_eqE l Z a0 hw [] lb_ lt lk G1 x t kb u0 u1 u2 u3 u4 u5 u6 u7 u8 u9 u10 u11 u12 h1 O2 SG1 nG1 f6 f7 f8 f9 f10 f11 f12 f13 hne hu0 hu1 hu2 hu3 hu4 hu5 hu6 hu7 hu8 hu9 hu10 hu11 hu12) hZ (w 83 _ rfl) (w 1 _ rfl) (by decide) (by decide)) e5 f6 (by rw [hml]; rfl) (rest := []) (lenOf pd18 rfl) rfl (Nat.le_of_eq rfl) (hb hby d12_25) rfl (by decide) (by decide) ?_
  intro T14 h14 v14 L14 X14 e14 hQ14
  obtain ⟨rfl, Nq14, K14⟩ := hQ14
  have N14 := Fk.app N1 Nq14 KK3.1 all0
  rw [K14] at e14
  show Wp p e below _ _ T14 (mkF m 28 #[.val (.ref x), .val (.ref x1), .val (.int (1 : Int32)), .val (.int (0 : Int32)), .val (.ref kf)] [(.int (1 : Int32))])
  refine Wk.ifNo X14 hx (hb hby d12_28) rfl ((if0 _ _).trans (feq (by decide : ¬ ((1 : Int32) = (0 : Int32)))).1) ?_
  refine Wk.aload X14 hx (hb hby d12_31) rfl rfl rfl ?_
  exact Wk.retA' X14 hx hlk hr rfl rfl (hb hby d12_33) (by decide) (by decide) (Qc := Q_rm_wlE Z va kv kf lb_ lt lk G1 x t kb u0 u1 u2 u3 u4 u5 u6 u7 u8 u9 u10 u11 u12 h0) e14 ⟨rfl, N14, KK3⟩
def Q_rm_wlD (Z : State) (va : Addr) (kv : ClassId) (kf : Addr) (lb_ : Addr) (lt : Addr) (lk : ClassId) (G1 : Int32) (x : Addr) (t : Addr) (kb : ClassId) (u0 : Int32) (u1 : Int32) (u2 : Int32) (u3 : Int32) (u4 : Int32) (u5 : Int32) (u6 : Int32) (u7 : Int32) (u8 : Int32) (u9 : Int32) (u10 : Int32) (u11 : Int32) (u12 : Int32) (h0 : Heap) (v : Option Value) (h : Heap) (L : List Loc) : Prop := v = some .null ∧ Fk h0.size [] L ∧ Keep h0 h []
set_option maxRecDepth 65536 in
set_option maxHeartbeats 40000000 in
theorem rm_wlD (l : Launch) (Z : State) (a0 : Array Value) (hw : ∀ d ∈ tables_1, d.before a0 Z = true) (ws : List Jvm.Cond) (va : Addr) (kv : ClassId) (kf : Addr) (lb_ : Addr) (lt : Addr) (lk : ClassId) (G1 : Int32) (x : Addr) (t : Addr) (kb : ClassId) (u0 : Int32) (u1 : Int32) (u2 : Int32) (u3 : Int32) (u4 : Int32) (u5 : Int32) (u6 : Int32) (u7 : Int32) (u8 : Int32) (u9 : Int32) (u10 : Int32) (u11 : Int32) (u12 : Int32) (h0 : Heap) (O0 : Old Z Z.heap.size h0) (SG1 : Sta Z Z.heap "java/lang/String" "COMPACT_STRINGS" "Z" (.int G1)) (nG1 : ¬ G1 = 0) (sV : Sta Z Z.heap "com/example/accumulus/accumulus/terms/FixedOption" "$VALUES" "[Lcom/example/accumulus/accumulus/terms/FixedOption;" (.ref va)) (pA : Arv Z h0 va kv (.object "com/example/accumulus/accumulus/terms/FixedOption") (1 : Int32) [(.ref kf)] .null) (pE : Exa Z h0 va "[Lcom/example/accumulus/accumulus/terms/FixedOption;") (pF : Fld Z h0 kf "com/example/accumulus/accumulus/terms/FixedOption" "label" "Ljava/lang/String;" (.ref lb_)) (pl0_ : Exa Z h0 lb_ "java/lang/String") (pl1_ : Fld Z h0 lb_ "java/lang/String" "coder" "B" (.int (0 : Int32))) (pl2_ : Fld Z h0 lb_ "java/lang/String" "value" "[B" (.ref lt)) (pl3_ : Arv Z h0 lt lk .byte (13 : Int32) [(.int (102 : Int32)), (.int (105 : Int32)), (.int (120 : Int32)), (.int (101 : Int32)), (.int (100 : Int32)), (.int (45 : Int32)), (.int (112 : Int32)), (.int (108 : Int32)), (.int (117 : Int32)), (.int (115 : Int32)), (.int (45 : Int32)), (.int (105 : Int32)), (.int (105 : Int32))] (.int (0 : Int32))) (ps0_ : Exa Z h0 x "java/lang/String") (ps1_ : Fld Z h0 x "java/lang/String" "coder" "B" (.int (0 : Int32))) (ps2_ : Fld Z h0 x "java/lang/String" "value" "[B" (.ref t)) (ps3_ : Arv Z h0 t kb .byte (13 : Int32) [(.int u0), (.int u1), (.int u2), (.int u3), (.int u4), (.int u5), (.int u6), (.int u7), (.int u8), (.int u9), (.int u10), (.int u11), (.int u12)] (.int (0 : Int32))) (hne : lb_ ≠ x) (hnq : ¬ EqL u0 u1 u2 u3 u4 u5 u6 u7 u8 u9 u10 u11 u12) :
    Ctr l Z (⟨"com/example/accumulus/accumulus/terms/FixedOption", "withLabel", "(Ljava/lang/String;)Lcom/example/accumulus/accumulus/terms/FixedOption;"⟩ : MethodName) prog_68_method_4_code 5 (some (.object "com/example/accumulus/accumulus/terms/FixedOption")) ws ({ frames := 2, cells := 1, slots := 1, locals := 28 } : Room) #[(.ref x)] h0 (Q_rm_wlD Z va kv kf lb_ lt lk G1 x t kb u0 u1 u2 u3 u4 u5 u6 u7 u8 u9 u10 u11 u12 h0) := by
  refine Ctr.intro (Ls := fun _ => #[.val (.ref x), .unset, .unset, .unset, .unset]) (plainFor_of_name pn16) (fun m => by first | rfl | (simp [entryFrame, mkF, argsToLocals, Value.category]; done)) ?_
  intro p e s m below meth c s₁ hx hby hml hr hlk hZ hown hnm hs0 X0 e0
  have w : ∀ (k : Nat) (d : Jvm.Cond), tables_1[k]? = some d → d.before a0 Z = true := fun k d q => hw d (List.mem_of_getElem? q)
  have N0 := Fk.nil h0.size []
  refine Wk.callS X0 hx hZ hown (w 61 _ rfl) (w 62 _ rfl) (w 59 _ rfl) (w 63 _ rfl) (by decide) (as' := []) (backOf (W := 0) (rm_vals l Z a0 hw [] va kv kf h0 O0 sV pA pE) hZ (w 63 _ rfl) (w 59 _ rfl) (by decide) (by decide)) e0 (by rw [hml]; rfl) (rest := []) (lenOf pd17 rfl) rfl (Nat.le_of_eq rfl) (hb hby d12_0) rfl (by decide) (by decide) ?_
  intro T1 h1 v1 L1 X1 e1 hQ1
  obtain ⟨x1, rfl, Nq1, K1, q1_0, q1_1⟩ := hQ1
  have N1 := Fk.app N0 Nq1 (Nat.le_refl _) all0
  have O2 : Old Z Z.heap.size h1 := O0.keep K1 all0
  show Wp p e below _ _ T1 (mkF m 3 #[.val (.ref x), .unset, .unset, .unset, .unset] [(.ref x1)])
  refine Wk.astoreN X1 hx (Ls' := #[.val (.ref x), .val (.ref x1), .unset, .unset, .unset]) (hb hby d12_3) rfl rfl rfl ?_
  refine Wk.aloadN X1 hx (hb hby d12_4) rfl rfl rfl ?_
  refine Wk.arraylength X1 hx hZ e1 q1_1 (hb hby d12_5) rfl ?_
  refine Wk.istoreN X1 hx (Ls' := #[.val (.ref x), .val (.ref x1), .val (.int (1 : Int32)), .unset, .unset]) (hb hby d12_6) rfl rfl ?_
  refine Wk.iconst X1 hx (v := (0 : Int32)) (hb hby d12_7) rfl rfl ?_
  refine Wk.istoreN X1 hx (Ls' := #[.val (.ref x), .val (.ref x1), .val (.int (1 : Int32)), .val (.int (0 : Int32)), .unset]) (hb hby d12_8) rfl rfl ?_
  refine Wk.iloadN X1 hx (hb hby d12_9) rfl rfl ?_
  refine Wk.iloadN X1 hx (hb hby d12_10) rfl rfl ?_
  refine Wk.icmpNo X1 hx (hb hby d12_11) rfl (tlt (by decide : (0 : Int32) < (1 : Int32))).2.1 ?_
  refine Wk.aloadN X1 hx (hb hby d12_14) rfl rfl rfl ?_
  refine Wk.iloadN X1 hx (hb hby d12_15) rfl rfl ?_
  refine Wk.aaload X1 hx hZ e1 (C := (.object "com/example/accumulus/accumulus/terms/FixedOption")) q1_1 (by decide) (by decide) (v := (.ref kf)) rfl rfl (hb hby d12_16) rfl ?_
  refine Wk.astore X1 hx (Ls' := #[.val (.ref x), .val (.ref x1), .val (.int (1 : Int32)), .val (.int (0 : Int32)), .val (.ref kf)]) (hb hby d12_17) rfl rfl rfl ?_
  refine Wk.aload X1 hx (hb hby d12_19) rfl rfl rfl ?_
  have KK3 : Keep h0 h1 [] := ((Keep.refl h0 []).trans K1 all0)
  have f4 : Fld Z h1 kf "com/example/accumulus/accumulus/terms/FixedOption" "label" "Ljava/lang/String;" (.ref lb_) := (pF.keep KK3 nin0)
  refine Wk.getfield X1 hx hZ hown (host := "") (Or.inl (w 77 _ rfl)) Via.refl e1 f4 (hb hby d12_21) rfl ?_
  intro T5 X5 e5
  refine Wk.aloadN X5 hx (hb hby d12_24) rfl rfl rfl ?_
  have f6 : Exa Z h1 lb_ "java/lang/String" := (pl0_.keep KK3)
  have f7 : Fld Z h1 lb_ "java/lang/String" "coder" "B" (.int (0 : Int32)) := (pl1_.keep KK3 nin0)
  have f8 : Fld Z h1 lb_ "java/lang/String" "value" "[B" (.ref lt) := (pl2_.keep KK3 nin0)
  have f9 := (pl3_.keep KK3 nin0)
  have f10 : Exa Z h1 x "java/lang/String" := (ps0_.keep KK3)
  have f11 : Fld Z h1 x "java/lang/String" "coder" "B" (.int (0 : Int32)) := (ps1_.keep KK3 nin0)
  have f12 : Fld Z h1 x "java/lang/String" "value" "[B" (.ref t) := (ps2_.keep KK3 nin0)
  have f13 := (ps3_.keep KK3 nin0)
  refine Wk.callV X5 hx hZ (y := (⟨"java/lang/String", "equals", "(Ljava/lang/Object;)Z"⟩ : MethodName)) (z := (⟨"java/lang/String", "equals", "(Ljava/lang/Object;)Z"⟩ : MethodName)) hown (w 79 _ rfl) (w 80 _ rfl) (notFace_of_selects (args := #[]) (mvT hZ (w 82 _ rfl))) (w 82 _ rfl) (w 81 _ rfl) (by decide) (as' := [(.ref x)]) (backOf (W := 0) (rm_eqD l Z a0 hw [] lb_ lt lk G1 x t kb u0 u1 u2 u3 u4 u5 u6 u7 u8 u9 u10 u11 u12 h1 O2 SG1 nG1 f6 f7 f8 f9 f10 f11 f12 f13 hne hnq) hZ (w 83 _ rfl) (w 1 _ rfl) (by decide) (by decide)) e5 f6 (by rw [hml]; rfl) (rest := []) (lenOf pd18 rfl) rfl (Nat.le_of_eq rfl) (hb hby d12_25) rfl (by decide) (by decide) ?_
  intro T14 h14 v14 L14 X14 e14 hQ14
  obtain ⟨rfl, Nq14, K14⟩ := hQ14
  have N14 := Fk.app N1 Nq14 KK3.1 all0
  rw [K14] at e14
  show Wp p e below _ _ T14 (mkF m 28 #[.val (.ref x), .val (.ref x1), .val (.int (1 : Int32)), .val (.int (0 : Int32)), .val (.ref kf)] [(.int (0 : Int32))])
  refine Wk.ifYes X14 hx (hb hby d12_28) (by decide) (q := 34) rfl ((if0 _ _).trans (teq (by decide : (0 : Int32) = (0 : Int32))).1) ?_
  refine Wk.iinc X14 hx (Ls' := #[.val (.ref x), .val (.ref x1), .val (.int (1 : Int32)), .val (.int (1 : Int32)), .val (.ref kf)]) (hb hby d12_34) rfl rfl rfl ?_
  refine Wk.goto X14 hx (hb hby d12_37) (by decide) (q := 9) rfl ?_
  refine Wk.iloadN X14 hx (hb hby d12_9) rfl rfl ?_
  refine Wk.iloadN X14 hx (hb hby d12_10) rfl rfl ?_
  refine Wk.icmpYes X14 hx (hb hby d12_11) (by decide) (q := 40) rfl (flt (by decide : ¬ ((1 : Int32) < (1 : Int32)))).2.1 ?_
  refine Wk.aconstNull X14 hx (hb hby d12_40) rfl ?_
  exact Wk.retA' X14 hx hlk hr rfl rfl (hb hby d12_41) (by decide) (by decide) (Qc := Q_rm_wlD Z va kv kf lb_ lt lk G1 x t kb u0 u1 u2 u3 u4 u5 u6 u7 u8 u9 u10 u11 u12 h0) e14 ⟨rfl, N14, KK3⟩
theorem pn19 : plainName "com/example/accumulus/accumulus/terms/FixedOptionWithLabelPinLaw" = true := by first | (simp [plainName, overriddenIn]; done) | decide +kernel
theorem pd20 : parseMethodDescriptor "(I)C" = some ⟨[.int], some .char⟩ := by decide +kernel
theorem pd21 : parseMethodDescriptor "([C)V" = some ⟨[(.array .char)], none⟩ := by decide +kernel
theorem pd22 : parseMethodDescriptor "(Ljava/lang/String;)Lcom/example/accumulus/accumulus/terms/FixedOption;" = some ⟨[(.object "java/lang/String")], some (.object "com/example/accumulus/accumulus/terms/FixedOption")⟩ := by decide +kernel
def Q_rm_law (Z : State) (p0 : Int32) (p1 : Int32) (p2 : Int32) (p3 : Int32) (G1 : Int32) (G3 : Value) (va : Addr) (kv : ClassId) (kf : Addr) (lb_ : Addr) (lt : Addr) (lk : ClassId) (h0 : Heap) (v : Option Value) (vm : Vm) (h : Heap) (L : List Loc) : Prop := v = some (.int (1 : Int32)) ∧ Fk h0.size [] L ∧ Keep h0 h []
set_option maxRecDepth 65536 in
set_option maxHeartbeats 40000000 in
theorem rm_law (l : Launch) (Z : State) (a0 : Array Value) (hw : ∀ d ∈ tables_1, d.before a0 Z = true) (ws : List Jvm.Cond) (p0 : Int32) (p1 : Int32) (p2 : Int32) (p3 : Int32) (G1 : Int32) (G3 : Value) (va : Addr) (kv : ClassId) (kf : Addr) (lb_ : Addr) (lt : Addr) (lk : ClassId) (h0 : Heap) (O0 : Old Z Z.heap.size h0) (hcw : Jvm.Lit.compactW.before a0 Z = true) (hheld : ∀ d ∈ consts_1, Jvm.Lit.constHeld Z d.1 d.2) (sH : Sta Z Z.heap "java/lang/StringUTF16" "HI_BYTE_SHIFT" "I" (.int (0 : Int32))) (sL : Sta Z Z.heap "java/lang/StringUTF16" "LO_BYTE_SHIFT" "I" (.int (8 : Int32))) (sA : Sta Z Z.heap "java/lang/StringUTF16" "$assertionsDisabled" "Z" (.int (1 : Int32))) (SG1 : Sta Z Z.heap "java/lang/String" "COMPACT_STRINGS" "Z" (.int G1)) (nG1 : ¬ G1 = 0) (rG3 : G3.isRef = true) (SG3 : Sta Z Z.heap "jdk/internal/util/Preconditions" "SIOOBE_FORMATTER" "Ljava/util/function/BiFunction;" G3) (sV : Sta Z Z.heap "com/example/accumulus/accumulus/terms/FixedOption" "$VALUES" "[Lcom/example/accumulus/accumulus/terms/FixedOption;" (.ref va)) (pA : Arv Z h0 va kv (.object "com/example/accumulus/accumulus/terms/FixedOption") (1 : Int32) [(.ref kf)] .null) (pE : Exa Z h0 va "[Lcom/example/accumulus/accumulus/terms/FixedOption;") (pF : Fld Z h0 kf "com/example/accumulus/accumulus/terms/FixedOption" "label" "Ljava/lang/String;" (.ref lb_)) (sF : Sta Z Z.heap "com/example/accumulus/accumulus/terms/FixedOption" "FIXED_PLUS_II" "Lcom/example/accumulus/accumulus/terms/FixedOption;" (.ref kf)) (pl0_ : Exa Z h0 lb_ "java/lang/String") (pl1_ : Fld Z h0 lb_ "java/lang/String" "coder" "B" (.int (0 : Int32))) (pl2_ : Fld Z h0 lb_ "java/lang/String" "value" "[B" (.ref lt)) (pl3_ : Arv Z h0 lt lk .byte (13 : Int32) [(.int (102 : Int32)), (.int (105 : Int32)), (.int (120 : Int32)), (.int (101 : Int32)), (.int (100 : Int32)), (.int (45 : Int32)), (.int (112 : Int32)), (.int (108 : Int32)), (.int (117 : Int32)), (.int (115 : Int32)), (.int (45 : Int32)), (.int (105 : Int32)), (.int (105 : Int32))] (.int (0 : Int32))) :
    CtrW l Z x code maxLocals ret ws room_1 #[(.int p0), (.int p1), (.int p2), (.int p3)] h0 (fun vm => IB Z vm []) (Q_rm_law Z p0 p1 p2 p3 G1 G3 va kv kf lb_ lt lk h0) := by
  refine CtrW.intro (Ls := fun _ => #[.val (.int p0), .val (.int p1), .val (.int p2), .val (.int p3), .unset, .unset, .unset, .unset, .unset, .unset, .unset, .unset, .unset, .unset, .unset]) (plainFor_of_name pn19) (fun m => by first | rfl | (simp [entryFrame, mkF, argsToLocals, Value.category, maxLocals]; done)) ?_
  intro p e s m below meth c s₁ vm hx hby hml hr hlk hZ hown hnm hs0 X0 e0 hS hPv
  have I0 := hPv
  have w : ∀ (k : Nat) (d : Jvm.Cond), tables_1[k]? = some d → d.before a0 Z = true := fun k d q => hw d (List.mem_of_getElem? q)
  have N0 := Fk.nil h0.size []
  have wS : ∀ a ∈ Bundle.stringAtoms, a.before a0 Z = true := fun d hd => hw d ((by decide +kernel : ∀ d ∈ Bundle.stringAtoms, d ∈ tables_1) d hd)
  refine Wk.ldcNew X0 hx hZ hown (w 0 _ rfl) wS e0 hS (Nat.le_refl _) (Fr.nil _) (by rw [hs0]; exact O0) I0 (by first | decide | (intro q; simp at q) | simp_all) (hheld _ (List.mem_of_getElem? (i := 0) rfl)) hcw (vs := [(.int (102 : Int32)), (.int (105 : Int32)), (.int (120 : Int32)), (.int (101 : Int32)), (.int (100 : Int32)), (.int (45 : Int32)), (.int (112 : Int32)), (.int (108 : Int32)), (.int (117 : Int32)), (.int (115 : Int32)), (.int (45 : Int32)), (.int (105 : Int32)), (.int (105 : Int32))]) (z := (13 : Int32)) (by decide +kernel) (by decide) rfl (hb hby at_0) rfl 52 (by decide) (by decide) (by decide) (by decide) ?_
  intro T1 h1 a1 b1 kb1 vm1 X1 e1 E1 hS1 hZ1 ho1 w39_1 A1 C1 V1 B1 I1 Lv1
  have O2 : Old Z Z.heap.size h1 := O0.ext E1
  refine Wk.astore X1 hx (Ls' := #[.val (.int p0), .val (.int p1), .val (.int p2), .val (.int p3), .val (.ref a1), .unset, .unset, .unset, .unset, .unset, .unset, .unset, .unset, .unset, .unset]) (hb hby at_2) rfl rfl rfl ?_
  refine Wk.iloadN X1 hx (hb hby at_4) rfl rfl ?_
  refine Wk.iconst X1 hx (v := (3 : Int32)) (hb hby at_5) rfl rfl ?_
  refine Wk.iand X1 hx (hb hby at_6) rfl ?_
  refine Wk.istoreA X1 hx (Ls' := fun z => #[.val (.int p0), .val (.int p1), .val (.int p2), .val (.int p3), .val (.ref a1), .val (.int z), .unset, .unset, .unset, .unset, .unset, .unset, .unset, .unset, .unset]) (hb hby at_7) rfl (fun _ => rfl) ?_
  intro i3 hi3
  show Wp p e below _ _ T1 (mkF m 9 #[.val (.int p0), .val (.int p1), .val (.int p2), .val (.int p3), .val (.ref a1), .val (.int i3), .unset, .unset, .unset, .unset, .unset, .unset, .unset, .unset, .unset] [])
  refine Wk.iloadN X1 hx (hb hby at_9) rfl rfl ?_
  refine Wk.ldcInt X1 hx hZ1 ho1 (w 8 _ rfl) (hb hby at_10) rfl ?_
  refine Wk.iand X1 hx (hb hby at_12) rfl ?_
  refine Wk.bipush X1 hx (v := (14 : Int32)) (hb hby at_13) rfl rfl ?_
  refine Wk.irem X1 hx (hb hby at_15) rfl (by decide) ?_
  refine Wk.istoreA X1 hx (Ls' := fun z => #[.val (.int p0), .val (.int p1), .val (.int p2), .val (.int p3), .val (.ref a1), .val (.int i3), .val (.int z), .unset, .unset, .unset, .unset, .unset, .unset, .unset, .unset]) (hb hby at_16) rfl (fun _ => rfl) ?_
  intro i4 hi4
  show Wp p e below _ _ T1 (mkF m 18 #[.val (.int p0), .val (.int p1), .val (.int p2), .val (.int p3), .val (.ref a1), .val (.int i3), .val (.int i4), .unset, .unset, .unset, .unset, .unset, .unset, .unset, .unset] [])
  refine Wk.iloadN X1 hx (hb hby at_18) rfl rfl ?_
  refine Wk.ldcInt X1 hx hZ1 ho1 (w 9 _ rfl) (hb hby at_19) rfl ?_
  refine Wk.iand X1 hx (hb hby at_21) rfl ?_
  refine Wk.i2c X1 hx (hb hby at_22) rfl ?_
  intro c5 hc5
  have Lc5 : Chr c5 := chr_i2c hc5
  refine Wk.istore X1 hx (Ls' := #[.val (.int p0), .val (.int p1), .val (.int p2), .val (.int p3), .val (.ref a1), .val (.int i3), .val (.int i4), .val (.int c5), .unset, .unset, .unset, .unset, .unset, .unset, .unset]) (hb hby at_23) rfl rfl ?_
  refine Wk.iloadN X1 hx (hb hby at_25) rfl rfl ?_
  refine Wk.ldcInt X1 hx hZ1 ho1 (w 9 _ rfl) (hb hby at_26) rfl ?_
  refine Wk.iand X1 hx (hb hby at_28) rfl ?_
  refine Wk.i2c X1 hx (hb hby at_29) rfl ?_
  intro c6 hc6
  have Lc6 : Chr c6 := chr_i2c hc6
  refine Wk.istore X1 hx (Ls' := #[.val (.int p0), .val (.int p1), .val (.int p2), .val (.int p3), .val (.ref a1), .val (.int i3), .val (.int i4), .val (.int c5), .val (.int c6), .unset, .unset, .unset, .unset, .unset, .unset]) (hb hby at_30) rfl rfl ?_
  refine Wk.bipush X1 hx (v := (13 : Int32)) (hb hby at_32) rfl rfl ?_
  refine Wk.newarray X1 hx hZ1 (w 10 _ rfl) e1 (hb hby at_34) rfl (by decide) 13 (by decide) (by decide) (by decide) (by decide) ?_
  intro T7 h7 a7 kA7 g7 X7 e7 E7 A7
  have O8 : Old Z Z.heap.size h7 := O2.ext E7
  have V7 : Arv Z h7 a7 kA7 .char (13 : Int32) [(.int (0 : Int32)), (.int (0 : Int32)), (.int (0 : Int32)), (.int (0 : Int32)), (.int (0 : Int32)), (.int (0 : Int32)), (.int (0 : Int32)), (.int (0 : Int32)), (.int (0 : Int32)), (.int (0 : Int32)), (.int (0 : Int32)), (.int (0 : Int32)), (.int (0 : Int32))] (.int (0 : Int32)) := A7.pad (pad_rep [] (.int (0 : Int32)) 13)
  refine Wk.astore X7 hx (Ls' := #[.val (.int p0), .val (.int p1), .val (.int p2), .val (.int p3), .val (.ref a1), .val (.int i3), .val (.int i4), .val (.int c5), .val (.int c6), .val (.ref a7), .unset, .unset, .unset, .unset, .unset]) (hb hby at_36) rfl rfl rfl ?_
  refine Wk.aload X7 hx (hb hby at_38) rfl rfl rfl ?_
  refine Wk.iconst X7 hx (v := (0 : Int32)) (hb hby at_40) rfl rfl ?_
  refine Wk.aload X7 hx (hb hby at_41) rfl rfl rfl ?_
  refine Wk.iconst X7 hx (v := (0 : Int32)) (hb hby at_43) rfl rfl ?_
  have KK9 : Keep h1 h7 [] := ((Keep.refl h1 []).ext E7)
  have f10 : Exa Z h7 a1 "java/lang/String" := (A1.keep KK9)
  have f11 : Fld Z h7 a1 "java/lang/String" "coder" "B" (.int (0 : Int32)) := (C1.keep KK9 nin0)
  have f12 : Fld Z h7 a1 "java/lang/String" "value" "[B" (.ref b1) := (V1.keep KK9 nin0)
  have f13 := (B1.keep KK9 nin0)
  refine Wk.callV X7 hx hZ1 (y := (⟨"java/lang/String", "charAt", "(I)C"⟩ : MethodName)) (z := (⟨"java/lang/String", "charAt", "(I)C"⟩ : MethodName)) ho1 (w 11 _ rfl) (w 12 _ rfl) (notFace_of_selects (args := #[]) (mvT hZ1 (w 14 _ rfl))) (w 14 _ rfl) (w 13 _ rfl) (by decide) (as' := [(.int (0 : Int32))]) (backOf (W := 2) (rm_cha l Z a0 hw [] a1 b1 G1 (0 : Int32) kb1 (13 : Int32) _ (102 : Int32) G3 h7 O8 SG1 nG1 rG3 SG3 f10 f11 f12 f13 (by decide) (by decide) (by first | assumption | rfl | decide | exact Nat.le_of_ble_eq_true rfl) (show Lat (102 : Int32) from ⟨by decide, by decide⟩)) hZ1 (w 15 _ rfl) (w 1 _ rfl) (by decide) (by decide)) e7 f10 (by rw [hml]; rfl) (rest := [(.int (0 : Int32)), (.ref a7)]) (lenOf pd20 rfl) rfl (Nat.le_of_eq rfl) (hb hby at_44) rfl (by decide) (by decide) ?_
  intro T14 h14 v14 L14 X14 e14 hQ14
  obtain ⟨rfl, Nq14, K14⟩ := hQ14
  have KK15 : Keep h0 h7 [] := (((Keep.refl h0 []).ext E1).ext E7)
  have N14 := Fk.app N0 Nq14 KK15.1 all0
  rw [K14] at e14
  show Wp p e below _ _ T14 (mkF m 47 #[.val (.int p0), .val (.int p1), .val (.int p2), .val (.int p3), .val (.ref a1), .val (.int i3), .val (.int i4), .val (.int c5), .val (.int c6), .val (.ref a7), .unset, .unset, .unset, .unset, .unset] [(.int (102 : Int32)), (.int (0 : Int32)), (.ref a7)])
  refine Wk.castore X14 hx hZ1 e14 V7 (by decide) (by decide) 0 rfl (Nat.le_of_ble_eq_true rfl) (w := (102 : Int32)) rfl (hb hby at_47) rfl ?_
  intro T16 h16 L16 M16 X16 e16 W16 A16
  have KK17 : Keep h0 h1 [] := ((Keep.refl h0 []).ext E1)
  have N16 := M16 _ _ N14 (Or.inr (Nat.le_trans KK17.1 (Nat.le_of_eq g7)))
  have O18 : Old Z Z.heap.size h16 := O8.wr W16 (Nat.le_trans (Nat.le_trans (Nat.le_trans (Nat.le_of_eq O0.1.symm) O0.2.1) KK17.1) (Nat.le_of_eq g7))
  have V16 : Arv Z h16 a7 kA7 .char (13 : Int32) [(.int (102 : Int32)), (.int (0 : Int32)), (.int (0 : Int32)), (.int (0 : Int32)), (.int (0 : Int32)), (.int (0 : Int32)), (.int (0 : Int32)), (.int (0 : Int32)), (.int (0 : Int32)), (.int (0 : Int32)), (.int (0 : Int32)), (.int (0 : Int32)), (.int (0 : Int32))] (.int (0 : Int32)) := A16
  refine Wk.aload X16 hx (hb hby at_48) rfl rfl rfl ?_
  refine Wk.iconst X16 hx (v := (1 : Int32)) (hb hby at_50) rfl rfl ?_
  refine Wk.aload X16 hx (hb hby at_51) rfl rfl rfl ?_
  refine Wk.iconst X16 hx (v := (1 : Int32)) (hb hby at_53) rfl rfl ?_
  have KK19 : Keep h1 h16 [] := (KK9.wr W16 (Or.inr (Nat.le_of_eq g7)))
  have f20 : Exa Z h16 a1 "java/lang/String" := (A1.keep KK19)
  have f21 : Fld Z h16 a1 "java/lang/String" "coder" "B" (.int (0 : Int32)) := (C1.keep KK19 nin0)
  have f22 : Fld Z h16 a1 "java/lang/String" "value" "[B" (.ref b1) := (V1.keep KK19 nin0)
  have f23 := (B1.keep KK19 nin0)
  refine Wk.callV X16 hx hZ1 (y := (⟨"java/lang/String", "charAt", "(I)C"⟩ : MethodName)) (z := (⟨"java/lang/String", "charAt", "(I)C"⟩ : MethodName)) ho1 (w 11 _ rfl) (w 12 _ rfl) (notFace_of_selects (args := #[]) (mvT hZ1 (w 14 _ rfl))) (w 14 _ rfl) (w 13 _ rfl) (by decide) (as' := [(.int (1 : Int32))]) (backOf (W := 2) (rm_cha l Z a0 hw [] a1 b1 G1 (1 : Int32) kb1 (13 : Int32) _ (105 : Int32) G3 h16 O18 SG1 nG1 rG3 SG3 f20 f21 f22 f23 (by decide) (by decide) (by first | assumption | rfl | decide | exact Nat.le_of_ble_eq_true rfl) (show Lat (105 : Int32) from ⟨by decide, by decide⟩)) hZ1 (w 15 _ rfl) (w 1 _ rfl) (by decide) (by decide)) e16 f20 (by rw [hml]; rfl) (rest := [(.int (1 : Int32)), (.ref a7)]) (lenOf pd20 rfl) rfl (Nat.le_of_eq rfl) (hb hby at_54) rfl (by decide) (by decide) ?_
  intro T24 h24 v24 L24 X24 e24 hQ24
  obtain ⟨rfl, Nq24, K24⟩ := hQ24
  have KK25 : Keep h0 h16 [] := (KK15.wr W16 (Or.inr (Nat.le_trans KK17.1 (Nat.le_of_eq g7))))
  have N24 := Fk.app N16 Nq24 KK25.1 all0
  rw [K24] at e24
  show Wp p e below _ _ T24 (mkF m 57 #[.val (.int p0), .val (.int p1), .val (.int p2), .val (.int p3), .val (.ref a1), .val (.int i3), .val (.int i4), .val (.int c5), .val (.int c6), .val (.ref a7), .unset, .unset, .unset, .unset, .unset] [(.int (105 : Int32)), (.int (1 : Int32)), (.ref a7)])
  refine Wk.castore X24 hx hZ1 e24 V16 (by decide) (by decide) 1 rfl (Nat.le_of_ble_eq_true rfl) (w := (105 : Int32)) rfl (hb hby at_57) rfl ?_
  intro T26 h26 L26 M26 X26 e26 W26 A26
  have N26 := M26 _ _ N24 (Or.inr (Nat.le_trans KK17.1 (Nat.le_of_eq g7)))
  have O27 : Old Z Z.heap.size h26 := O18.wr W26 (Nat.le_trans (Nat.le_trans (Nat.le_trans (Nat.le_of_eq O0.1.symm) O0.2.1) KK17.1) (Nat.le_of_eq g7))
  have V26 : Arv Z h26 a7 kA7 .char (13 : Int32) [(.int (102 : Int32)), (.int (105 : Int32)), (.int (0 : Int32)), (.int (0 : Int32)), (.int (0 : Int32)), (.int (0 : Int32)), (.int (0 : Int32)), (.int (0 : Int32)), (.int (0 : Int32)), (.int (0 : Int32)), (.int (0 : Int32)), (.int (0 : Int32)), (.int (0 : Int32))] (.int (0 : Int32)) := A26
  refine Wk.aload X26 hx (hb hby at_58) rfl rfl rfl ?_
  refine Wk.iconst X26 hx (v := (2 : Int32)) (hb hby at_60) rfl rfl ?_
  refine Wk.aload X26 hx (hb hby at_61) rfl rfl rfl ?_
  refine Wk.iconst X26 hx (v := (2 : Int32)) (hb hby at_63) rfl rfl ?_
  have KK28 : Keep h1 h26 [] := (KK19.wr W26 (Or.inr (Nat.le_of_eq g7)))
  have f29 : Exa Z h26 a1 "java/lang/String" := (A1.keep KK28)
  have f30 : Fld Z h26 a1 "java/lang/String" "coder" "B" (.int (0 : Int32)) := (C1.keep KK28 nin0)
  have f31 : Fld Z h26 a1 "java/lang/String" "value" "[B" (.ref b1) := (V1.keep KK28 nin0)
  have f32 := (B1.keep KK28 nin0)
  refine Wk.callV X26 hx hZ1 (y := (⟨"java/lang/String", "charAt", "(I)C"⟩ : MethodName)) (z := (⟨"java/lang/String", "charAt", "(I)C"⟩ : MethodName)) ho1 (w 11 _ rfl) (w 12 _ rfl) (notFace_of_selects (args := #[]) (mvT hZ1 (w 14 _ rfl))) (w 14 _ rfl) (w 13 _ rfl) (by decide) (as' := [(.int (2 : Int32))]) (backOf (W := 2) (rm_cha l Z a0 hw [] a1 b1 G1 (2 : Int32) kb1 (13 : Int32) _ (120 : Int32) G3 h26 O27 SG1 nG1 rG3 SG3 f29 f30 f31 f32 (by decide) (by decide) (by first | assumption | rfl | decide | exact Nat.le_of_ble_eq_true rfl) (show Lat (120 : Int32) from ⟨by decide, by decide⟩)) hZ1 (w 15 _ rfl) (w 1 _ rfl) (by decide) (by decide)) e26 f29 (by rw [hml]; rfl) (rest := [(.int (2 : Int32)), (.ref a7)]) (lenOf pd20 rfl) rfl (Nat.le_of_eq rfl) (hb hby at_64) rfl (by decide) (by decide) ?_
  intro T33 h33 v33 L33 X33 e33 hQ33
  obtain ⟨rfl, Nq33, K33⟩ := hQ33
  have KK34 : Keep h0 h26 [] := (KK25.wr W26 (Or.inr (Nat.le_trans KK17.1 (Nat.le_of_eq g7))))
  have N33 := Fk.app N26 Nq33 KK34.1 all0
  rw [K33] at e33
  show Wp p e below _ _ T33 (mkF m 67 #[.val (.int p0), .val (.int p1), .val (.int p2), .val (.int p3), .val (.ref a1), .val (.int i3), .val (.int i4), .val (.int c5), .val (.int c6), .val (.ref a7), .unset, .unset, .unset, .unset, .unset] [(.int (120 : Int32)), (.int (2 : Int32)), (.ref a7)])
  refine Wk.castore X33 hx hZ1 e33 V26 (by decide) (by decide) 2 rfl (Nat.le_of_ble_eq_true rfl) (w := (120 : Int32)) rfl (hb hby at_67) rfl ?_
  intro T35 h35 L35 M35 X35 e35 W35 A35
  have N35 := M35 _ _ N33 (Or.inr (Nat.le_trans KK17.1 (Nat.le_of_eq g7)))
  have O36 : Old Z Z.heap.size h35 := O27.wr W35 (Nat.le_trans (Nat.le_trans (Nat.le_trans (Nat.le_of_eq O0.1.symm) O0.2.1) KK17.1) (Nat.le_of_eq g7))
  have V35 : Arv Z h35 a7 kA7 .char (13 : Int32) [(.int (102 : Int32)), (.int (105 : Int32)), (.int (120 : Int32)), (.int (0 : Int32)), (.int (0 : Int32)), (.int (0 : Int32)), (.int (0 : Int32)), (.int (0 : Int32)), (.int (0 : Int32)), (.int (0 : Int32)), (.int (0 : Int32)), (.int (0 : Int32)), (.int (0 : Int32))] (.int (0 : Int32)) := A35
  refine Wk.aload X35 hx (hb hby at_68) rfl rfl rfl ?_
  refine Wk.iconst X35 hx (v := (3 : Int32)) (hb hby at_70) rfl rfl ?_
  refine Wk.aload X35 hx (hb hby at_71) rfl rfl rfl ?_
  refine Wk.iconst X35 hx (v := (3 : Int32)) (hb hby at_73) rfl rfl ?_
  have KK37 : Keep h1 h35 [] := (KK28.wr W35 (Or.inr (Nat.le_of_eq g7)))
  have f38 : Exa Z h35 a1 "java/lang/String" := (A1.keep KK37)
  have f39 : Fld Z h35 a1 "java/lang/String" "coder" "B" (.int (0 : Int32)) := (C1.keep KK37 nin0)
  have f40 : Fld Z h35 a1 "java/lang/String" "value" "[B" (.ref b1) := (V1.keep KK37 nin0)
  have f41 := (B1.keep KK37 nin0)
  refine Wk.callV X35 hx hZ1 (y := (⟨"java/lang/String", "charAt", "(I)C"⟩ : MethodName)) (z := (⟨"java/lang/String", "charAt", "(I)C"⟩ : MethodName)) ho1 (w 11 _ rfl) (w 12 _ rfl) (notFace_of_selects (args := #[]) (mvT hZ1 (w 14 _ rfl))) (w 14 _ rfl) (w 13 _ rfl) (by decide) (as' := [(.int (3 : Int32))]) (backOf (W := 2) (rm_cha l Z a0 hw [] a1 b1 G1 (3 : Int32) kb1 (13 : Int32) _ (101 : Int32) G3 h35 O36 SG1 nG1 rG3 SG3 f38 f39 f40 f41 (by decide) (by decide) (by first | assumption | rfl | decide | exact Nat.le_of_ble_eq_true rfl) (show Lat (101 : Int32) from ⟨by decide, by decide⟩)) hZ1 (w 15 _ rfl) (w 1 _ rfl) (by decide) (by decide)) e35 f38 (by rw [hml]; rfl) (rest := [(.int (3 : Int32)), (.ref a7)]) (lenOf pd20 rfl) rfl (Nat.le_of_eq rfl) (hb hby at_74) rfl (by decide) (by decide) ?_
  intro T42 h42 v42 L42 X42 e42 hQ42
  obtain ⟨rfl, Nq42, K42⟩ := hQ42
  have KK43 : Keep h0 h35 [] := (KK34.wr W35 (Or.inr (Nat.le_trans KK17.1 (Nat.le_of_eq g7))))
  have N42 := Fk.app N35 Nq42 KK43.1 all0
  rw [K42] at e42
  show Wp p e below _ _ T42 (mkF m 77 #[.val (.int p0), .val (.int p1), .val (.int p2), .val (.int p3), .val (.ref a1), .val (.int i3), .val (.int i4), .val (.int c5), .val (.int c6), .val (.ref a7), .unset, .unset, .unset, .unset, .unset] [(.int (101 : Int32)), (.int (3 : Int32)), (.ref a7)])
  refine Wk.castore X42 hx hZ1 e42 V35 (by decide) (by decide) 3 rfl (Nat.le_of_ble_eq_true rfl) (w := (101 : Int32)) rfl (hb hby at_77) rfl ?_
  intro T44 h44 L44 M44 X44 e44 W44 A44
  have N44 := M44 _ _ N42 (Or.inr (Nat.le_trans KK17.1 (Nat.le_of_eq g7)))
  have O45 : Old Z Z.heap.size h44 := O36.wr W44 (Nat.le_trans (Nat.le_trans (Nat.le_trans (Nat.le_of_eq O0.1.symm) O0.2.1) KK17.1) (Nat.le_of_eq g7))
  have V44 : Arv Z h44 a7 kA7 .char (13 : Int32) [(.int (102 : Int32)), (.int (105 : Int32)), (.int (120 : Int32)), (.int (101 : Int32)), (.int (0 : Int32)), (.int (0 : Int32)), (.int (0 : Int32)), (.int (0 : Int32)), (.int (0 : Int32)), (.int (0 : Int32)), (.int (0 : Int32)), (.int (0 : Int32)), (.int (0 : Int32))] (.int (0 : Int32)) := A44
  refine Wk.aload X44 hx (hb hby at_78) rfl rfl rfl ?_
  refine Wk.iconst X44 hx (v := (4 : Int32)) (hb hby at_80) rfl rfl ?_
  refine Wk.aload X44 hx (hb hby at_81) rfl rfl rfl ?_
  refine Wk.iconst X44 hx (v := (4 : Int32)) (hb hby at_83) rfl rfl ?_
  have KK46 : Keep h1 h44 [] := (KK37.wr W44 (Or.inr (Nat.le_of_eq g7)))
  have f47 : Exa Z h44 a1 "java/lang/String" := (A1.keep KK46)
  have f48 : Fld Z h44 a1 "java/lang/String" "coder" "B" (.int (0 : Int32)) := (C1.keep KK46 nin0)
  have f49 : Fld Z h44 a1 "java/lang/String" "value" "[B" (.ref b1) := (V1.keep KK46 nin0)
  have f50 := (B1.keep KK46 nin0)
  refine Wk.callV X44 hx hZ1 (y := (⟨"java/lang/String", "charAt", "(I)C"⟩ : MethodName)) (z := (⟨"java/lang/String", "charAt", "(I)C"⟩ : MethodName)) ho1 (w 11 _ rfl) (w 12 _ rfl) (notFace_of_selects (args := #[]) (mvT hZ1 (w 14 _ rfl))) (w 14 _ rfl) (w 13 _ rfl) (by decide) (as' := [(.int (4 : Int32))]) (backOf (W := 2) (rm_cha l Z a0 hw [] a1 b1 G1 (4 : Int32) kb1 (13 : Int32) _ (100 : Int32) G3 h44 O45 SG1 nG1 rG3 SG3 f47 f48 f49 f50 (by decide) (by decide) (by first | assumption | rfl | decide | exact Nat.le_of_ble_eq_true rfl) (show Lat (100 : Int32) from ⟨by decide, by decide⟩)) hZ1 (w 15 _ rfl) (w 1 _ rfl) (by decide) (by decide)) e44 f47 (by rw [hml]; rfl) (rest := [(.int (4 : Int32)), (.ref a7)]) (lenOf pd20 rfl) rfl (Nat.le_of_eq rfl) (hb hby at_84) rfl (by decide) (by decide) ?_
  intro T51 h51 v51 L51 X51 e51 hQ51
  obtain ⟨rfl, Nq51, K51⟩ := hQ51
  have KK52 : Keep h0 h44 [] := (KK43.wr W44 (Or.inr (Nat.le_trans KK17.1 (Nat.le_of_eq g7))))
  have N51 := Fk.app N44 Nq51 KK52.1 all0
  rw [K51] at e51
  show Wp p e below _ _ T51 (mkF m 87 #[.val (.int p0), .val (.int p1), .val (.int p2), .val (.int p3), .val (.ref a1), .val (.int i3), .val (.int i4), .val (.int c5), .val (.int c6), .val (.ref a7), .unset, .unset, .unset, .unset, .unset] [(.int (100 : Int32)), (.int (4 : Int32)), (.ref a7)])
  refine Wk.castore X51 hx hZ1 e51 V44 (by decide) (by decide) 4 rfl (Nat.le_of_ble_eq_true rfl) (w := (100 : Int32)) rfl (hb hby at_87) rfl ?_
  intro T53 h53 L53 M53 X53 e53 W53 A53
  have N53 := M53 _ _ N51 (Or.inr (Nat.le_trans KK17.1 (Nat.le_of_eq g7)))
  have O54 : Old Z Z.heap.size h53 := O45.wr W53 (Nat.le_trans (Nat.le_trans (Nat.le_trans (Nat.le_of_eq O0.1.symm) O0.2.1) KK17.1) (Nat.le_of_eq g7))
  have V53 : Arv Z h53 a7 kA7 .char (13 : Int32) [(.int (102 : Int32)), (.int (105 : Int32)), (.int (120 : Int32)), (.int (101 : Int32)), (.int (100 : Int32)), (.int (0 : Int32)), (.int (0 : Int32)), (.int (0 : Int32)), (.int (0 : Int32)), (.int (0 : Int32)), (.int (0 : Int32)), (.int (0 : Int32)), (.int (0 : Int32))] (.int (0 : Int32)) := A53
  refine Wk.aload X53 hx (hb hby at_88) rfl rfl rfl ?_
  refine Wk.iconst X53 hx (v := (5 : Int32)) (hb hby at_90) rfl rfl ?_
  refine Wk.aload X53 hx (hb hby at_91) rfl rfl rfl ?_
  refine Wk.iconst X53 hx (v := (5 : Int32)) (hb hby at_93) rfl rfl ?_
  have KK55 : Keep h1 h53 [] := (KK46.wr W53 (Or.inr (Nat.le_of_eq g7)))
  have f56 : Exa Z h53 a1 "java/lang/String" := (A1.keep KK55)
  have f57 : Fld Z h53 a1 "java/lang/String" "coder" "B" (.int (0 : Int32)) := (C1.keep KK55 nin0)
  have f58 : Fld Z h53 a1 "java/lang/String" "value" "[B" (.ref b1) := (V1.keep KK55 nin0)
  have f59 := (B1.keep KK55 nin0)
  refine Wk.callV X53 hx hZ1 (y := (⟨"java/lang/String", "charAt", "(I)C"⟩ : MethodName)) (z := (⟨"java/lang/String", "charAt", "(I)C"⟩ : MethodName)) ho1 (w 11 _ rfl) (w 12 _ rfl) (notFace_of_selects (args := #[]) (mvT hZ1 (w 14 _ rfl))) (w 14 _ rfl) (w 13 _ rfl) (by decide) (as' := [(.int (5 : Int32))]) (backOf (W := 2) (rm_cha l Z a0 hw [] a1 b1 G1 (5 : Int32) kb1 (13 : Int32) _ (45 : Int32) G3 h53 O54 SG1 nG1 rG3 SG3 f56 f57 f58 f59 (by decide) (by decide) (by first | assumption | rfl | decide | exact Nat.le_of_ble_eq_true rfl) (show Lat (45 : Int32) from ⟨by decide, by decide⟩)) hZ1 (w 15 _ rfl) (w 1 _ rfl) (by decide) (by decide)) e53 f56 (by rw [hml]; rfl) (rest := [(.int (5 : Int32)), (.ref a7)]) (lenOf pd20 rfl) rfl (Nat.le_of_eq rfl) (hb hby at_94) rfl (by decide) (by decide) ?_
  intro T60 h60 v60 L60 X60 e60 hQ60
  obtain ⟨rfl, Nq60, K60⟩ := hQ60
  have KK61 : Keep h0 h53 [] := (KK52.wr W53 (Or.inr (Nat.le_trans KK17.1 (Nat.le_of_eq g7))))
  have N60 := Fk.app N53 Nq60 KK61.1 all0
  rw [K60] at e60
  show Wp p e below _ _ T60 (mkF m 97 #[.val (.int p0), .val (.int p1), .val (.int p2), .val (.int p3), .val (.ref a1), .val (.int i3), .val (.int i4), .val (.int c5), .val (.int c6), .val (.ref a7), .unset, .unset, .unset, .unset, .unset] [(.int (45 : Int32)), (.int (5 : Int32)), (.ref a7)])
  refine Wk.castore X60 hx hZ1 e60 V53 (by decide) (by decide) 5 rfl (Nat.le_of_ble_eq_true rfl) (w := (45 : Int32)) rfl (hb hby at_97) rfl ?_
  intro T62 h62 L62 M62 X62 e62 W62 A62
  have N62 := M62 _ _ N60 (Or.inr (Nat.le_trans KK17.1 (Nat.le_of_eq g7)))
  have O63 : Old Z Z.heap.size h62 := O54.wr W62 (Nat.le_trans (Nat.le_trans (Nat.le_trans (Nat.le_of_eq O0.1.symm) O0.2.1) KK17.1) (Nat.le_of_eq g7))
  have V62 : Arv Z h62 a7 kA7 .char (13 : Int32) [(.int (102 : Int32)), (.int (105 : Int32)), (.int (120 : Int32)), (.int (101 : Int32)), (.int (100 : Int32)), (.int (45 : Int32)), (.int (0 : Int32)), (.int (0 : Int32)), (.int (0 : Int32)), (.int (0 : Int32)), (.int (0 : Int32)), (.int (0 : Int32)), (.int (0 : Int32))] (.int (0 : Int32)) := A62
  refine Wk.aload X62 hx (hb hby at_98) rfl rfl rfl ?_
  refine Wk.bipush X62 hx (v := (6 : Int32)) (hb hby at_100) rfl rfl ?_
  refine Wk.aload X62 hx (hb hby at_102) rfl rfl rfl ?_
  refine Wk.bipush X62 hx (v := (6 : Int32)) (hb hby at_104) rfl rfl ?_
  have KK64 : Keep h1 h62 [] := (KK55.wr W62 (Or.inr (Nat.le_of_eq g7)))
  have f65 : Exa Z h62 a1 "java/lang/String" := (A1.keep KK64)
  have f66 : Fld Z h62 a1 "java/lang/String" "coder" "B" (.int (0 : Int32)) := (C1.keep KK64 nin0)
  have f67 : Fld Z h62 a1 "java/lang/String" "value" "[B" (.ref b1) := (V1.keep KK64 nin0)
  have f68 := (B1.keep KK64 nin0)
  refine Wk.callV X62 hx hZ1 (y := (⟨"java/lang/String", "charAt", "(I)C"⟩ : MethodName)) (z := (⟨"java/lang/String", "charAt", "(I)C"⟩ : MethodName)) ho1 (w 11 _ rfl) (w 12 _ rfl) (notFace_of_selects (args := #[]) (mvT hZ1 (w 14 _ rfl))) (w 14 _ rfl) (w 13 _ rfl) (by decide) (as' := [(.int (6 : Int32))]) (backOf (W := 2) (rm_cha l Z a0 hw [] a1 b1 G1 (6 : Int32) kb1 (13 : Int32) _ (112 : Int32) G3 h62 O63 SG1 nG1 rG3 SG3 f65 f66 f67 f68 (by decide) (by decide) (by first | assumption | rfl | decide | exact Nat.le_of_ble_eq_true rfl) (show Lat (112 : Int32) from ⟨by decide, by decide⟩)) hZ1 (w 15 _ rfl) (w 1 _ rfl) (by decide) (by decide)) e62 f65 (by rw [hml]; rfl) (rest := [(.int (6 : Int32)), (.ref a7)]) (lenOf pd20 rfl) rfl (Nat.le_of_eq rfl) (hb hby at_106) rfl (by decide) (by decide) ?_
  intro T69 h69 v69 L69 X69 e69 hQ69
  obtain ⟨rfl, Nq69, K69⟩ := hQ69
  have KK70 : Keep h0 h62 [] := (KK61.wr W62 (Or.inr (Nat.le_trans KK17.1 (Nat.le_of_eq g7))))
  have N69 := Fk.app N62 Nq69 KK70.1 all0
  rw [K69] at e69
  show Wp p e below _ _ T69 (mkF m 109 #[.val (.int p0), .val (.int p1), .val (.int p2), .val (.int p3), .val (.ref a1), .val (.int i3), .val (.int i4), .val (.int c5), .val (.int c6), .val (.ref a7), .unset, .unset, .unset, .unset, .unset] [(.int (112 : Int32)), (.int (6 : Int32)), (.ref a7)])
  refine Wk.castore X69 hx hZ1 e69 V62 (by decide) (by decide) 6 rfl (Nat.le_of_ble_eq_true rfl) (w := (112 : Int32)) rfl (hb hby at_109) rfl ?_
  intro T71 h71 L71 M71 X71 e71 W71 A71
  have N71 := M71 _ _ N69 (Or.inr (Nat.le_trans KK17.1 (Nat.le_of_eq g7)))
  have O72 : Old Z Z.heap.size h71 := O63.wr W71 (Nat.le_trans (Nat.le_trans (Nat.le_trans (Nat.le_of_eq O0.1.symm) O0.2.1) KK17.1) (Nat.le_of_eq g7))
  have V71 : Arv Z h71 a7 kA7 .char (13 : Int32) [(.int (102 : Int32)), (.int (105 : Int32)), (.int (120 : Int32)), (.int (101 : Int32)), (.int (100 : Int32)), (.int (45 : Int32)), (.int (112 : Int32)), (.int (0 : Int32)), (.int (0 : Int32)), (.int (0 : Int32)), (.int (0 : Int32)), (.int (0 : Int32)), (.int (0 : Int32))] (.int (0 : Int32)) := A71
  refine Wk.aload X71 hx (hb hby at_110) rfl rfl rfl ?_
  refine Wk.bipush X71 hx (v := (7 : Int32)) (hb hby at_112) rfl rfl ?_
  refine Wk.aload X71 hx (hb hby at_114) rfl rfl rfl ?_
  refine Wk.bipush X71 hx (v := (7 : Int32)) (hb hby at_116) rfl rfl ?_
  have KK73 : Keep h1 h71 [] := (KK64.wr W71 (Or.inr (Nat.le_of_eq g7)))
  have f74 : Exa Z h71 a1 "java/lang/String" := (A1.keep KK73)
  have f75 : Fld Z h71 a1 "java/lang/String" "coder" "B" (.int (0 : Int32)) := (C1.keep KK73 nin0)
  have f76 : Fld Z h71 a1 "java/lang/String" "value" "[B" (.ref b1) := (V1.keep KK73 nin0)
  have f77 := (B1.keep KK73 nin0)
  refine Wk.callV X71 hx hZ1 (y := (⟨"java/lang/String", "charAt", "(I)C"⟩ : MethodName)) (z := (⟨"java/lang/String", "charAt", "(I)C"⟩ : MethodName)) ho1 (w 11 _ rfl) (w 12 _ rfl) (notFace_of_selects (args := #[]) (mvT hZ1 (w 14 _ rfl))) (w 14 _ rfl) (w 13 _ rfl) (by decide) (as' := [(.int (7 : Int32))]) (backOf (W := 2) (rm_cha l Z a0 hw [] a1 b1 G1 (7 : Int32) kb1 (13 : Int32) _ (108 : Int32) G3 h71 O72 SG1 nG1 rG3 SG3 f74 f75 f76 f77 (by decide) (by decide) (by first | assumption | rfl | decide | exact Nat.le_of_ble_eq_true rfl) (show Lat (108 : Int32) from ⟨by decide, by decide⟩)) hZ1 (w 15 _ rfl) (w 1 _ rfl) (by decide) (by decide)) e71 f74 (by rw [hml]; rfl) (rest := [(.int (7 : Int32)), (.ref a7)]) (lenOf pd20 rfl) rfl (Nat.le_of_eq rfl) (hb hby at_118) rfl (by decide) (by decide) ?_
  intro T78 h78 v78 L78 X78 e78 hQ78
  obtain ⟨rfl, Nq78, K78⟩ := hQ78
  have KK79 : Keep h0 h71 [] := (KK70.wr W71 (Or.inr (Nat.le_trans KK17.1 (Nat.le_of_eq g7))))
  have N78 := Fk.app N71 Nq78 KK79.1 all0
  rw [K78] at e78
  show Wp p e below _ _ T78 (mkF m 121 #[.val (.int p0), .val (.int p1), .val (.int p2), .val (.int p3), .val (.ref a1), .val (.int i3), .val (.int i4), .val (.int c5), .val (.int c6), .val (.ref a7), .unset, .unset, .unset, .unset, .unset] [(.int (108 : Int32)), (.int (7 : Int32)), (.ref a7)])
  refine Wk.castore X78 hx hZ1 e78 V71 (by decide) (by decide) 7 rfl (Nat.le_of_ble_eq_true rfl) (w := (108 : Int32)) rfl (hb hby at_121) rfl ?_
  intro T80 h80 L80 M80 X80 e80 W80 A80
  have N80 := M80 _ _ N78 (Or.inr (Nat.le_trans KK17.1 (Nat.le_of_eq g7)))
  have O81 : Old Z Z.heap.size h80 := O72.wr W80 (Nat.le_trans (Nat.le_trans (Nat.le_trans (Nat.le_of_eq O0.1.symm) O0.2.1) KK17.1) (Nat.le_of_eq g7))
  have V80 : Arv Z h80 a7 kA7 .char (13 : Int32) [(.int (102 : Int32)), (.int (105 : Int32)), (.int (120 : Int32)), (.int (101 : Int32)), (.int (100 : Int32)), (.int (45 : Int32)), (.int (112 : Int32)), (.int (108 : Int32)), (.int (0 : Int32)), (.int (0 : Int32)), (.int (0 : Int32)), (.int (0 : Int32)), (.int (0 : Int32))] (.int (0 : Int32)) := A80
  refine Wk.aload X80 hx (hb hby at_122) rfl rfl rfl ?_
  refine Wk.bipush X80 hx (v := (8 : Int32)) (hb hby at_124) rfl rfl ?_
  refine Wk.aload X80 hx (hb hby at_126) rfl rfl rfl ?_
  refine Wk.bipush X80 hx (v := (8 : Int32)) (hb hby at_128) rfl rfl ?_
  have KK82 : Keep h1 h80 [] := (KK73.wr W80 (Or.inr (Nat.le_of_eq g7)))
  have f83 : Exa Z h80 a1 "java/lang/String" := (A1.keep KK82)
  have f84 : Fld Z h80 a1 "java/lang/String" "coder" "B" (.int (0 : Int32)) := (C1.keep KK82 nin0)
  have f85 : Fld Z h80 a1 "java/lang/String" "value" "[B" (.ref b1) := (V1.keep KK82 nin0)
  have f86 := (B1.keep KK82 nin0)
  refine Wk.callV X80 hx hZ1 (y := (⟨"java/lang/String", "charAt", "(I)C"⟩ : MethodName)) (z := (⟨"java/lang/String", "charAt", "(I)C"⟩ : MethodName)) ho1 (w 11 _ rfl) (w 12 _ rfl) (notFace_of_selects (args := #[]) (mvT hZ1 (w 14 _ rfl))) (w 14 _ rfl) (w 13 _ rfl) (by decide) (as' := [(.int (8 : Int32))]) (backOf (W := 2) (rm_cha l Z a0 hw [] a1 b1 G1 (8 : Int32) kb1 (13 : Int32) _ (117 : Int32) G3 h80 O81 SG1 nG1 rG3 SG3 f83 f84 f85 f86 (by decide) (by decide) (by first | assumption | rfl | decide | exact Nat.le_of_ble_eq_true rfl) (show Lat (117 : Int32) from ⟨by decide, by decide⟩)) hZ1 (w 15 _ rfl) (w 1 _ rfl) (by decide) (by decide)) e80 f83 (by rw [hml]; rfl) (rest := [(.int (8 : Int32)), (.ref a7)]) (lenOf pd20 rfl) rfl (Nat.le_of_eq rfl) (hb hby at_130) rfl (by decide) (by decide) ?_
  intro T87 h87 v87 L87 X87 e87 hQ87
  obtain ⟨rfl, Nq87, K87⟩ := hQ87
  have KK88 : Keep h0 h80 [] := (KK79.wr W80 (Or.inr (Nat.le_trans KK17.1 (Nat.le_of_eq g7))))
  have N87 := Fk.app N80 Nq87 KK88.1 all0
  rw [K87] at e87
  show Wp p e below _ _ T87 (mkF m 133 #[.val (.int p0), .val (.int p1), .val (.int p2), .val (.int p3), .val (.ref a1), .val (.int i3), .val (.int i4), .val (.int c5), .val (.int c6), .val (.ref a7), .unset, .unset, .unset, .unset, .unset] [(.int (117 : Int32)), (.int (8 : Int32)), (.ref a7)])
  refine Wk.castore X87 hx hZ1 e87 V80 (by decide) (by decide) 8 rfl (Nat.le_of_ble_eq_true rfl) (w := (117 : Int32)) rfl (hb hby at_133) rfl ?_
  intro T89 h89 L89 M89 X89 e89 W89 A89
  have N89 := M89 _ _ N87 (Or.inr (Nat.le_trans KK17.1 (Nat.le_of_eq g7)))
  have O90 : Old Z Z.heap.size h89 := O81.wr W89 (Nat.le_trans (Nat.le_trans (Nat.le_trans (Nat.le_of_eq O0.1.symm) O0.2.1) KK17.1) (Nat.le_of_eq g7))
  have V89 : Arv Z h89 a7 kA7 .char (13 : Int32) [(.int (102 : Int32)), (.int (105 : Int32)), (.int (120 : Int32)), (.int (101 : Int32)), (.int (100 : Int32)), (.int (45 : Int32)), (.int (112 : Int32)), (.int (108 : Int32)), (.int (117 : Int32)), (.int (0 : Int32)), (.int (0 : Int32)), (.int (0 : Int32)), (.int (0 : Int32))] (.int (0 : Int32)) := A89
  refine Wk.aload X89 hx (hb hby at_134) rfl rfl rfl ?_
  refine Wk.bipush X89 hx (v := (9 : Int32)) (hb hby at_136) rfl rfl ?_
  refine Wk.aload X89 hx (hb hby at_138) rfl rfl rfl ?_
  refine Wk.bipush X89 hx (v := (9 : Int32)) (hb hby at_140) rfl rfl ?_
  have KK91 : Keep h1 h89 [] := (KK82.wr W89 (Or.inr (Nat.le_of_eq g7)))
  have f92 : Exa Z h89 a1 "java/lang/String" := (A1.keep KK91)
  have f93 : Fld Z h89 a1 "java/lang/String" "coder" "B" (.int (0 : Int32)) := (C1.keep KK91 nin0)
  have f94 : Fld Z h89 a1 "java/lang/String" "value" "[B" (.ref b1) := (V1.keep KK91 nin0)
  have f95 := (B1.keep KK91 nin0)
  refine Wk.callV X89 hx hZ1 (y := (⟨"java/lang/String", "charAt", "(I)C"⟩ : MethodName)) (z := (⟨"java/lang/String", "charAt", "(I)C"⟩ : MethodName)) ho1 (w 11 _ rfl) (w 12 _ rfl) (notFace_of_selects (args := #[]) (mvT hZ1 (w 14 _ rfl))) (w 14 _ rfl) (w 13 _ rfl) (by decide) (as' := [(.int (9 : Int32))]) (backOf (W := 2) (rm_cha l Z a0 hw [] a1 b1 G1 (9 : Int32) kb1 (13 : Int32) _ (115 : Int32) G3 h89 O90 SG1 nG1 rG3 SG3 f92 f93 f94 f95 (by decide) (by decide) (by first | assumption | rfl | decide | exact Nat.le_of_ble_eq_true rfl) (show Lat (115 : Int32) from ⟨by decide, by decide⟩)) hZ1 (w 15 _ rfl) (w 1 _ rfl) (by decide) (by decide)) e89 f92 (by rw [hml]; rfl) (rest := [(.int (9 : Int32)), (.ref a7)]) (lenOf pd20 rfl) rfl (Nat.le_of_eq rfl) (hb hby at_142) rfl (by decide) (by decide) ?_
  intro T96 h96 v96 L96 X96 e96 hQ96
  obtain ⟨rfl, Nq96, K96⟩ := hQ96
  have KK97 : Keep h0 h89 [] := (KK88.wr W89 (Or.inr (Nat.le_trans KK17.1 (Nat.le_of_eq g7))))
  have N96 := Fk.app N89 Nq96 KK97.1 all0
  rw [K96] at e96
  show Wp p e below _ _ T96 (mkF m 145 #[.val (.int p0), .val (.int p1), .val (.int p2), .val (.int p3), .val (.ref a1), .val (.int i3), .val (.int i4), .val (.int c5), .val (.int c6), .val (.ref a7), .unset, .unset, .unset, .unset, .unset] [(.int (115 : Int32)), (.int (9 : Int32)), (.ref a7)])
  refine Wk.castore X96 hx hZ1 e96 V89 (by decide) (by decide) 9 rfl (Nat.le_of_ble_eq_true rfl) (w := (115 : Int32)) rfl (hb hby at_145) rfl ?_
  intro T98 h98 L98 M98 X98 e98 W98 A98
  have N98 := M98 _ _ N96 (Or.inr (Nat.le_trans KK17.1 (Nat.le_of_eq g7)))
  have O99 : Old Z Z.heap.size h98 := O90.wr W98 (Nat.le_trans (Nat.le_trans (Nat.le_trans (Nat.le_of_eq O0.1.symm) O0.2.1) KK17.1) (Nat.le_of_eq g7))
  have V98 : Arv Z h98 a7 kA7 .char (13 : Int32) [(.int (102 : Int32)), (.int (105 : Int32)), (.int (120 : Int32)), (.int (101 : Int32)), (.int (100 : Int32)), (.int (45 : Int32)), (.int (112 : Int32)), (.int (108 : Int32)), (.int (117 : Int32)), (.int (115 : Int32)), (.int (0 : Int32)), (.int (0 : Int32)), (.int (0 : Int32))] (.int (0 : Int32)) := A98
  refine Wk.aload X98 hx (hb hby at_146) rfl rfl rfl ?_
  refine Wk.bipush X98 hx (v := (10 : Int32)) (hb hby at_148) rfl rfl ?_
  refine Wk.aload X98 hx (hb hby at_150) rfl rfl rfl ?_
  refine Wk.bipush X98 hx (v := (10 : Int32)) (hb hby at_152) rfl rfl ?_
  have KK100 : Keep h1 h98 [] := (KK91.wr W98 (Or.inr (Nat.le_of_eq g7)))
  have f101 : Exa Z h98 a1 "java/lang/String" := (A1.keep KK100)
  have f102 : Fld Z h98 a1 "java/lang/String" "coder" "B" (.int (0 : Int32)) := (C1.keep KK100 nin0)
  have f103 : Fld Z h98 a1 "java/lang/String" "value" "[B" (.ref b1) := (V1.keep KK100 nin0)
  have f104 := (B1.keep KK100 nin0)
  refine Wk.callV X98 hx hZ1 (y := (⟨"java/lang/String", "charAt", "(I)C"⟩ : MethodName)) (z := (⟨"java/lang/String", "charAt", "(I)C"⟩ : MethodName)) ho1 (w 11 _ rfl) (w 12 _ rfl) (notFace_of_selects (args := #[]) (mvT hZ1 (w 14 _ rfl))) (w 14 _ rfl) (w 13 _ rfl) (by decide) (as' := [(.int (10 : Int32))]) (backOf (W := 2) (rm_cha l Z a0 hw [] a1 b1 G1 (10 : Int32) kb1 (13 : Int32) _ (45 : Int32) G3 h98 O99 SG1 nG1 rG3 SG3 f101 f102 f103 f104 (by decide) (by decide) (by first | assumption | rfl | decide | exact Nat.le_of_ble_eq_true rfl) (show Lat (45 : Int32) from ⟨by decide, by decide⟩)) hZ1 (w 15 _ rfl) (w 1 _ rfl) (by decide) (by decide)) e98 f101 (by rw [hml]; rfl) (rest := [(.int (10 : Int32)), (.ref a7)]) (lenOf pd20 rfl) rfl (Nat.le_of_eq rfl) (hb hby at_154) rfl (by decide) (by decide) ?_
  intro T105 h105 v105 L105 X105 e105 hQ105
  obtain ⟨rfl, Nq105, K105⟩ := hQ105
  have KK106 : Keep h0 h98 [] := (KK97.wr W98 (Or.inr (Nat.le_trans KK17.1 (Nat.le_of_eq g7))))
  have N105 := Fk.app N98 Nq105 KK106.1 all0
  rw [K105] at e105
  show Wp p e below _ _ T105 (mkF m 157 #[.val (.int p0), .val (.int p1), .val (.int p2), .val (.int p3), .val (.ref a1), .val (.int i3), .val (.int i4), .val (.int c5), .val (.int c6), .val (.ref a7), .unset, .unset, .unset, .unset, .unset] [(.int (45 : Int32)), (.int (10 : Int32)), (.ref a7)])
  refine Wk.castore X105 hx hZ1 e105 V98 (by decide) (by decide) 10 rfl (Nat.le_of_ble_eq_true rfl) (w := (45 : Int32)) rfl (hb hby at_157) rfl ?_
  intro T107 h107 L107 M107 X107 e107 W107 A107
  have N107 := M107 _ _ N105 (Or.inr (Nat.le_trans KK17.1 (Nat.le_of_eq g7)))
  have O108 : Old Z Z.heap.size h107 := O99.wr W107 (Nat.le_trans (Nat.le_trans (Nat.le_trans (Nat.le_of_eq O0.1.symm) O0.2.1) KK17.1) (Nat.le_of_eq g7))
  have V107 : Arv Z h107 a7 kA7 .char (13 : Int32) [(.int (102 : Int32)), (.int (105 : Int32)), (.int (120 : Int32)), (.int (101 : Int32)), (.int (100 : Int32)), (.int (45 : Int32)), (.int (112 : Int32)), (.int (108 : Int32)), (.int (117 : Int32)), (.int (115 : Int32)), (.int (45 : Int32)), (.int (0 : Int32)), (.int (0 : Int32))] (.int (0 : Int32)) := A107
  refine Wk.aload X107 hx (hb hby at_158) rfl rfl rfl ?_
  refine Wk.bipush X107 hx (v := (11 : Int32)) (hb hby at_160) rfl rfl ?_
  refine Wk.aload X107 hx (hb hby at_162) rfl rfl rfl ?_
  refine Wk.bipush X107 hx (v := (11 : Int32)) (hb hby at_164) rfl rfl ?_
  have KK109 : Keep h1 h107 [] := (KK100.wr W107 (Or.inr (Nat.le_of_eq g7)))
  have f110 : Exa Z h107 a1 "java/lang/String" := (A1.keep KK109)
  have f111 : Fld Z h107 a1 "java/lang/String" "coder" "B" (.int (0 : Int32)) := (C1.keep KK109 nin0)
  have f112 : Fld Z h107 a1 "java/lang/String" "value" "[B" (.ref b1) := (V1.keep KK109 nin0)
  have f113 := (B1.keep KK109 nin0)
  refine Wk.callV X107 hx hZ1 (y := (⟨"java/lang/String", "charAt", "(I)C"⟩ : MethodName)) (z := (⟨"java/lang/String", "charAt", "(I)C"⟩ : MethodName)) ho1 (w 11 _ rfl) (w 12 _ rfl) (notFace_of_selects (args := #[]) (mvT hZ1 (w 14 _ rfl))) (w 14 _ rfl) (w 13 _ rfl) (by decide) (as' := [(.int (11 : Int32))]) (backOf (W := 2) (rm_cha l Z a0 hw [] a1 b1 G1 (11 : Int32) kb1 (13 : Int32) _ (105 : Int32) G3 h107 O108 SG1 nG1 rG3 SG3 f110 f111 f112 f113 (by decide) (by decide) (by first | assumption | rfl | decide | exact Nat.le_of_ble_eq_true rfl) (show Lat (105 : Int32) from ⟨by decide, by decide⟩)) hZ1 (w 15 _ rfl) (w 1 _ rfl) (by decide) (by decide)) e107 f110 (by rw [hml]; rfl) (rest := [(.int (11 : Int32)), (.ref a7)]) (lenOf pd20 rfl) rfl (Nat.le_of_eq rfl) (hb hby at_166) rfl (by decide) (by decide) ?_
  intro T114 h114 v114 L114 X114 e114 hQ114
  obtain ⟨rfl, Nq114, K114⟩ := hQ114
  have KK115 : Keep h0 h107 [] := (KK106.wr W107 (Or.inr (Nat.le_trans KK17.1 (Nat.le_of_eq g7))))
  have N114 := Fk.app N107 Nq114 KK115.1 all0
  rw [K114] at e114
  show Wp p e below _ _ T114 (mkF m 169 #[.val (.int p0), .val (.int p1), .val (.int p2), .val (.int p3), .val (.ref a1), .val (.int i3), .val (.int i4), .val (.int c5), .val (.int c6), .val (.ref a7), .unset, .unset, .unset, .unset, .unset] [(.int (105 : Int32)), (.int (11 : Int32)), (.ref a7)])
  refine Wk.castore X114 hx hZ1 e114 V107 (by decide) (by decide) 11 rfl (Nat.le_of_ble_eq_true rfl) (w := (105 : Int32)) rfl (hb hby at_169) rfl ?_
  intro T116 h116 L116 M116 X116 e116 W116 A116
  have N116 := M116 _ _ N114 (Or.inr (Nat.le_trans KK17.1 (Nat.le_of_eq g7)))
  have O117 : Old Z Z.heap.size h116 := O108.wr W116 (Nat.le_trans (Nat.le_trans (Nat.le_trans (Nat.le_of_eq O0.1.symm) O0.2.1) KK17.1) (Nat.le_of_eq g7))
  have V116 : Arv Z h116 a7 kA7 .char (13 : Int32) [(.int (102 : Int32)), (.int (105 : Int32)), (.int (120 : Int32)), (.int (101 : Int32)), (.int (100 : Int32)), (.int (45 : Int32)), (.int (112 : Int32)), (.int (108 : Int32)), (.int (117 : Int32)), (.int (115 : Int32)), (.int (45 : Int32)), (.int (105 : Int32)), (.int (0 : Int32))] (.int (0 : Int32)) := A116
  refine Wk.aload X116 hx (hb hby at_170) rfl rfl rfl ?_
  refine Wk.bipush X116 hx (v := (12 : Int32)) (hb hby at_172) rfl rfl ?_
  refine Wk.aload X116 hx (hb hby at_174) rfl rfl rfl ?_
  refine Wk.bipush X116 hx (v := (12 : Int32)) (hb hby at_176) rfl rfl ?_
  have KK118 : Keep h1 h116 [] := (KK109.wr W116 (Or.inr (Nat.le_of_eq g7)))
  have f119 : Exa Z h116 a1 "java/lang/String" := (A1.keep KK118)
  have f120 : Fld Z h116 a1 "java/lang/String" "coder" "B" (.int (0 : Int32)) := (C1.keep KK118 nin0)
  have f121 : Fld Z h116 a1 "java/lang/String" "value" "[B" (.ref b1) := (V1.keep KK118 nin0)
  have f122 := (B1.keep KK118 nin0)
  refine Wk.callV X116 hx hZ1 (y := (⟨"java/lang/String", "charAt", "(I)C"⟩ : MethodName)) (z := (⟨"java/lang/String", "charAt", "(I)C"⟩ : MethodName)) ho1 (w 11 _ rfl) (w 12 _ rfl) (notFace_of_selects (args := #[]) (mvT hZ1 (w 14 _ rfl))) (w 14 _ rfl) (w 13 _ rfl) (by decide) (as' := [(.int (12 : Int32))]) (backOf (W := 2) (rm_cha l Z a0 hw [] a1 b1 G1 (12 : Int32) kb1 (13 : Int32) _ (105 : Int32) G3 h116 O117 SG1 nG1 rG3 SG3 f119 f120 f121 f122 (by decide) (by decide) (by first | assumption | rfl | decide | exact Nat.le_of_ble_eq_true rfl) (show Lat (105 : Int32) from ⟨by decide, by decide⟩)) hZ1 (w 15 _ rfl) (w 1 _ rfl) (by decide) (by decide)) e116 f119 (by rw [hml]; rfl) (rest := [(.int (12 : Int32)), (.ref a7)]) (lenOf pd20 rfl) rfl (Nat.le_of_eq rfl) (hb hby at_178) rfl (by decide) (by decide) ?_
  intro T123 h123 v123 L123 X123 e123 hQ123
  obtain ⟨rfl, Nq123, K123⟩ := hQ123
  have KK124 : Keep h0 h116 [] := (KK115.wr W116 (Or.inr (Nat.le_trans KK17.1 (Nat.le_of_eq g7))))
  have N123 := Fk.app N116 Nq123 KK124.1 all0
  rw [K123] at e123
  show Wp p e below _ _ T123 (mkF m 181 #[.val (.int p0), .val (.int p1), .val (.int p2), .val (.int p3), .val (.ref a1), .val (.int i3), .val (.int i4), .val (.int c5), .val (.int c6), .val (.ref a7), .unset, .unset, .unset, .unset, .unset] [(.int (105 : Int32)), (.int (12 : Int32)), (.ref a7)])
  refine Wk.castore X123 hx hZ1 e123 V116 (by decide) (by decide) 12 rfl (Nat.le_of_ble_eq_true rfl) (w := (105 : Int32)) rfl (hb hby at_181) rfl ?_
  intro T125 h125 L125 M125 X125 e125 W125 A125
  have N125 := M125 _ _ N123 (Or.inr (Nat.le_trans KK17.1 (Nat.le_of_eq g7)))
  have O126 : Old Z Z.heap.size h125 := O117.wr W125 (Nat.le_trans (Nat.le_trans (Nat.le_trans (Nat.le_of_eq O0.1.symm) O0.2.1) KK17.1) (Nat.le_of_eq g7))
  have V125 : Arv Z h125 a7 kA7 .char (13 : Int32) [(.int (102 : Int32)), (.int (105 : Int32)), (.int (120 : Int32)), (.int (101 : Int32)), (.int (100 : Int32)), (.int (45 : Int32)), (.int (112 : Int32)), (.int (108 : Int32)), (.int (117 : Int32)), (.int (115 : Int32)), (.int (45 : Int32)), (.int (105 : Int32)), (.int (105 : Int32))] (.int (0 : Int32)) := A125
  have key : ∀ (cz0 cz1 cz2 cz3 cz4 cz5 cz6 cz7 cz8 cz9 cz10 cz11 cz12 : Int32) (Tj : State) (hj : Heap) (Lj : List Loc), Chr cz0 → Chr cz1 → Chr cz2 → Chr cz3 → Chr cz4 → Chr cz5 → Chr cz6 → Chr cz7 → Chr cz8 → Chr cz9 → Chr cz10 → Chr cz11 → Chr cz12 → RelP i4 c5 cz0 cz1 cz2 cz3 cz4 cz5 cz6 cz7 cz8 cz9 cz10 cz11 cz12 → Stand p l e room_1 (s.setVm vm1) m #[(.int p0), (.int p1), (.int p2), (.int p3)] below meth c Tj Lj 3 69 → Tj.heap = hj → Fk h0.size [] Lj → Keep h125 hj [a7] → Arv Z hj a7 kA7 .char (13 : Int32) [(.int cz0), (.int cz1), (.int cz2), (.int cz3), (.int cz4), (.int cz5), (.int cz6), (.int cz7), (.int cz8), (.int cz9), (.int cz10), (.int cz11), (.int cz12)] (.int (0 : Int32)) → Wp p e below (fun v t L => Q_rm_law Z p0 p1 p2 p3 G1 G3 va kv kf lb_ lt lk h0 v t.vm t.heap L) (WF s room_1.cells room_1.slots) Tj (mkF m 196 #[.val (.int p0), .val (.int p1), .val (.int p2), .val (.int p3), .val (.ref a1), .val (.int i3), .val (.int i4), .val (.int c5), .val (.int c6), .val (.ref a7), .unset, .unset, .unset, .unset, .unset] []) := by
    intro cz0 cz1 cz2 cz3 cz4 cz5 cz6 cz7 cz8 cz9 cz10 cz11 cz12 Tj hj Lj hccz0 hccz1 hccz2 hccz3 hccz4 hccz5 hccz6 hccz7 hccz8 hccz9 hccz10 hccz11 hccz12 hRel Xj ej Nj Kj Fj
    have O127 : Old Z Z.heap.size hj := O126.keep Kj (allS (Nat.le_trans (Nat.le_trans (Nat.le_trans (Nat.le_of_eq O0.1.symm) O0.2.1) KK17.1) (Nat.le_of_eq g7)) all0)
    show Wp p e below _ _ Tj (mkF m 196 #[.val (.int p0), .val (.int p1), .val (.int p2), .val (.int p3), .val (.ref a1), .val (.int i3), .val (.int i4), .val (.int c5), .val (.int c6), .val (.ref a7), .unset, .unset, .unset, .unset, .unset] [])
    refine Wk.bipush Xj hx (v := (12 : Int32)) (hb hby at_196) rfl rfl ?_
    refine Wk.newarray Xj hx hZ1 (w 10 _ rfl) ej (hb hby at_198) rfl (by decide) 12 (by decide) (by decide) (by decide) (by decide) ?_
    intro T128 h128 a128 kA128 g128 X128 e128 E128 A128
    have O129 : Old Z Z.heap.size h128 := O127.ext E128
    have V128 : Arv Z h128 a128 kA128 .char (12 : Int32) [(.int (0 : Int32)), (.int (0 : Int32)), (.int (0 : Int32)), (.int (0 : Int32)), (.int (0 : Int32)), (.int (0 : Int32)), (.int (0 : Int32)), (.int (0 : Int32)), (.int (0 : Int32)), (.int (0 : Int32)), (.int (0 : Int32)), (.int (0 : Int32))] (.int (0 : Int32)) := A128.pad (pad_rep [] (.int (0 : Int32)) 12)
    refine Wk.astore X128 hx (Ls' := #[.val (.int p0), .val (.int p1), .val (.int p2), .val (.int p3), .val (.ref a1), .val (.int i3), .val (.int i4), .val (.int c5), .val (.int c6), .val (.ref a7), .val (.ref a128), .unset, .unset, .unset, .unset]) (hb hby at_200) rfl rfl rfl ?_
    refine Wk.aload X128 hx (hb hby at_202) rfl rfl rfl ?_
    refine Wk.iconst X128 hx (v := (0 : Int32)) (hb hby at_204) rfl rfl ?_
    refine Wk.aload X128 hx (hb hby at_205) rfl rfl rfl ?_
    refine Wk.iconst X128 hx (v := (0 : Int32)) (hb hby at_207) rfl rfl ?_
    have KK130 : Keep hj h128 [] := ((Keep.refl hj []).ext E128)
    have f131 := (Fj.keep KK130 nin0)
    refine Wk.caload X128 hx hZ1 e128 f131 (by decide) (by decide) (v := cz0) rfl (hb hby at_208) rfl ?_
    refine Wk.castore X128 hx hZ1 e128 V128 (by decide) (by decide) 0 rfl (Nat.le_of_ble_eq_true rfl) (w := cz0) (narC hccz0) (hb hby at_209) rfl ?_
    intro T132 h132 L132 M132 X132 e132 W132 A132
    have KK133 : Keep h0 hj [] := ((KK124.wr W125 (Or.inr (Nat.le_trans KK17.1 (Nat.le_of_eq g7)))).trans Kj (allS (Or.inr (Nat.le_trans KK17.1 (Nat.le_of_eq g7))) all0))
    have N132 := M132 _ _ Nj (Or.inr (Nat.le_trans KK133.1 (Nat.le_of_eq g128)))
    have O134 : Old Z Z.heap.size h132 := O129.wr W132 (Nat.le_trans (Nat.le_trans (Nat.le_trans (Nat.le_of_eq O0.1.symm) O0.2.1) KK133.1) (Nat.le_of_eq g128))
    have V132 : Arv Z h132 a128 kA128 .char (12 : Int32) [(.int cz0), (.int (0 : Int32)), (.int (0 : Int32)), (.int (0 : Int32)), (.int (0 : Int32)), (.int (0 : Int32)), (.int (0 : Int32)), (.int (0 : Int32)), (.int (0 : Int32)), (.int (0 : Int32)), (.int (0 : Int32)), (.int (0 : Int32))] (.int (0 : Int32)) := A132
    refine Wk.aload X132 hx (hb hby at_210) rfl rfl rfl ?_
    refine Wk.iconst X132 hx (v := (1 : Int32)) (hb hby at_212) rfl rfl ?_
    refine Wk.aload X132 hx (hb hby at_213) rfl rfl rfl ?_
    refine Wk.iconst X132 hx (v := (1 : Int32)) (hb hby at_215) rfl rfl ?_
    have KK135 : Keep hj h132 [] := (KK130.wr W132 (Or.inr (Nat.le_of_eq g128)))
    have f136 := (Fj.keep KK135 nin0)
    refine Wk.caload X132 hx hZ1 e132 f136 (by decide) (by decide) (v := cz1) rfl (hb hby at_216) rfl ?_
    refine Wk.castore X132 hx hZ1 e132 V132 (by decide) (by decide) 1 rfl (Nat.le_of_ble_eq_true rfl) (w := cz1) (narC hccz1) (hb hby at_217) rfl ?_
    intro T137 h137 L137 M137 X137 e137 W137 A137
    have N137 := M137 _ _ N132 (Or.inr (Nat.le_trans KK133.1 (Nat.le_of_eq g128)))
    have O138 : Old Z Z.heap.size h137 := O134.wr W137 (Nat.le_trans (Nat.le_trans (Nat.le_trans (Nat.le_of_eq O0.1.symm) O0.2.1) KK133.1) (Nat.le_of_eq g128))
    have V137 : Arv Z h137 a128 kA128 .char (12 : Int32) [(.int cz0), (.int cz1), (.int (0 : Int32)), (.int (0 : Int32)), (.int (0 : Int32)), (.int (0 : Int32)), (.int (0 : Int32)), (.int (0 : Int32)), (.int (0 : Int32)), (.int (0 : Int32)), (.int (0 : Int32)), (.int (0 : Int32))] (.int (0 : Int32)) := A137
    refine Wk.aload X137 hx (hb hby at_218) rfl rfl rfl ?_
    refine Wk.iconst X137 hx (v := (2 : Int32)) (hb hby at_220) rfl rfl ?_
    refine Wk.aload X137 hx (hb hby at_221) rfl rfl rfl ?_
    refine Wk.iconst X137 hx (v := (2 : Int32)) (hb hby at_223) rfl rfl ?_
    have KK139 : Keep hj h137 [] := (KK135.wr W137 (Or.inr (Nat.le_of_eq g128)))
    have f140 := (Fj.keep KK139 nin0)
    refine Wk.caload X137 hx hZ1 e137 f140 (by decide) (by decide) (v := cz2) rfl (hb hby at_224) rfl ?_
    refine Wk.castore X137 hx hZ1 e137 V137 (by decide) (by decide) 2 rfl (Nat.le_of_ble_eq_true rfl) (w := cz2) (narC hccz2) (hb hby at_225) rfl ?_
    intro T141 h141 L141 M141 X141 e141 W141 A141
    have N141 := M141 _ _ N137 (Or.inr (Nat.le_trans KK133.1 (Nat.le_of_eq g128)))
    have O142 : Old Z Z.heap.size h141 := O138.wr W141 (Nat.le_trans (Nat.le_trans (Nat.le_trans (Nat.le_of_eq O0.1.symm) O0.2.1) KK133.1) (Nat.le_of_eq g128))
    have V141 : Arv Z h141 a128 kA128 .char (12 : Int32) [(.int cz0), (.int cz1), (.int cz2), (.int (0 : Int32)), (.int (0 : Int32)), (.int (0 : Int32)), (.int (0 : Int32)), (.int (0 : Int32)), (.int (0 : Int32)), (.int (0 : Int32)), (.int (0 : Int32)), (.int (0 : Int32))] (.int (0 : Int32)) := A141
    refine Wk.aload X141 hx (hb hby at_226) rfl rfl rfl ?_
    refine Wk.iconst X141 hx (v := (3 : Int32)) (hb hby at_228) rfl rfl ?_
    refine Wk.aload X141 hx (hb hby at_229) rfl rfl rfl ?_
    refine Wk.iconst X141 hx (v := (3 : Int32)) (hb hby at_231) rfl rfl ?_
    have KK143 : Keep hj h141 [] := (KK139.wr W141 (Or.inr (Nat.le_of_eq g128)))
    have f144 := (Fj.keep KK143 nin0)
    refine Wk.caload X141 hx hZ1 e141 f144 (by decide) (by decide) (v := cz3) rfl (hb hby at_232) rfl ?_
    refine Wk.castore X141 hx hZ1 e141 V141 (by decide) (by decide) 3 rfl (Nat.le_of_ble_eq_true rfl) (w := cz3) (narC hccz3) (hb hby at_233) rfl ?_
    intro T145 h145 L145 M145 X145 e145 W145 A145
    have N145 := M145 _ _ N141 (Or.inr (Nat.le_trans KK133.1 (Nat.le_of_eq g128)))
    have O146 : Old Z Z.heap.size h145 := O142.wr W145 (Nat.le_trans (Nat.le_trans (Nat.le_trans (Nat.le_of_eq O0.1.symm) O0.2.1) KK133.1) (Nat.le_of_eq g128))
    have V145 : Arv Z h145 a128 kA128 .char (12 : Int32) [(.int cz0), (.int cz1), (.int cz2), (.int cz3), (.int (0 : Int32)), (.int (0 : Int32)), (.int (0 : Int32)), (.int (0 : Int32)), (.int (0 : Int32)), (.int (0 : Int32)), (.int (0 : Int32)), (.int (0 : Int32))] (.int (0 : Int32)) := A145
    refine Wk.aload X145 hx (hb hby at_234) rfl rfl rfl ?_
    refine Wk.iconst X145 hx (v := (4 : Int32)) (hb hby at_236) rfl rfl ?_
    refine Wk.aload X145 hx (hb hby at_237) rfl rfl rfl ?_
    refine Wk.iconst X145 hx (v := (4 : Int32)) (hb hby at_239) rfl rfl ?_
    have KK147 : Keep hj h145 [] := (KK143.wr W145 (Or.inr (Nat.le_of_eq g128)))
    have f148 := (Fj.keep KK147 nin0)
    refine Wk.caload X145 hx hZ1 e145 f148 (by decide) (by decide) (v := cz4) rfl (hb hby at_240) rfl ?_
    refine Wk.castore X145 hx hZ1 e145 V145 (by decide) (by decide) 4 rfl (Nat.le_of_ble_eq_true rfl) (w := cz4) (narC hccz4) (hb hby at_241) rfl ?_
    intro T149 h149 L149 M149 X149 e149 W149 A149
    have N149 := M149 _ _ N145 (Or.inr (Nat.le_trans KK133.1 (Nat.le_of_eq g128)))
    have O150 : Old Z Z.heap.size h149 := O146.wr W149 (Nat.le_trans (Nat.le_trans (Nat.le_trans (Nat.le_of_eq O0.1.symm) O0.2.1) KK133.1) (Nat.le_of_eq g128))
    have V149 : Arv Z h149 a128 kA128 .char (12 : Int32) [(.int cz0), (.int cz1), (.int cz2), (.int cz3), (.int cz4), (.int (0 : Int32)), (.int (0 : Int32)), (.int (0 : Int32)), (.int (0 : Int32)), (.int (0 : Int32)), (.int (0 : Int32)), (.int (0 : Int32))] (.int (0 : Int32)) := A149
    refine Wk.aload X149 hx (hb hby at_242) rfl rfl rfl ?_
    refine Wk.iconst X149 hx (v := (5 : Int32)) (hb hby at_244) rfl rfl ?_
    refine Wk.aload X149 hx (hb hby at_245) rfl rfl rfl ?_
    refine Wk.iconst X149 hx (v := (5 : Int32)) (hb hby at_247) rfl rfl ?_
    have KK151 : Keep hj h149 [] := (KK147.wr W149 (Or.inr (Nat.le_of_eq g128)))
    have f152 := (Fj.keep KK151 nin0)
    refine Wk.caload X149 hx hZ1 e149 f152 (by decide) (by decide) (v := cz5) rfl (hb hby at_248) rfl ?_
    refine Wk.castore X149 hx hZ1 e149 V149 (by decide) (by decide) 5 rfl (Nat.le_of_ble_eq_true rfl) (w := cz5) (narC hccz5) (hb hby at_249) rfl ?_
    intro T153 h153 L153 M153 X153 e153 W153 A153
    have N153 := M153 _ _ N149 (Or.inr (Nat.le_trans KK133.1 (Nat.le_of_eq g128)))
    have O154 : Old Z Z.heap.size h153 := O150.wr W153 (Nat.le_trans (Nat.le_trans (Nat.le_trans (Nat.le_of_eq O0.1.symm) O0.2.1) KK133.1) (Nat.le_of_eq g128))
    have V153 : Arv Z h153 a128 kA128 .char (12 : Int32) [(.int cz0), (.int cz1), (.int cz2), (.int cz3), (.int cz4), (.int cz5), (.int (0 : Int32)), (.int (0 : Int32)), (.int (0 : Int32)), (.int (0 : Int32)), (.int (0 : Int32)), (.int (0 : Int32))] (.int (0 : Int32)) := A153
    refine Wk.aload X153 hx (hb hby at_250) rfl rfl rfl ?_
    refine Wk.bipush X153 hx (v := (6 : Int32)) (hb hby at_252) rfl rfl ?_
    refine Wk.aload X153 hx (hb hby at_254) rfl rfl rfl ?_
    refine Wk.bipush X153 hx (v := (6 : Int32)) (hb hby at_256) rfl rfl ?_
    have KK155 : Keep hj h153 [] := (KK151.wr W153 (Or.inr (Nat.le_of_eq g128)))
    have f156 := (Fj.keep KK155 nin0)
    refine Wk.caload X153 hx hZ1 e153 f156 (by decide) (by decide) (v := cz6) rfl (hb hby at_258) rfl ?_
    refine Wk.castore X153 hx hZ1 e153 V153 (by decide) (by decide) 6 rfl (Nat.le_of_ble_eq_true rfl) (w := cz6) (narC hccz6) (hb hby at_259) rfl ?_
    intro T157 h157 L157 M157 X157 e157 W157 A157
    have N157 := M157 _ _ N153 (Or.inr (Nat.le_trans KK133.1 (Nat.le_of_eq g128)))
    have O158 : Old Z Z.heap.size h157 := O154.wr W157 (Nat.le_trans (Nat.le_trans (Nat.le_trans (Nat.le_of_eq O0.1.symm) O0.2.1) KK133.1) (Nat.le_of_eq g128))
    have V157 : Arv Z h157 a128 kA128 .char (12 : Int32) [(.int cz0), (.int cz1), (.int cz2), (.int cz3), (.int cz4), (.int cz5), (.int cz6), (.int (0 : Int32)), (.int (0 : Int32)), (.int (0 : Int32)), (.int (0 : Int32)), (.int (0 : Int32))] (.int (0 : Int32)) := A157
    refine Wk.aload X157 hx (hb hby at_260) rfl rfl rfl ?_
    refine Wk.bipush X157 hx (v := (7 : Int32)) (hb hby at_262) rfl rfl ?_
    refine Wk.aload X157 hx (hb hby at_264) rfl rfl rfl ?_
    refine Wk.bipush X157 hx (v := (7 : Int32)) (hb hby at_266) rfl rfl ?_
    have KK159 : Keep hj h157 [] := (KK155.wr W157 (Or.inr (Nat.le_of_eq g128)))
    have f160 := (Fj.keep KK159 nin0)
    refine Wk.caload X157 hx hZ1 e157 f160 (by decide) (by decide) (v := cz7) rfl (hb hby at_268) rfl ?_
    refine Wk.castore X157 hx hZ1 e157 V157 (by decide) (by decide) 7 rfl (Nat.le_of_ble_eq_true rfl) (w := cz7) (narC hccz7) (hb hby at_269) rfl ?_
    intro T161 h161 L161 M161 X161 e161 W161 A161
    have N161 := M161 _ _ N157 (Or.inr (Nat.le_trans KK133.1 (Nat.le_of_eq g128)))
    have O162 : Old Z Z.heap.size h161 := O158.wr W161 (Nat.le_trans (Nat.le_trans (Nat.le_trans (Nat.le_of_eq O0.1.symm) O0.2.1) KK133.1) (Nat.le_of_eq g128))
    have V161 : Arv Z h161 a128 kA128 .char (12 : Int32) [(.int cz0), (.int cz1), (.int cz2), (.int cz3), (.int cz4), (.int cz5), (.int cz6), (.int cz7), (.int (0 : Int32)), (.int (0 : Int32)), (.int (0 : Int32)), (.int (0 : Int32))] (.int (0 : Int32)) := A161
    refine Wk.aload X161 hx (hb hby at_270) rfl rfl rfl ?_
    refine Wk.bipush X161 hx (v := (8 : Int32)) (hb hby at_272) rfl rfl ?_
    refine Wk.aload X161 hx (hb hby at_274) rfl rfl rfl ?_
    refine Wk.bipush X161 hx (v := (8 : Int32)) (hb hby at_276) rfl rfl ?_
    have KK163 : Keep hj h161 [] := (KK159.wr W161 (Or.inr (Nat.le_of_eq g128)))
    have f164 := (Fj.keep KK163 nin0)
    refine Wk.caload X161 hx hZ1 e161 f164 (by decide) (by decide) (v := cz8) rfl (hb hby at_278) rfl ?_
    refine Wk.castore X161 hx hZ1 e161 V161 (by decide) (by decide) 8 rfl (Nat.le_of_ble_eq_true rfl) (w := cz8) (narC hccz8) (hb hby at_279) rfl ?_
    intro T165 h165 L165 M165 X165 e165 W165 A165
    have N165 := M165 _ _ N161 (Or.inr (Nat.le_trans KK133.1 (Nat.le_of_eq g128)))
    have O166 : Old Z Z.heap.size h165 := O162.wr W165 (Nat.le_trans (Nat.le_trans (Nat.le_trans (Nat.le_of_eq O0.1.symm) O0.2.1) KK133.1) (Nat.le_of_eq g128))
    have V165 : Arv Z h165 a128 kA128 .char (12 : Int32) [(.int cz0), (.int cz1), (.int cz2), (.int cz3), (.int cz4), (.int cz5), (.int cz6), (.int cz7), (.int cz8), (.int (0 : Int32)), (.int (0 : Int32)), (.int (0 : Int32))] (.int (0 : Int32)) := A165
    refine Wk.aload X165 hx (hb hby at_280) rfl rfl rfl ?_
    refine Wk.bipush X165 hx (v := (9 : Int32)) (hb hby at_282) rfl rfl ?_
    refine Wk.aload X165 hx (hb hby at_284) rfl rfl rfl ?_
    refine Wk.bipush X165 hx (v := (9 : Int32)) (hb hby at_286) rfl rfl ?_
    have KK167 : Keep hj h165 [] := (KK163.wr W165 (Or.inr (Nat.le_of_eq g128)))
    have f168 := (Fj.keep KK167 nin0)
    refine Wk.caload X165 hx hZ1 e165 f168 (by decide) (by decide) (v := cz9) rfl (hb hby at_288) rfl ?_
    refine Wk.castore X165 hx hZ1 e165 V165 (by decide) (by decide) 9 rfl (Nat.le_of_ble_eq_true rfl) (w := cz9) (narC hccz9) (hb hby at_289) rfl ?_
    intro T169 h169 L169 M169 X169 e169 W169 A169
    have N169 := M169 _ _ N165 (Or.inr (Nat.le_trans KK133.1 (Nat.le_of_eq g128)))
    have O170 : Old Z Z.heap.size h169 := O166.wr W169 (Nat.le_trans (Nat.le_trans (Nat.le_trans (Nat.le_of_eq O0.1.symm) O0.2.1) KK133.1) (Nat.le_of_eq g128))
    have V169 : Arv Z h169 a128 kA128 .char (12 : Int32) [(.int cz0), (.int cz1), (.int cz2), (.int cz3), (.int cz4), (.int cz5), (.int cz6), (.int cz7), (.int cz8), (.int cz9), (.int (0 : Int32)), (.int (0 : Int32))] (.int (0 : Int32)) := A169
    refine Wk.aload X169 hx (hb hby at_290) rfl rfl rfl ?_
    refine Wk.bipush X169 hx (v := (10 : Int32)) (hb hby at_292) rfl rfl ?_
    refine Wk.aload X169 hx (hb hby at_294) rfl rfl rfl ?_
    refine Wk.bipush X169 hx (v := (10 : Int32)) (hb hby at_296) rfl rfl ?_
    have KK171 : Keep hj h169 [] := (KK167.wr W169 (Or.inr (Nat.le_of_eq g128)))
    have f172 := (Fj.keep KK171 nin0)
    refine Wk.caload X169 hx hZ1 e169 f172 (by decide) (by decide) (v := cz10) rfl (hb hby at_298) rfl ?_
    refine Wk.castore X169 hx hZ1 e169 V169 (by decide) (by decide) 10 rfl (Nat.le_of_ble_eq_true rfl) (w := cz10) (narC hccz10) (hb hby at_299) rfl ?_
    intro T173 h173 L173 M173 X173 e173 W173 A173
    have N173 := M173 _ _ N169 (Or.inr (Nat.le_trans KK133.1 (Nat.le_of_eq g128)))
    have O174 : Old Z Z.heap.size h173 := O170.wr W173 (Nat.le_trans (Nat.le_trans (Nat.le_trans (Nat.le_of_eq O0.1.symm) O0.2.1) KK133.1) (Nat.le_of_eq g128))
    have V173 : Arv Z h173 a128 kA128 .char (12 : Int32) [(.int cz0), (.int cz1), (.int cz2), (.int cz3), (.int cz4), (.int cz5), (.int cz6), (.int cz7), (.int cz8), (.int cz9), (.int cz10), (.int (0 : Int32))] (.int (0 : Int32)) := A173
    refine Wk.aload X173 hx (hb hby at_300) rfl rfl rfl ?_
    refine Wk.bipush X173 hx (v := (11 : Int32)) (hb hby at_302) rfl rfl ?_
    refine Wk.aload X173 hx (hb hby at_304) rfl rfl rfl ?_
    refine Wk.bipush X173 hx (v := (11 : Int32)) (hb hby at_306) rfl rfl ?_
    have KK175 : Keep hj h173 [] := (KK171.wr W173 (Or.inr (Nat.le_of_eq g128)))
    have f176 := (Fj.keep KK175 nin0)
    refine Wk.caload X173 hx hZ1 e173 f176 (by decide) (by decide) (v := cz11) rfl (hb hby at_308) rfl ?_
    refine Wk.castore X173 hx hZ1 e173 V173 (by decide) (by decide) 11 rfl (Nat.le_of_ble_eq_true rfl) (w := cz11) (narC hccz11) (hb hby at_309) rfl ?_
    intro T177 h177 L177 M177 X177 e177 W177 A177
    have N177 := M177 _ _ N173 (Or.inr (Nat.le_trans KK133.1 (Nat.le_of_eq g128)))
    have O178 : Old Z Z.heap.size h177 := O174.wr W177 (Nat.le_trans (Nat.le_trans (Nat.le_trans (Nat.le_of_eq O0.1.symm) O0.2.1) KK133.1) (Nat.le_of_eq g128))
    have V177 : Arv Z h177 a128 kA128 .char (12 : Int32) [(.int cz0), (.int cz1), (.int cz2), (.int cz3), (.int cz4), (.int cz5), (.int cz6), (.int cz7), (.int cz8), (.int cz9), (.int cz10), (.int cz11)] (.int (0 : Int32)) := A177
    refine Wk.bipush X177 hx (v := (14 : Int32)) (hb hby at_310) rfl rfl ?_
    refine Wk.newarray X177 hx hZ1 (w 10 _ rfl) e177 (hb hby at_312) rfl (by decide) 14 (by decide) (by decide) (by decide) (by decide) ?_
    intro T179 h179 a179 kA179 g179 X179 e179 E179 A179
    have O180 : Old Z Z.heap.size h179 := O178.ext E179
    have V179 : Arv Z h179 a179 kA179 .char (14 : Int32) [(.int (0 : Int32)), (.int (0 : Int32)), (.int (0 : Int32)), (.int (0 : Int32)), (.int (0 : Int32)), (.int (0 : Int32)), (.int (0 : Int32)), (.int (0 : Int32)), (.int (0 : Int32)), (.int (0 : Int32)), (.int (0 : Int32)), (.int (0 : Int32)), (.int (0 : Int32)), (.int (0 : Int32))] (.int (0 : Int32)) := A179.pad (pad_rep [] (.int (0 : Int32)) 14)
    refine Wk.astore X179 hx (Ls' := #[.val (.int p0), .val (.int p1), .val (.int p2), .val (.int p3), .val (.ref a1), .val (.int i3), .val (.int i4), .val (.int c5), .val (.int c6), .val (.ref a7), .val (.ref a128), .val (.ref a179), .unset, .unset, .unset]) (hb hby at_314) rfl rfl rfl ?_
    refine Wk.aload X179 hx (hb hby at_316) rfl rfl rfl ?_
    refine Wk.iconst X179 hx (v := (0 : Int32)) (hb hby at_318) rfl rfl ?_
    refine Wk.aload X179 hx (hb hby at_319) rfl rfl rfl ?_
    refine Wk.iconst X179 hx (v := (0 : Int32)) (hb hby at_321) rfl rfl ?_
    have KK181 : Keep hj h179 [] := ((KK175.wr W177 (Or.inr (Nat.le_of_eq g128))).ext E179)
    have f182 := (Fj.keep KK181 nin0)
    refine Wk.caload X179 hx hZ1 e179 f182 (by decide) (by decide) (v := cz0) rfl (hb hby at_322) rfl ?_
    refine Wk.castore X179 hx hZ1 e179 V179 (by decide) (by decide) 0 rfl (Nat.le_of_ble_eq_true rfl) (w := cz0) (narC hccz0) (hb hby at_323) rfl ?_
    intro T183 h183 L183 M183 X183 e183 W183 A183
    have KK184 : Keep h0 h177 [] := (((((((((((((KK133.ext E128).wr W132 (Or.inr (Nat.le_trans KK133.1 (Nat.le_of_eq g128)))).wr W137 (Or.inr (Nat.le_trans KK133.1 (Nat.le_of_eq g128)))).wr W141 (Or.inr (Nat.le_trans KK133.1 (Nat.le_of_eq g128)))).wr W145 (Or.inr (Nat.le_trans KK133.1 (Nat.le_of_eq g128)))).wr W149 (Or.inr (Nat.le_trans KK133.1 (Nat.le_of_eq g128)))).wr W153 (Or.inr (Nat.le_trans KK133.1 (Nat.le_of_eq g128)))).wr W157 (Or.inr (Nat.le_trans KK133.1 (Nat.le_of_eq g128)))).wr W161 (Or.inr (Nat.le_trans KK133.1 (Nat.le_of_eq g128)))).wr W165 (Or.inr (Nat.le_trans KK133.1 (Nat.le_of_eq g128)))).wr W169 (Or.inr (Nat.le_trans KK133.1 (Nat.le_of_eq g128)))).wr W173 (Or.inr (Nat.le_trans KK133.1 (Nat.le_of_eq g128)))).wr W177 (Or.inr (Nat.le_trans KK133.1 (Nat.le_of_eq g128))))
    have N183 := M183 _ _ N177 (Or.inr (Nat.le_trans KK184.1 (Nat.le_of_eq g179)))
    have O185 : Old Z Z.heap.size h183 := O180.wr W183 (Nat.le_trans (Nat.le_trans (Nat.le_trans (Nat.le_of_eq O0.1.symm) O0.2.1) KK184.1) (Nat.le_of_eq g179))
    have V183 : Arv Z h183 a179 kA179 .char (14 : Int32) [(.int cz0), (.int (0 : Int32)), (.int (0 : Int32)), (.int (0 : Int32)), (.int (0 : Int32)), (.int (0 : Int32)), (.int (0 : Int32)), (.int (0 : Int32)), (.int (0 : Int32)), (.int (0 : Int32)), (.int (0 : Int32)), (.int (0 : Int32)), (.int (0 : Int32)), (.int (0 : Int32))] (.int (0 : Int32)) := A183
    refine Wk.aload X183 hx (hb hby at_324) rfl rfl rfl ?_
    refine Wk.iconst X183 hx (v := (1 : Int32)) (hb hby at_326) rfl rfl ?_
    refine Wk.aload X183 hx (hb hby at_327) rfl rfl rfl ?_
    refine Wk.iconst X183 hx (v := (1 : Int32)) (hb hby at_329) rfl rfl ?_
    have KK186 : Keep hj h177 [] := (KK175.wr W177 (Or.inr (Nat.le_of_eq g128)))
    have KK187 : Keep hj h183 [] := (KK181.wr W183 (Or.inr (Nat.le_trans KK186.1 (Nat.le_of_eq g179))))
    have f188 := (Fj.keep KK187 nin0)
    refine Wk.caload X183 hx hZ1 e183 f188 (by decide) (by decide) (v := cz1) rfl (hb hby at_330) rfl ?_
    refine Wk.castore X183 hx hZ1 e183 V183 (by decide) (by decide) 1 rfl (Nat.le_of_ble_eq_true rfl) (w := cz1) (narC hccz1) (hb hby at_331) rfl ?_
    intro T189 h189 L189 M189 X189 e189 W189 A189
    have N189 := M189 _ _ N183 (Or.inr (Nat.le_trans KK184.1 (Nat.le_of_eq g179)))
    have O190 : Old Z Z.heap.size h189 := O185.wr W189 (Nat.le_trans (Nat.le_trans (Nat.le_trans (Nat.le_of_eq O0.1.symm) O0.2.1) KK184.1) (Nat.le_of_eq g179))
    have V189 : Arv Z h189 a179 kA179 .char (14 : Int32) [(.int cz0), (.int cz1), (.int (0 : Int32)), (.int (0 : Int32)), (.int (0 : Int32)), (.int (0 : Int32)), (.int (0 : Int32)), (.int (0 : Int32)), (.int (0 : Int32)), (.int (0 : Int32)), (.int (0 : Int32)), (.int (0 : Int32)), (.int (0 : Int32)), (.int (0 : Int32))] (.int (0 : Int32)) := A189
    refine Wk.aload X189 hx (hb hby at_332) rfl rfl rfl ?_
    refine Wk.iconst X189 hx (v := (2 : Int32)) (hb hby at_334) rfl rfl ?_
    refine Wk.aload X189 hx (hb hby at_335) rfl rfl rfl ?_
    refine Wk.iconst X189 hx (v := (2 : Int32)) (hb hby at_337) rfl rfl ?_
    have KK191 : Keep hj h189 [] := (KK187.wr W189 (Or.inr (Nat.le_trans KK186.1 (Nat.le_of_eq g179))))
    have f192 := (Fj.keep KK191 nin0)
    refine Wk.caload X189 hx hZ1 e189 f192 (by decide) (by decide) (v := cz2) rfl (hb hby at_338) rfl ?_
    refine Wk.castore X189 hx hZ1 e189 V189 (by decide) (by decide) 2 rfl (Nat.le_of_ble_eq_true rfl) (w := cz2) (narC hccz2) (hb hby at_339) rfl ?_
    intro T193 h193 L193 M193 X193 e193 W193 A193
    have N193 := M193 _ _ N189 (Or.inr (Nat.le_trans KK184.1 (Nat.le_of_eq g179)))
    have O194 : Old Z Z.heap.size h193 := O190.wr W193 (Nat.le_trans (Nat.le_trans (Nat.le_trans (Nat.le_of_eq O0.1.symm) O0.2.1) KK184.1) (Nat.le_of_eq g179))
    have V193 : Arv Z h193 a179 kA179 .char (14 : Int32) [(.int cz0), (.int cz1), (.int cz2), (.int (0 : Int32)), (.int (0 : Int32)), (.int (0 : Int32)), (.int (0 : Int32)), (.int (0 : Int32)), (.int (0 : Int32)), (.int (0 : Int32)), (.int (0 : Int32)), (.int (0 : Int32)), (.int (0 : Int32)), (.int (0 : Int32))] (.int (0 : Int32)) := A193
    refine Wk.aload X193 hx (hb hby at_340) rfl rfl rfl ?_
    refine Wk.iconst X193 hx (v := (3 : Int32)) (hb hby at_342) rfl rfl ?_
    refine Wk.aload X193 hx (hb hby at_343) rfl rfl rfl ?_
    refine Wk.iconst X193 hx (v := (3 : Int32)) (hb hby at_345) rfl rfl ?_
    have KK195 : Keep hj h193 [] := (KK191.wr W193 (Or.inr (Nat.le_trans KK186.1 (Nat.le_of_eq g179))))
    have f196 := (Fj.keep KK195 nin0)
    refine Wk.caload X193 hx hZ1 e193 f196 (by decide) (by decide) (v := cz3) rfl (hb hby at_346) rfl ?_
    refine Wk.castore X193 hx hZ1 e193 V193 (by decide) (by decide) 3 rfl (Nat.le_of_ble_eq_true rfl) (w := cz3) (narC hccz3) (hb hby at_347) rfl ?_
    intro T197 h197 L197 M197 X197 e197 W197 A197
    have N197 := M197 _ _ N193 (Or.inr (Nat.le_trans KK184.1 (Nat.le_of_eq g179)))
    have O198 : Old Z Z.heap.size h197 := O194.wr W197 (Nat.le_trans (Nat.le_trans (Nat.le_trans (Nat.le_of_eq O0.1.symm) O0.2.1) KK184.1) (Nat.le_of_eq g179))
    have V197 : Arv Z h197 a179 kA179 .char (14 : Int32) [(.int cz0), (.int cz1), (.int cz2), (.int cz3), (.int (0 : Int32)), (.int (0 : Int32)), (.int (0 : Int32)), (.int (0 : Int32)), (.int (0 : Int32)), (.int (0 : Int32)), (.int (0 : Int32)), (.int (0 : Int32)), (.int (0 : Int32)), (.int (0 : Int32))] (.int (0 : Int32)) := A197
    refine Wk.aload X197 hx (hb hby at_348) rfl rfl rfl ?_
    refine Wk.iconst X197 hx (v := (4 : Int32)) (hb hby at_350) rfl rfl ?_
    refine Wk.aload X197 hx (hb hby at_351) rfl rfl rfl ?_
    refine Wk.iconst X197 hx (v := (4 : Int32)) (hb hby at_353) rfl rfl ?_
    have KK199 : Keep hj h197 [] := (KK195.wr W197 (Or.inr (Nat.le_trans KK186.1 (Nat.le_of_eq g179))))
    have f200 := (Fj.keep KK199 nin0)
    refine Wk.caload X197 hx hZ1 e197 f200 (by decide) (by decide) (v := cz4) rfl (hb hby at_354) rfl ?_
    refine Wk.castore X197 hx hZ1 e197 V197 (by decide) (by decide) 4 rfl (Nat.le_of_ble_eq_true rfl) (w := cz4) (narC hccz4) (hb hby at_355) rfl ?_
    intro T201 h201 L201 M201 X201 e201 W201 A201
    have N201 := M201 _ _ N197 (Or.inr (Nat.le_trans KK184.1 (Nat.le_of_eq g179)))
    have O202 : Old Z Z.heap.size h201 := O198.wr W201 (Nat.le_trans (Nat.le_trans (Nat.le_trans (Nat.le_of_eq O0.1.symm) O0.2.1) KK184.1) (Nat.le_of_eq g179))
    have V201 : Arv Z h201 a179 kA179 .char (14 : Int32) [(.int cz0), (.int cz1), (.int cz2), (.int cz3), (.int cz4), (.int (0 : Int32)), (.int (0 : Int32)), (.int (0 : Int32)), (.int (0 : Int32)), (.int (0 : Int32)), (.int (0 : Int32)), (.int (0 : Int32)), (.int (0 : Int32)), (.int (0 : Int32))] (.int (0 : Int32)) := A201
    refine Wk.aload X201 hx (hb hby at_356) rfl rfl rfl ?_
    refine Wk.iconst X201 hx (v := (5 : Int32)) (hb hby at_358) rfl rfl ?_
    refine Wk.aload X201 hx (hb hby at_359) rfl rfl rfl ?_
    refine Wk.iconst X201 hx (v := (5 : Int32)) (hb hby at_361) rfl rfl ?_
    have KK203 : Keep hj h201 [] := (KK199.wr W201 (Or.inr (Nat.le_trans KK186.1 (Nat.le_of_eq g179))))
    have f204 := (Fj.keep KK203 nin0)
    refine Wk.caload X201 hx hZ1 e201 f204 (by decide) (by decide) (v := cz5) rfl (hb hby at_362) rfl ?_
    refine Wk.castore X201 hx hZ1 e201 V201 (by decide) (by decide) 5 rfl (Nat.le_of_ble_eq_true rfl) (w := cz5) (narC hccz5) (hb hby at_363) rfl ?_
    intro T205 h205 L205 M205 X205 e205 W205 A205
    have N205 := M205 _ _ N201 (Or.inr (Nat.le_trans KK184.1 (Nat.le_of_eq g179)))
    have O206 : Old Z Z.heap.size h205 := O202.wr W205 (Nat.le_trans (Nat.le_trans (Nat.le_trans (Nat.le_of_eq O0.1.symm) O0.2.1) KK184.1) (Nat.le_of_eq g179))
    have V205 : Arv Z h205 a179 kA179 .char (14 : Int32) [(.int cz0), (.int cz1), (.int cz2), (.int cz3), (.int cz4), (.int cz5), (.int (0 : Int32)), (.int (0 : Int32)), (.int (0 : Int32)), (.int (0 : Int32)), (.int (0 : Int32)), (.int (0 : Int32)), (.int (0 : Int32)), (.int (0 : Int32))] (.int (0 : Int32)) := A205
    refine Wk.aload X205 hx (hb hby at_364) rfl rfl rfl ?_
    refine Wk.bipush X205 hx (v := (6 : Int32)) (hb hby at_366) rfl rfl ?_
    refine Wk.aload X205 hx (hb hby at_368) rfl rfl rfl ?_
    refine Wk.bipush X205 hx (v := (6 : Int32)) (hb hby at_370) rfl rfl ?_
    have KK207 : Keep hj h205 [] := (KK203.wr W205 (Or.inr (Nat.le_trans KK186.1 (Nat.le_of_eq g179))))
    have f208 := (Fj.keep KK207 nin0)
    refine Wk.caload X205 hx hZ1 e205 f208 (by decide) (by decide) (v := cz6) rfl (hb hby at_372) rfl ?_
    refine Wk.castore X205 hx hZ1 e205 V205 (by decide) (by decide) 6 rfl (Nat.le_of_ble_eq_true rfl) (w := cz6) (narC hccz6) (hb hby at_373) rfl ?_
    intro T209 h209 L209 M209 X209 e209 W209 A209
    have N209 := M209 _ _ N205 (Or.inr (Nat.le_trans KK184.1 (Nat.le_of_eq g179)))
    have O210 : Old Z Z.heap.size h209 := O206.wr W209 (Nat.le_trans (Nat.le_trans (Nat.le_trans (Nat.le_of_eq O0.1.symm) O0.2.1) KK184.1) (Nat.le_of_eq g179))
    have V209 : Arv Z h209 a179 kA179 .char (14 : Int32) [(.int cz0), (.int cz1), (.int cz2), (.int cz3), (.int cz4), (.int cz5), (.int cz6), (.int (0 : Int32)), (.int (0 : Int32)), (.int (0 : Int32)), (.int (0 : Int32)), (.int (0 : Int32)), (.int (0 : Int32)), (.int (0 : Int32))] (.int (0 : Int32)) := A209
    refine Wk.aload X209 hx (hb hby at_374) rfl rfl rfl ?_
    refine Wk.bipush X209 hx (v := (7 : Int32)) (hb hby at_376) rfl rfl ?_
    refine Wk.aload X209 hx (hb hby at_378) rfl rfl rfl ?_
    refine Wk.bipush X209 hx (v := (7 : Int32)) (hb hby at_380) rfl rfl ?_
    have KK211 : Keep hj h209 [] := (KK207.wr W209 (Or.inr (Nat.le_trans KK186.1 (Nat.le_of_eq g179))))
    have f212 := (Fj.keep KK211 nin0)
    refine Wk.caload X209 hx hZ1 e209 f212 (by decide) (by decide) (v := cz7) rfl (hb hby at_382) rfl ?_
    refine Wk.castore X209 hx hZ1 e209 V209 (by decide) (by decide) 7 rfl (Nat.le_of_ble_eq_true rfl) (w := cz7) (narC hccz7) (hb hby at_383) rfl ?_
    intro T213 h213 L213 M213 X213 e213 W213 A213
    have N213 := M213 _ _ N209 (Or.inr (Nat.le_trans KK184.1 (Nat.le_of_eq g179)))
    have O214 : Old Z Z.heap.size h213 := O210.wr W213 (Nat.le_trans (Nat.le_trans (Nat.le_trans (Nat.le_of_eq O0.1.symm) O0.2.1) KK184.1) (Nat.le_of_eq g179))
    have V213 : Arv Z h213 a179 kA179 .char (14 : Int32) [(.int cz0), (.int cz1), (.int cz2), (.int cz3), (.int cz4), (.int cz5), (.int cz6), (.int cz7), (.int (0 : Int32)), (.int (0 : Int32)), (.int (0 : Int32)), (.int (0 : Int32)), (.int (0 : Int32)), (.int (0 : Int32))] (.int (0 : Int32)) := A213
    refine Wk.aload X213 hx (hb hby at_384) rfl rfl rfl ?_
    refine Wk.bipush X213 hx (v := (8 : Int32)) (hb hby at_386) rfl rfl ?_
    refine Wk.aload X213 hx (hb hby at_388) rfl rfl rfl ?_
    refine Wk.bipush X213 hx (v := (8 : Int32)) (hb hby at_390) rfl rfl ?_
    have KK215 : Keep hj h213 [] := (KK211.wr W213 (Or.inr (Nat.le_trans KK186.1 (Nat.le_of_eq g179))))
    have f216 := (Fj.keep KK215 nin0)
    refine Wk.caload X213 hx hZ1 e213 f216 (by decide) (by decide) (v := cz8) rfl (hb hby at_392) rfl ?_
    refine Wk.castore X213 hx hZ1 e213 V213 (by decide) (by decide) 8 rfl (Nat.le_of_ble_eq_true rfl) (w := cz8) (narC hccz8) (hb hby at_393) rfl ?_
    intro T217 h217 L217 M217 X217 e217 W217 A217
    have N217 := M217 _ _ N213 (Or.inr (Nat.le_trans KK184.1 (Nat.le_of_eq g179)))
    have O218 : Old Z Z.heap.size h217 := O214.wr W217 (Nat.le_trans (Nat.le_trans (Nat.le_trans (Nat.le_of_eq O0.1.symm) O0.2.1) KK184.1) (Nat.le_of_eq g179))
    have V217 : Arv Z h217 a179 kA179 .char (14 : Int32) [(.int cz0), (.int cz1), (.int cz2), (.int cz3), (.int cz4), (.int cz5), (.int cz6), (.int cz7), (.int cz8), (.int (0 : Int32)), (.int (0 : Int32)), (.int (0 : Int32)), (.int (0 : Int32)), (.int (0 : Int32))] (.int (0 : Int32)) := A217
    refine Wk.aload X217 hx (hb hby at_394) rfl rfl rfl ?_
    refine Wk.bipush X217 hx (v := (9 : Int32)) (hb hby at_396) rfl rfl ?_
    refine Wk.aload X217 hx (hb hby at_398) rfl rfl rfl ?_
    refine Wk.bipush X217 hx (v := (9 : Int32)) (hb hby at_400) rfl rfl ?_
    have KK219 : Keep hj h217 [] := (KK215.wr W217 (Or.inr (Nat.le_trans KK186.1 (Nat.le_of_eq g179))))
    have f220 := (Fj.keep KK219 nin0)
    refine Wk.caload X217 hx hZ1 e217 f220 (by decide) (by decide) (v := cz9) rfl (hb hby at_402) rfl ?_
    refine Wk.castore X217 hx hZ1 e217 V217 (by decide) (by decide) 9 rfl (Nat.le_of_ble_eq_true rfl) (w := cz9) (narC hccz9) (hb hby at_403) rfl ?_
    intro T221 h221 L221 M221 X221 e221 W221 A221
    have N221 := M221 _ _ N217 (Or.inr (Nat.le_trans KK184.1 (Nat.le_of_eq g179)))
    have O222 : Old Z Z.heap.size h221 := O218.wr W221 (Nat.le_trans (Nat.le_trans (Nat.le_trans (Nat.le_of_eq O0.1.symm) O0.2.1) KK184.1) (Nat.le_of_eq g179))
    have V221 : Arv Z h221 a179 kA179 .char (14 : Int32) [(.int cz0), (.int cz1), (.int cz2), (.int cz3), (.int cz4), (.int cz5), (.int cz6), (.int cz7), (.int cz8), (.int cz9), (.int (0 : Int32)), (.int (0 : Int32)), (.int (0 : Int32)), (.int (0 : Int32))] (.int (0 : Int32)) := A221
    refine Wk.aload X221 hx (hb hby at_404) rfl rfl rfl ?_
    refine Wk.bipush X221 hx (v := (10 : Int32)) (hb hby at_406) rfl rfl ?_
    refine Wk.aload X221 hx (hb hby at_408) rfl rfl rfl ?_
    refine Wk.bipush X221 hx (v := (10 : Int32)) (hb hby at_410) rfl rfl ?_
    have KK223 : Keep hj h221 [] := (KK219.wr W221 (Or.inr (Nat.le_trans KK186.1 (Nat.le_of_eq g179))))
    have f224 := (Fj.keep KK223 nin0)
    refine Wk.caload X221 hx hZ1 e221 f224 (by decide) (by decide) (v := cz10) rfl (hb hby at_412) rfl ?_
    refine Wk.castore X221 hx hZ1 e221 V221 (by decide) (by decide) 10 rfl (Nat.le_of_ble_eq_true rfl) (w := cz10) (narC hccz10) (hb hby at_413) rfl ?_
    intro T225 h225 L225 M225 X225 e225 W225 A225
    have N225 := M225 _ _ N221 (Or.inr (Nat.le_trans KK184.1 (Nat.le_of_eq g179)))
    have O226 : Old Z Z.heap.size h225 := O222.wr W225 (Nat.le_trans (Nat.le_trans (Nat.le_trans (Nat.le_of_eq O0.1.symm) O0.2.1) KK184.1) (Nat.le_of_eq g179))
    have V225 : Arv Z h225 a179 kA179 .char (14 : Int32) [(.int cz0), (.int cz1), (.int cz2), (.int cz3), (.int cz4), (.int cz5), (.int cz6), (.int cz7), (.int cz8), (.int cz9), (.int cz10), (.int (0 : Int32)), (.int (0 : Int32)), (.int (0 : Int32))] (.int (0 : Int32)) := A225
    refine Wk.aload X225 hx (hb hby at_414) rfl rfl rfl ?_
    refine Wk.bipush X225 hx (v := (11 : Int32)) (hb hby at_416) rfl rfl ?_
    refine Wk.aload X225 hx (hb hby at_418) rfl rfl rfl ?_
    refine Wk.bipush X225 hx (v := (11 : Int32)) (hb hby at_420) rfl rfl ?_
    have KK227 : Keep hj h225 [] := (KK223.wr W225 (Or.inr (Nat.le_trans KK186.1 (Nat.le_of_eq g179))))
    have f228 := (Fj.keep KK227 nin0)
    refine Wk.caload X225 hx hZ1 e225 f228 (by decide) (by decide) (v := cz11) rfl (hb hby at_422) rfl ?_
    refine Wk.castore X225 hx hZ1 e225 V225 (by decide) (by decide) 11 rfl (Nat.le_of_ble_eq_true rfl) (w := cz11) (narC hccz11) (hb hby at_423) rfl ?_
    intro T229 h229 L229 M229 X229 e229 W229 A229
    have N229 := M229 _ _ N225 (Or.inr (Nat.le_trans KK184.1 (Nat.le_of_eq g179)))
    have O230 : Old Z Z.heap.size h229 := O226.wr W229 (Nat.le_trans (Nat.le_trans (Nat.le_trans (Nat.le_of_eq O0.1.symm) O0.2.1) KK184.1) (Nat.le_of_eq g179))
    have V229 : Arv Z h229 a179 kA179 .char (14 : Int32) [(.int cz0), (.int cz1), (.int cz2), (.int cz3), (.int cz4), (.int cz5), (.int cz6), (.int cz7), (.int cz8), (.int cz9), (.int cz10), (.int cz11), (.int (0 : Int32)), (.int (0 : Int32))] (.int (0 : Int32)) := A229
    refine Wk.aload X229 hx (hb hby at_424) rfl rfl rfl ?_
    refine Wk.bipush X229 hx (v := (12 : Int32)) (hb hby at_426) rfl rfl ?_
    refine Wk.aload X229 hx (hb hby at_428) rfl rfl rfl ?_
    refine Wk.bipush X229 hx (v := (12 : Int32)) (hb hby at_430) rfl rfl ?_
    have KK231 : Keep hj h229 [] := (KK227.wr W229 (Or.inr (Nat.le_trans KK186.1 (Nat.le_of_eq g179))))
    have f232 := (Fj.keep KK231 nin0)
    refine Wk.caload X229 hx hZ1 e229 f232 (by decide) (by decide) (v := cz12) rfl (hb hby at_432) rfl ?_
    refine Wk.castore X229 hx hZ1 e229 V229 (by decide) (by decide) 12 rfl (Nat.le_of_ble_eq_true rfl) (w := cz12) (narC hccz12) (hb hby at_433) rfl ?_
    intro T233 h233 L233 M233 X233 e233 W233 A233
    have N233 := M233 _ _ N229 (Or.inr (Nat.le_trans KK184.1 (Nat.le_of_eq g179)))
    have O234 : Old Z Z.heap.size h233 := O230.wr W233 (Nat.le_trans (Nat.le_trans (Nat.le_trans (Nat.le_of_eq O0.1.symm) O0.2.1) KK184.1) (Nat.le_of_eq g179))
    have V233 : Arv Z h233 a179 kA179 .char (14 : Int32) [(.int cz0), (.int cz1), (.int cz2), (.int cz3), (.int cz4), (.int cz5), (.int cz6), (.int cz7), (.int cz8), (.int cz9), (.int cz10), (.int cz11), (.int cz12), (.int (0 : Int32))] (.int (0 : Int32)) := A233
    refine Wk.aload X233 hx (hb hby at_434) rfl rfl rfl ?_
    refine Wk.bipush X233 hx (v := (13 : Int32)) (hb hby at_436) rfl rfl ?_
    refine Wk.iload X233 hx (hb hby at_438) rfl rfl ?_
    refine Wk.castore X233 hx hZ1 e233 V233 (by decide) (by decide) 13 rfl (Nat.le_of_ble_eq_true rfl) (w := c6) (narC Lc6) (hb hby at_440) rfl ?_
    intro T235 h235 L235 M235 X235 e235 W235 A235
    have N235 := M235 _ _ N233 (Or.inr (Nat.le_trans KK184.1 (Nat.le_of_eq g179)))
    have O236 : Old Z Z.heap.size h235 := O234.wr W235 (Nat.le_trans (Nat.le_trans (Nat.le_trans (Nat.le_of_eq O0.1.symm) O0.2.1) KK184.1) (Nat.le_of_eq g179))
    have V235 : Arv Z h235 a179 kA179 .char (14 : Int32) [(.int cz0), (.int cz1), (.int cz2), (.int cz3), (.int cz4), (.int cz5), (.int cz6), (.int cz7), (.int cz8), (.int cz9), (.int cz10), (.int cz11), (.int cz12), (.int c6)] (.int (0 : Int32)) := A235
    have KK237 : Keep h0 h235 [] := (((((((((((((((KK184.ext E179).wr W183 (Or.inr (Nat.le_trans KK184.1 (Nat.le_of_eq g179)))).wr W189 (Or.inr (Nat.le_trans KK184.1 (Nat.le_of_eq g179)))).wr W193 (Or.inr (Nat.le_trans KK184.1 (Nat.le_of_eq g179)))).wr W197 (Or.inr (Nat.le_trans KK184.1 (Nat.le_of_eq g179)))).wr W201 (Or.inr (Nat.le_trans KK184.1 (Nat.le_of_eq g179)))).wr W205 (Or.inr (Nat.le_trans KK184.1 (Nat.le_of_eq g179)))).wr W209 (Or.inr (Nat.le_trans KK184.1 (Nat.le_of_eq g179)))).wr W213 (Or.inr (Nat.le_trans KK184.1 (Nat.le_of_eq g179)))).wr W217 (Or.inr (Nat.le_trans KK184.1 (Nat.le_of_eq g179)))).wr W221 (Or.inr (Nat.le_trans KK184.1 (Nat.le_of_eq g179)))).wr W225 (Or.inr (Nat.le_trans KK184.1 (Nat.le_of_eq g179)))).wr W229 (Or.inr (Nat.le_trans KK184.1 (Nat.le_of_eq g179)))).wr W233 (Or.inr (Nat.le_trans KK184.1 (Nat.le_of_eq g179)))).wr W235 (Or.inr (Nat.le_trans KK184.1 (Nat.le_of_eq g179))))
    have f238 := (pA.keep KK237 nin0)
    have f239 : Exa Z h235 va "[Lcom/example/accumulus/accumulus/terms/FixedOption;" := (pE.keep KK237)
    have f240 : Fld Z h235 kf "com/example/accumulus/accumulus/terms/FixedOption" "label" "Ljava/lang/String;" (.ref lb_) := (pF.keep KK237 nin0)
    have f241 : Exa Z h235 lb_ "java/lang/String" := (pl0_.keep KK237)
    have f242 : Fld Z h235 lb_ "java/lang/String" "coder" "B" (.int (0 : Int32)) := (pl1_.keep KK237 nin0)
    have f243 : Fld Z h235 lb_ "java/lang/String" "value" "[B" (.ref lt) := (pl2_.keep KK237 nin0)
    have f244 := (pl3_.keep KK237 nin0)
    have KK245 : Keep h1 hj [] := ((KK118.wr W125 (Or.inr (Nat.le_of_eq g7))).trans Kj (allS (Or.inr (Nat.le_of_eq g7)) all0))
    have KK246 : Keep h1 h177 [] := (((((((((((((KK245.ext E128).wr W132 (Or.inr (Nat.le_trans KK245.1 (Nat.le_of_eq g128)))).wr W137 (Or.inr (Nat.le_trans KK245.1 (Nat.le_of_eq g128)))).wr W141 (Or.inr (Nat.le_trans KK245.1 (Nat.le_of_eq g128)))).wr W145 (Or.inr (Nat.le_trans KK245.1 (Nat.le_of_eq g128)))).wr W149 (Or.inr (Nat.le_trans KK245.1 (Nat.le_of_eq g128)))).wr W153 (Or.inr (Nat.le_trans KK245.1 (Nat.le_of_eq g128)))).wr W157 (Or.inr (Nat.le_trans KK245.1 (Nat.le_of_eq g128)))).wr W161 (Or.inr (Nat.le_trans KK245.1 (Nat.le_of_eq g128)))).wr W165 (Or.inr (Nat.le_trans KK245.1 (Nat.le_of_eq g128)))).wr W169 (Or.inr (Nat.le_trans KK245.1 (Nat.le_of_eq g128)))).wr W173 (Or.inr (Nat.le_trans KK245.1 (Nat.le_of_eq g128)))).wr W177 (Or.inr (Nat.le_trans KK245.1 (Nat.le_of_eq g128))))
    have KK247 : Keep h1 h235 [] := ((((((((((((((((((((((((((((((KK118.wr W125 (Or.inr (Nat.le_of_eq g7))).trans Kj (allS (Or.inr (Nat.le_of_eq g7)) all0)).ext E128).wr W132 (Or.inr (Nat.le_trans KK245.1 (Nat.le_of_eq g128)))).wr W137 (Or.inr (Nat.le_trans KK245.1 (Nat.le_of_eq g128)))).wr W141 (Or.inr (Nat.le_trans KK245.1 (Nat.le_of_eq g128)))).wr W145 (Or.inr (Nat.le_trans KK245.1 (Nat.le_of_eq g128)))).wr W149 (Or.inr (Nat.le_trans KK245.1 (Nat.le_of_eq g128)))).wr W153 (Or.inr (Nat.le_trans KK245.1 (Nat.le_of_eq g128)))).wr W157 (Or.inr (Nat.le_trans KK245.1 (Nat.le_of_eq g128)))).wr W161 (Or.inr (Nat.le_trans KK245.1 (Nat.le_of_eq g128)))).wr W165 (Or.inr (Nat.le_trans KK245.1 (Nat.le_of_eq g128)))).wr W169 (Or.inr (Nat.le_trans KK245.1 (Nat.le_of_eq g128)))).wr W173 (Or.inr (Nat.le_trans KK245.1 (Nat.le_of_eq g128)))).wr W177 (Or.inr (Nat.le_trans KK245.1 (Nat.le_of_eq g128)))).ext E179).wr W183 (Or.inr (Nat.le_trans KK246.1 (Nat.le_of_eq g179)))).wr W189 (Or.inr (Nat.le_trans KK246.1 (Nat.le_of_eq g179)))).wr W193 (Or.inr (Nat.le_trans KK246.1 (Nat.le_of_eq g179)))).wr W197 (Or.inr (Nat.le_trans KK246.1 (Nat.le_of_eq g179)))).wr W201 (Or.inr (Nat.le_trans KK246.1 (Nat.le_of_eq g179)))).wr W205 (Or.inr (Nat.le_trans KK246.1 (Nat.le_of_eq g179)))).wr W209 (Or.inr (Nat.le_trans KK246.1 (Nat.le_of_eq g179)))).wr W213 (Or.inr (Nat.le_trans KK246.1 (Nat.le_of_eq g179)))).wr W217 (Or.inr (Nat.le_trans KK246.1 (Nat.le_of_eq g179)))).wr W221 (Or.inr (Nat.le_trans KK246.1 (Nat.le_of_eq g179)))).wr W225 (Or.inr (Nat.le_trans KK246.1 (Nat.le_of_eq g179)))).wr W229 (Or.inr (Nat.le_trans KK246.1 (Nat.le_of_eq g179)))).wr W233 (Or.inr (Nat.le_trans KK246.1 (Nat.le_of_eq g179)))).wr W235 (Or.inr (Nat.le_trans KK246.1 (Nat.le_of_eq g179))))
    have f248 : Exa Z h235 a1 "java/lang/String" := (A1.keep KK247)
    have f249 : Fld Z h235 a1 "java/lang/String" "coder" "B" (.int (0 : Int32)) := (C1.keep KK247 nin0)
    have f250 : Fld Z h235 a1 "java/lang/String" "value" "[B" (.ref b1) := (V1.keep KK247 nin0)
    have f251 := (B1.keep KK247 nin0)
    have KK252 : Keep hj h235 [] := ((KK231.wr W233 (Or.inr (Nat.le_trans KK186.1 (Nat.le_of_eq g179)))).wr W235 (Or.inr (Nat.le_trans KK186.1 (Nat.le_of_eq g179))))
    have f253 := (Fj.keep KK252 nin0)
    have KK254 : Keep h177 h235 [] := ((((((((((((((((Keep.refl h177 []).ext E179).wr W183 (Or.inr (Nat.le_of_eq g179))).wr W189 (Or.inr (Nat.le_of_eq g179))).wr W193 (Or.inr (Nat.le_of_eq g179))).wr W197 (Or.inr (Nat.le_of_eq g179))).wr W201 (Or.inr (Nat.le_of_eq g179))).wr W205 (Or.inr (Nat.le_of_eq g179))).wr W209 (Or.inr (Nat.le_of_eq g179))).wr W213 (Or.inr (Nat.le_of_eq g179))).wr W217 (Or.inr (Nat.le_of_eq g179))).wr W221 (Or.inr (Nat.le_of_eq g179))).wr W225 (Or.inr (Nat.le_of_eq g179))).wr W229 (Or.inr (Nat.le_of_eq g179))).wr W233 (Or.inr (Nat.le_of_eq g179))).wr W235 (Or.inr (Nat.le_of_eq g179)))
    have f255 := (V177.keep KK254 nin0)
    rcases own_q _ hi3 with rfl | rfl | rfl | rfl
    · skip
      by_cases hN256 : NL13 cz0 cz1 cz2 cz3 cz4 cz5 cz6 cz7 cz8 cz9 cz10 cz11 cz12
      · skip
        refine Wk.iload X235 hx (hb hby at_441) rfl rfl ?_
        refine Wk.ifNo X235 hx (hb hby at_443) rfl ((if0 _ _).trans (teq (by decide : (0 : Int32) = (0 : Int32))).2) ?_
        refine Wk.new X235 hx hZ1 ho1 (w 36 _ rfl) (w 2 _ rfl) (w 1 _ rfl) e235 (hb hby at_446) rfl (by decide) (by decide) ?_
        intro T257 h257 a257 g257 X257 e257 E257 A257 D257
        have O258 : Old Z Z.heap.size h257 := O236.ext E257
        have f259 : Fld Z h257 a257 "java/lang/String" "value" "[B" .null := D257 (Or.inr (w 4 _ rfl)) (ty := (.array .byte)) (by decide)
        have f260 : Fld Z h257 a257 "java/lang/String" "coder" "B" (.int (0 : Int32)) := D257 (Or.inr (w 5 _ rfl)) (ty := .byte) (by decide)
        refine Wk.dup X257 hx (hb hby at_449) rfl rfl ?_
        refine Wk.aload X257 hx (hb hby at_450) rfl rfl rfl ?_
        have KK261 : Keep h235 h257 [] := ((Keep.refl h235 []).ext E257)
        have f262 := (f253.keep KK261 nin0)
        refine Wk.callI X257 hx hZ1 rfl ho1 (w 37 _ rfl) (w 38 _ rfl) (w 39 _ rfl) (by decide) (as' := [(.ref a7)]) (backOf (W := 1) (rm_ic_13 l Z a0 hw [] a257 a7 kA7 G1 cz0 cz1 cz2 cz3 cz4 cz5 cz6 cz7 cz8 cz9 cz10 cz11 cz12 h257 O258 sH sL sA SG1 nG1 A257 f259 f260 (Nat.le_trans (Nat.le_trans (Nat.le_trans (Nat.le_of_eq O0.1.symm) O0.2.1) KK237.1) (Nat.le_of_eq g257)) f262 hccz0 hccz1 hccz2 hccz3 hccz4 hccz5 hccz6 hccz7 hccz8 hccz9 hccz10 hccz11 hccz12 hN256) hZ1 (w 39 _ rfl) (w 1 _ rfl) (by decide) (by decide)) e257 (by rw [hml]; rfl) (rest := [(.ref a257)]) (lenOf pd21 rfl) rfl (Nat.le_of_eq rfl) (hb hby at_452) rfl (by decide) (by decide) ?_
        intro T263 h263 v263 L263 X263 e263 hQ263
        obtain ⟨rfl, Nq263, K263, q263_0, q263_1⟩ := hQ263
        have KK264 : Keep h0 h257 [] := (KK237.ext E257)
        have N263 := Fk.app N235 Nq263 KK264.1 (allS (Or.inr (Nat.le_trans KK237.1 (Nat.le_of_eq g257))) all0)
        have O265 : Old Z Z.heap.size h263 := O258.keep K263 (allS (Nat.le_trans (Nat.le_trans (Nat.le_trans (Nat.le_of_eq O0.1.symm) O0.2.1) KK237.1) (Nat.le_of_eq g257)) all0)
        show Wp p e below _ _ T263 (mkF m 455 #[.val (.int p0), .val (.int p1), .val (.int p2), .val (.int p3), .val (.ref a1), .val (.int (0 : Int32)), .val (.int i4), .val (.int c5), .val (.int c6), .val (.ref a7), .val (.ref a128), .val (.ref a179), .unset, .unset, .unset] [(.ref a257)])
        refine Wk.astore X263 hx (Ls' := #[.val (.int p0), .val (.int p1), .val (.int p2), .val (.int p3), .val (.ref a1), .val (.int (0 : Int32)), .val (.int i4), .val (.int c5), .val (.int c6), .val (.ref a7), .val (.ref a128), .val (.ref a179), .val (.ref a257), .unset, .unset]) (hb hby at_455) rfl rfl rfl ?_
        refine Wk.goto X263 hx (hb hby at_457) (by decide) (q := 503) rfl ?_
        refine Wk.aload X263 hx (hb hby at_503) rfl rfl rfl ?_
        have KK266 : Keep h235 h263 [] := (KK261.trans K263 (allS (Or.inr (Nat.le_of_eq g257)) all0))
        have f267 := (f238.keep KK266 nin0)
        have f268 : Exa Z h263 va "[Lcom/example/accumulus/accumulus/terms/FixedOption;" := (f239.keep KK266)
        have f269 : Fld Z h263 kf "com/example/accumulus/accumulus/terms/FixedOption" "label" "Ljava/lang/String;" (.ref lb_) := (f240.keep KK266 nin0)
        have f270 : Exa Z h263 lb_ "java/lang/String" := (f241.keep KK266)
        have f271 : Fld Z h263 lb_ "java/lang/String" "coder" "B" (.int (0 : Int32)) := (f242.keep KK266 nin0)
        have f272 : Fld Z h263 lb_ "java/lang/String" "value" "[B" (.ref lt) := (f243.keep KK266 nin0)
        have f273 := (f244.keep KK266 nin0)
        refine Wk.callS X263 hx hZ1 ho1 (w 57 _ rfl) (w 58 _ rfl) (w 59 _ rfl) (w 60 _ rfl) (by decide) (as' := [(.ref a257)]) (backOf (W := 0) (rm_wlU l Z a0 hw [] va kv kf lb_ lt lk G1 a257 h263 O265 SG1 nG1 sV f267 f268 f269 f270 f271 f272 f273 q263_0 q263_1 (Nat.ne_of_lt (Nat.lt_of_lt_of_le f241.lt (Nat.le_of_eq g257)))) hZ1 (w 60 _ rfl) (w 59 _ rfl) (by decide) (by decide)) e263 (by rw [hml]; rfl) (rest := []) (lenOf pd22 rfl) rfl (Nat.le_of_eq rfl) (hb hby at_505) rfl (by decide) (by decide) ?_
        intro T274 h274 v274 L274 X274 e274 hQ274
        obtain ⟨rfl, Nq274, K274⟩ := hQ274
        have KK275 : Keep h0 h263 [] := (KK264.trans K263 (allS (Or.inr (Nat.le_trans KK237.1 (Nat.le_of_eq g257))) all0))
        have N274 := Fk.app N263 Nq274 KK275.1 all0
        have O276 : Old Z Z.heap.size h274 := O265.keep K274 all0
        show Wp p e below _ _ T274 (mkF m 508 #[.val (.int p0), .val (.int p1), .val (.int p2), .val (.int p3), .val (.ref a1), .val (.int (0 : Int32)), .val (.int i4), .val (.int c5), .val (.int c6), .val (.ref a7), .val (.ref a128), .val (.ref a179), .val (.ref a257), .unset, .unset] [.null])
        refine Wk.astore X274 hx (Ls' := #[.val (.int p0), .val (.int p1), .val (.int p2), .val (.int p3), .val (.ref a1), .val (.int (0 : Int32)), .val (.int i4), .val (.int c5), .val (.int c6), .val (.ref a7), .val (.ref a128), .val (.ref a179), .val (.ref a257), .val .null, .unset]) (hb hby at_508) rfl rfl rfl ?_
        refine Wk.iload X274 hx (hb hby at_510) rfl rfl ?_
        refine Wk.ifNo X274 hx (hb hby at_512) rfl ((if0 _ _).trans (teq (by decide : (0 : Int32) = (0 : Int32))).2) ?_
        have KK277 : Keep h235 h274 [] := (KK266.trans K274 all0)
        have f278 : Exa Z h274 a1 "java/lang/String" := (f248.keep KK277)
        have f279 : Fld Z h274 a1 "java/lang/String" "coder" "B" (.int (0 : Int32)) := (f249.keep KK277 nin0)
        have f280 : Fld Z h274 a1 "java/lang/String" "value" "[B" (.ref b1) := (f250.keep KK277 nin0)
        have f281 := (f251.keep KK277 nin0)
        have KK282 : Keep h0 h274 [] := (KK275.trans K274 all0)
        have hT : ∃ cc_ : Int32, ¬ i4 < 0 ∧ i4 < (13 : Int32) ∧ ([(.int (102 : Int32)), (.int (105 : Int32)), (.int (120 : Int32)), (.int (101 : Int32)), (.int (100 : Int32)), (.int (45 : Int32)), (.int (112 : Int32)), (.int (108 : Int32)), (.int (117 : Int32)), (.int (115 : Int32)), (.int (45 : Int32)), (.int (105 : Int32)), (.int (105 : Int32))] : List Value).getD i4.toNatClampNeg (.int (0 : Int32)) = .int cc_.toInt8.toInt32 ∧ Lat cc_ ∧ ¬ c5 = cc_ := by
          rcases hRel with ⟨hp, e_0, e_1, e_2, e_3, e_4, e_5, e_6, e_7, e_8, e_9, e_10, e_11, e_12⟩ | ⟨hp, e_0, e_1, e_2, e_3, e_4, e_5, e_6, e_7, e_8, e_9, e_10, e_11, e_12⟩ | ⟨hp, e_0, e_1, e_2, e_3, e_4, e_5, e_6, e_7, e_8, e_9, e_10, e_11, e_12⟩ | ⟨hp, e_0, e_1, e_2, e_3, e_4, e_5, e_6, e_7, e_8, e_9, e_10, e_11, e_12⟩ | ⟨hp, e_0, e_1, e_2, e_3, e_4, e_5, e_6, e_7, e_8, e_9, e_10, e_11, e_12⟩ | ⟨hp, e_0, e_1, e_2, e_3, e_4, e_5, e_6, e_7, e_8, e_9, e_10, e_11, e_12⟩ | ⟨hp, e_0, e_1, e_2, e_3, e_4, e_5, e_6, e_7, e_8, e_9, e_10, e_11, e_12⟩ | ⟨hp, e_0, e_1, e_2, e_3, e_4, e_5, e_6, e_7, e_8, e_9, e_10, e_11, e_12⟩ | ⟨hp, e_0, e_1, e_2, e_3, e_4, e_5, e_6, e_7, e_8, e_9, e_10, e_11, e_12⟩ | ⟨hp, e_0, e_1, e_2, e_3, e_4, e_5, e_6, e_7, e_8, e_9, e_10, e_11, e_12⟩ | ⟨hp, e_0, e_1, e_2, e_3, e_4, e_5, e_6, e_7, e_8, e_9, e_10, e_11, e_12⟩ | ⟨hp, e_0, e_1, e_2, e_3, e_4, e_5, e_6, e_7, e_8, e_9, e_10, e_11, e_12⟩ | ⟨hp, e_0, e_1, e_2, e_3, e_4, e_5, e_6, e_7, e_8, e_9, e_10, e_11, e_12⟩ | ⟨hp, e_0, e_1, e_2, e_3, e_4, e_5, e_6, e_7, e_8, e_9, e_10, e_11, e_12⟩
          · exact ⟨(102 : Int32), by rw [hp]; decide, by rw [hp]; decide, by rw [hp]; rfl, ⟨by decide, by decide⟩, fun hd => (by rcases hN256 with hb_ | hb_ | hb_ | hb_ | hb_ | hb_ | hb_ | hb_ | hb_ | hb_ | hb_ | hb_ | hb_ <;> first | (rw [e_0, hd] at hb_; exact absurd hb_ (by decide)) | (rw [e_1] at hb_; exact absurd hb_ (by decide)) | (rw [e_2] at hb_; exact absurd hb_ (by decide)) | (rw [e_3] at hb_; exact absurd hb_ (by decide)) | (rw [e_4] at hb_; exact absurd hb_ (by decide)) | (rw [e_5] at hb_; exact absurd hb_ (by decide)) | (rw [e_6] at hb_; exact absurd hb_ (by decide)) | (rw [e_7] at hb_; exact absurd hb_ (by decide)) | (rw [e_8] at hb_; exact absurd hb_ (by decide)) | (rw [e_9] at hb_; exact absurd hb_ (by decide)) | (rw [e_10] at hb_; exact absurd hb_ (by decide)) | (rw [e_11] at hb_; exact absurd hb_ (by decide)) | (rw [e_12] at hb_; exact absurd hb_ (by decide)))⟩
          · exact ⟨(105 : Int32), by rw [hp]; decide, by rw [hp]; decide, by rw [hp]; rfl, ⟨by decide, by decide⟩, fun hd => (by rcases hN256 with hb_ | hb_ | hb_ | hb_ | hb_ | hb_ | hb_ | hb_ | hb_ | hb_ | hb_ | hb_ | hb_ <;> first | (rw [e_0] at hb_; exact absurd hb_ (by decide)) | (rw [e_1, hd] at hb_; exact absurd hb_ (by decide)) | (rw [e_2] at hb_; exact absurd hb_ (by decide)) | (rw [e_3] at hb_; exact absurd hb_ (by decide)) | (rw [e_4] at hb_; exact absurd hb_ (by decide)) | (rw [e_5] at hb_; exact absurd hb_ (by decide)) | (rw [e_6] at hb_; exact absurd hb_ (by decide)) | (rw [e_7] at hb_; exact absurd hb_ (by decide)) | (rw [e_8] at hb_; exact absurd hb_ (by decide)) | (rw [e_9] at hb_; exact absurd hb_ (by decide)) | (rw [e_10] at hb_; exact absurd hb_ (by decide)) | (rw [e_11] at hb_; exact absurd hb_ (by decide)) | (rw [e_12] at hb_; exact absurd hb_ (by decide)))⟩
          · exact ⟨(120 : Int32), by rw [hp]; decide, by rw [hp]; decide, by rw [hp]; rfl, ⟨by decide, by decide⟩, fun hd => (by rcases hN256 with hb_ | hb_ | hb_ | hb_ | hb_ | hb_ | hb_ | hb_ | hb_ | hb_ | hb_ | hb_ | hb_ <;> first | (rw [e_0] at hb_; exact absurd hb_ (by decide)) | (rw [e_1] at hb_; exact absurd hb_ (by decide)) | (rw [e_2, hd] at hb_; exact absurd hb_ (by decide)) | (rw [e_3] at hb_; exact absurd hb_ (by decide)) | (rw [e_4] at hb_; exact absurd hb_ (by decide)) | (rw [e_5] at hb_; exact absurd hb_ (by decide)) | (rw [e_6] at hb_; exact absurd hb_ (by decide)) | (rw [e_7] at hb_; exact absurd hb_ (by decide)) | (rw [e_8] at hb_; exact absurd hb_ (by decide)) | (rw [e_9] at hb_; exact absurd hb_ (by decide)) | (rw [e_10] at hb_; exact absurd hb_ (by decide)) | (rw [e_11] at hb_; exact absurd hb_ (by decide)) | (rw [e_12] at hb_; exact absurd hb_ (by decide)))⟩
          · exact ⟨(101 : Int32), by rw [hp]; decide, by rw [hp]; decide, by rw [hp]; rfl, ⟨by decide, by decide⟩, fun hd => (by rcases hN256 with hb_ | hb_ | hb_ | hb_ | hb_ | hb_ | hb_ | hb_ | hb_ | hb_ | hb_ | hb_ | hb_ <;> first | (rw [e_0] at hb_; exact absurd hb_ (by decide)) | (rw [e_1] at hb_; exact absurd hb_ (by decide)) | (rw [e_2] at hb_; exact absurd hb_ (by decide)) | (rw [e_3, hd] at hb_; exact absurd hb_ (by decide)) | (rw [e_4] at hb_; exact absurd hb_ (by decide)) | (rw [e_5] at hb_; exact absurd hb_ (by decide)) | (rw [e_6] at hb_; exact absurd hb_ (by decide)) | (rw [e_7] at hb_; exact absurd hb_ (by decide)) | (rw [e_8] at hb_; exact absurd hb_ (by decide)) | (rw [e_9] at hb_; exact absurd hb_ (by decide)) | (rw [e_10] at hb_; exact absurd hb_ (by decide)) | (rw [e_11] at hb_; exact absurd hb_ (by decide)) | (rw [e_12] at hb_; exact absurd hb_ (by decide)))⟩
          · exact ⟨(100 : Int32), by rw [hp]; decide, by rw [hp]; decide, by rw [hp]; rfl, ⟨by decide, by decide⟩, fun hd => (by rcases hN256 with hb_ | hb_ | hb_ | hb_ | hb_ | hb_ | hb_ | hb_ | hb_ | hb_ | hb_ | hb_ | hb_ <;> first | (rw [e_0] at hb_; exact absurd hb_ (by decide)) | (rw [e_1] at hb_; exact absurd hb_ (by decide)) | (rw [e_2] at hb_; exact absurd hb_ (by decide)) | (rw [e_3] at hb_; exact absurd hb_ (by decide)) | (rw [e_4, hd] at hb_; exact absurd hb_ (by decide)) | (rw [e_5] at hb_; exact absurd hb_ (by decide)) | (rw [e_6] at hb_; exact absurd hb_ (by decide)) | (rw [e_7] at hb_; exact absurd hb_ (by decide)) | (rw [e_8] at hb_; exact absurd hb_ (by decide)) | (rw [e_9] at hb_; exact absurd hb_ (by decide)) | (rw [e_10] at hb_; exact absurd hb_ (by decide)) | (rw [e_11] at hb_; exact absurd hb_ (by decide)) | (rw [e_12] at hb_; exact absurd hb_ (by decide)))⟩
          · exact ⟨(45 : Int32), by rw [hp]; decide, by rw [hp]; decide, by rw [hp]; rfl, ⟨by decide, by decide⟩, fun hd => (by rcases hN256 with hb_ | hb_ | hb_ | hb_ | hb_ | hb_ | hb_ | hb_ | hb_ | hb_ | hb_ | hb_ | hb_ <;> first | (rw [e_0] at hb_; exact absurd hb_ (by decide)) | (rw [e_1] at hb_; exact absurd hb_ (by decide)) | (rw [e_2] at hb_; exact absurd hb_ (by decide)) | (rw [e_3] at hb_; exact absurd hb_ (by decide)) | (rw [e_4] at hb_; exact absurd hb_ (by decide)) | (rw [e_5, hd] at hb_; exact absurd hb_ (by decide)) | (rw [e_6] at hb_; exact absurd hb_ (by decide)) | (rw [e_7] at hb_; exact absurd hb_ (by decide)) | (rw [e_8] at hb_; exact absurd hb_ (by decide)) | (rw [e_9] at hb_; exact absurd hb_ (by decide)) | (rw [e_10] at hb_; exact absurd hb_ (by decide)) | (rw [e_11] at hb_; exact absurd hb_ (by decide)) | (rw [e_12] at hb_; exact absurd hb_ (by decide)))⟩
          · exact ⟨(112 : Int32), by rw [hp]; decide, by rw [hp]; decide, by rw [hp]; rfl, ⟨by decide, by decide⟩, fun hd => (by rcases hN256 with hb_ | hb_ | hb_ | hb_ | hb_ | hb_ | hb_ | hb_ | hb_ | hb_ | hb_ | hb_ | hb_ <;> first | (rw [e_0] at hb_; exact absurd hb_ (by decide)) | (rw [e_1] at hb_; exact absurd hb_ (by decide)) | (rw [e_2] at hb_; exact absurd hb_ (by decide)) | (rw [e_3] at hb_; exact absurd hb_ (by decide)) | (rw [e_4] at hb_; exact absurd hb_ (by decide)) | (rw [e_5] at hb_; exact absurd hb_ (by decide)) | (rw [e_6, hd] at hb_; exact absurd hb_ (by decide)) | (rw [e_7] at hb_; exact absurd hb_ (by decide)) | (rw [e_8] at hb_; exact absurd hb_ (by decide)) | (rw [e_9] at hb_; exact absurd hb_ (by decide)) | (rw [e_10] at hb_; exact absurd hb_ (by decide)) | (rw [e_11] at hb_; exact absurd hb_ (by decide)) | (rw [e_12] at hb_; exact absurd hb_ (by decide)))⟩
          · exact ⟨(108 : Int32), by rw [hp]; decide, by rw [hp]; decide, by rw [hp]; rfl, ⟨by decide, by decide⟩, fun hd => (by rcases hN256 with hb_ | hb_ | hb_ | hb_ | hb_ | hb_ | hb_ | hb_ | hb_ | hb_ | hb_ | hb_ | hb_ <;> first | (rw [e_0] at hb_; exact absurd hb_ (by decide)) | (rw [e_1] at hb_; exact absurd hb_ (by decide)) | (rw [e_2] at hb_; exact absurd hb_ (by decide)) | (rw [e_3] at hb_; exact absurd hb_ (by decide)) | (rw [e_4] at hb_; exact absurd hb_ (by decide)) | (rw [e_5] at hb_; exact absurd hb_ (by decide)) | (rw [e_6] at hb_; exact absurd hb_ (by decide)) | (rw [e_7, hd] at hb_; exact absurd hb_ (by decide)) | (rw [e_8] at hb_; exact absurd hb_ (by decide)) | (rw [e_9] at hb_; exact absurd hb_ (by decide)) | (rw [e_10] at hb_; exact absurd hb_ (by decide)) | (rw [e_11] at hb_; exact absurd hb_ (by decide)) | (rw [e_12] at hb_; exact absurd hb_ (by decide)))⟩
          · exact ⟨(117 : Int32), by rw [hp]; decide, by rw [hp]; decide, by rw [hp]; rfl, ⟨by decide, by decide⟩, fun hd => (by rcases hN256 with hb_ | hb_ | hb_ | hb_ | hb_ | hb_ | hb_ | hb_ | hb_ | hb_ | hb_ | hb_ | hb_ <;> first | (rw [e_0] at hb_; exact absurd hb_ (by decide)) | (rw [e_1] at hb_; exact absurd hb_ (by decide)) | (rw [e_2] at hb_; exact absurd hb_ (by decide)) | (rw [e_3] at hb_; exact absurd hb_ (by decide)) | (rw [e_4] at hb_; exact absurd hb_ (by decide)) | (rw [e_5] at hb_; exact absurd hb_ (by decide)) | (rw [e_6] at hb_; exact absurd hb_ (by decide)) | (rw [e_7] at hb_; exact absurd hb_ (by decide)) | (rw [e_8, hd] at hb_; exact absurd hb_ (by decide)) | (rw [e_9] at hb_; exact absurd hb_ (by decide)) | (rw [e_10] at hb_; exact absurd hb_ (by decide)) | (rw [e_11] at hb_; exact absurd hb_ (by decide)) | (rw [e_12] at hb_; exact absurd hb_ (by decide)))⟩
          · exact ⟨(115 : Int32), by rw [hp]; decide, by rw [hp]; decide, by rw [hp]; rfl, ⟨by decide, by decide⟩, fun hd => (by rcases hN256 with hb_ | hb_ | hb_ | hb_ | hb_ | hb_ | hb_ | hb_ | hb_ | hb_ | hb_ | hb_ | hb_ <;> first | (rw [e_0] at hb_; exact absurd hb_ (by decide)) | (rw [e_1] at hb_; exact absurd hb_ (by decide)) | (rw [e_2] at hb_; exact absurd hb_ (by decide)) | (rw [e_3] at hb_; exact absurd hb_ (by decide)) | (rw [e_4] at hb_; exact absurd hb_ (by decide)) | (rw [e_5] at hb_; exact absurd hb_ (by decide)) | (rw [e_6] at hb_; exact absurd hb_ (by decide)) | (rw [e_7] at hb_; exact absurd hb_ (by decide)) | (rw [e_8] at hb_; exact absurd hb_ (by decide)) | (rw [e_9, hd] at hb_; exact absurd hb_ (by decide)) | (rw [e_10] at hb_; exact absurd hb_ (by decide)) | (rw [e_11] at hb_; exact absurd hb_ (by decide)) | (rw [e_12] at hb_; exact absurd hb_ (by decide)))⟩
          · exact ⟨(45 : Int32), by rw [hp]; decide, by rw [hp]; decide, by rw [hp]; rfl, ⟨by decide, by decide⟩, fun hd => (by rcases hN256 with hb_ | hb_ | hb_ | hb_ | hb_ | hb_ | hb_ | hb_ | hb_ | hb_ | hb_ | hb_ | hb_ <;> first | (rw [e_0] at hb_; exact absurd hb_ (by decide)) | (rw [e_1] at hb_; exact absurd hb_ (by decide)) | (rw [e_2] at hb_; exact absurd hb_ (by decide)) | (rw [e_3] at hb_; exact absurd hb_ (by decide)) | (rw [e_4] at hb_; exact absurd hb_ (by decide)) | (rw [e_5] at hb_; exact absurd hb_ (by decide)) | (rw [e_6] at hb_; exact absurd hb_ (by decide)) | (rw [e_7] at hb_; exact absurd hb_ (by decide)) | (rw [e_8] at hb_; exact absurd hb_ (by decide)) | (rw [e_9] at hb_; exact absurd hb_ (by decide)) | (rw [e_10, hd] at hb_; exact absurd hb_ (by decide)) | (rw [e_11] at hb_; exact absurd hb_ (by decide)) | (rw [e_12] at hb_; exact absurd hb_ (by decide)))⟩
          · exact ⟨(105 : Int32), by rw [hp]; decide, by rw [hp]; decide, by rw [hp]; rfl, ⟨by decide, by decide⟩, fun hd => (by rcases hN256 with hb_ | hb_ | hb_ | hb_ | hb_ | hb_ | hb_ | hb_ | hb_ | hb_ | hb_ | hb_ | hb_ <;> first | (rw [e_0] at hb_; exact absurd hb_ (by decide)) | (rw [e_1] at hb_; exact absurd hb_ (by decide)) | (rw [e_2] at hb_; exact absurd hb_ (by decide)) | (rw [e_3] at hb_; exact absurd hb_ (by decide)) | (rw [e_4] at hb_; exact absurd hb_ (by decide)) | (rw [e_5] at hb_; exact absurd hb_ (by decide)) | (rw [e_6] at hb_; exact absurd hb_ (by decide)) | (rw [e_7] at hb_; exact absurd hb_ (by decide)) | (rw [e_8] at hb_; exact absurd hb_ (by decide)) | (rw [e_9] at hb_; exact absurd hb_ (by decide)) | (rw [e_10] at hb_; exact absurd hb_ (by decide)) | (rw [e_11, hd] at hb_; exact absurd hb_ (by decide)) | (rw [e_12] at hb_; exact absurd hb_ (by decide)))⟩
          · exact ⟨(105 : Int32), by rw [hp]; decide, by rw [hp]; decide, by rw [hp]; rfl, ⟨by decide, by decide⟩, fun hd => (by rcases hN256 with hb_ | hb_ | hb_ | hb_ | hb_ | hb_ | hb_ | hb_ | hb_ | hb_ | hb_ | hb_ | hb_ <;> first | (rw [e_0] at hb_; exact absurd hb_ (by decide)) | (rw [e_1] at hb_; exact absurd hb_ (by decide)) | (rw [e_2] at hb_; exact absurd hb_ (by decide)) | (rw [e_3] at hb_; exact absurd hb_ (by decide)) | (rw [e_4] at hb_; exact absurd hb_ (by decide)) | (rw [e_5] at hb_; exact absurd hb_ (by decide)) | (rw [e_6] at hb_; exact absurd hb_ (by decide)) | (rw [e_7] at hb_; exact absurd hb_ (by decide)) | (rw [e_8] at hb_; exact absurd hb_ (by decide)) | (rw [e_9] at hb_; exact absurd hb_ (by decide)) | (rw [e_10] at hb_; exact absurd hb_ (by decide)) | (rw [e_11] at hb_; exact absurd hb_ (by decide)) | (rw [e_12, hd] at hb_; exact absurd hb_ (by decide)))⟩
          · exact False.elim (by rcases hN256 with hb_ | hb_ | hb_ | hb_ | hb_ | hb_ | hb_ | hb_ | hb_ | hb_ | hb_ | hb_ | hb_ <;> first | (rw [e_0] at hb_; exact absurd hb_ (by decide)) | (rw [e_1] at hb_; exact absurd hb_ (by decide)) | (rw [e_2] at hb_; exact absurd hb_ (by decide)) | (rw [e_3] at hb_; exact absurd hb_ (by decide)) | (rw [e_4] at hb_; exact absurd hb_ (by decide)) | (rw [e_5] at hb_; exact absurd hb_ (by decide)) | (rw [e_6] at hb_; exact absurd hb_ (by decide)) | (rw [e_7] at hb_; exact absurd hb_ (by decide)) | (rw [e_8] at hb_; exact absurd hb_ (by decide)) | (rw [e_9] at hb_; exact absurd hb_ (by decide)) | (rw [e_10] at hb_; exact absurd hb_ (by decide)) | (rw [e_11] at hb_; exact absurd hb_ (by decide)) | (rw [e_12] at hb_; exact absurd hb_ (by decide)))
        obtain ⟨cc_, hx0_, hx1_, hx2_, hx3_, hx4_⟩ := hT
        refine Wk.iload X274 hx (hb hby at_515) rfl rfl ?_
        refine Wk.bipush X274 hx (v := (13 : Int32)) (hb hby at_517) rfl rfl ?_
        refine Wk.icmpNo X274 hx (hb hby at_519) rfl (feq (fun q => by rw [q] at hx1_; exact absurd hx1_ (by decide))).1 ?_
        refine Wk.iload X274 hx (hb hby at_522) rfl rfl ?_
        refine Wk.aload X274 hx (hb hby at_524) rfl rfl rfl ?_
        refine Wk.iload X274 hx (hb hby at_526) rfl rfl ?_
        refine Wk.callV X274 hx hZ1 (y := (⟨"java/lang/String", "charAt", "(I)C"⟩ : MethodName)) (z := (⟨"java/lang/String", "charAt", "(I)C"⟩ : MethodName)) ho1 (w 11 _ rfl) (w 12 _ rfl) (notFace_of_selects (args := #[]) (mvT hZ1 (w 14 _ rfl))) (w 14 _ rfl) (w 13 _ rfl) (by decide) (as' := [(.int i4)]) (backOf (W := 1) (rm_cha l Z a0 hw [] a1 b1 G1 i4 kb1 (13 : Int32) _ cc_ G3 h274 O276 SG1 nG1 rG3 SG3 f278 f279 f280 f281 (by first | assumption | rfl | decide | exact Nat.le_of_ble_eq_true rfl) (by first | assumption | rfl | decide | exact Nat.le_of_ble_eq_true rfl) (by first | assumption | rfl | decide | exact Nat.le_of_ble_eq_true rfl) hx3_) hZ1 (w 15 _ rfl) (w 1 _ rfl) (by decide) (by decide)) e274 f278 (by rw [hml]; rfl) (rest := [(.int c5)]) (lenOf pd20 rfl) rfl (Nat.le_of_eq rfl) (hb hby at_528) rfl (by decide) (by decide) ?_
        intro T283 h283 v283 L283 X283 e283 hQ283
        obtain ⟨rfl, Nq283, K283⟩ := hQ283
        have N283 := Fk.app N274 Nq283 KK282.1 all0
        rw [K283] at e283
        show Wp p e below _ _ T283 (mkF m 531 #[.val (.int p0), .val (.int p1), .val (.int p2), .val (.int p3), .val (.ref a1), .val (.int (0 : Int32)), .val (.int i4), .val (.int c5), .val (.int c6), .val (.ref a7), .val (.ref a128), .val (.ref a179), .val (.ref a257), .val .null, .unset] [(.int cc_), (.int c5)])
        refine Wk.icmpYes X283 hx (hb hby at_531) (by decide) (q := 538) rfl (feq hx4_).2 ?_
        refine Wk.iconst X283 hx (v := (0 : Int32)) (hb hby at_538) rfl rfl ?_
        refine Wk.istore X283 hx (Ls' := #[.val (.int p0), .val (.int p1), .val (.int p2), .val (.int p3), .val (.ref a1), .val (.int (0 : Int32)), .val (.int i4), .val (.int c5), .val (.int c6), .val (.ref a7), .val (.ref a128), .val (.ref a179), .val (.ref a257), .val .null, .val (.int (0 : Int32))]) (hb hby at_539) rfl rfl ?_
        refine Wk.iload X283 hx (hb hby at_541) rfl rfl ?_
        refine Wk.ifYes X283 hx (hb hby at_543) (by decide) (q := 560) rfl ((if0 _ _).trans (teq (by decide : (0 : Int32) = (0 : Int32))).1) ?_
        refine Wk.aload X283 hx (hb hby at_560) rfl rfl rfl ?_
        refine Wk.ifnonnullNo X283 hx (hb hby at_562) rfl ?_
        refine Wk.iconst X283 hx (v := (1 : Int32)) (hb hby at_565) rfl rfl ?_
        refine Wk.goto X283 hx (hb hby at_566) (by decide) (q := 570) rfl ?_
        have KK284 : Keep h1 h274 [] := (((KK247.ext E257).trans K263 (allS (Or.inr (Nat.le_trans KK247.1 (Nat.le_of_eq g257))) all0)).trans K274 all0)
        exact Wk.retZW X283 hx hS1 (Nat.le_trans (Nat.le_refl _) KK284.1) hlk hr (by simp) (hb hby at_570) (by decide) (by decide) (Qc := Q_rm_law Z p0 p1 p2 p3 G1 G3 va kv kf lb_ lt lk h0) e283 (fun vm' hw' => ⟨rfl, N283, KK282⟩)
      have Ltcz0 : Lat cz0 := ⟨hccz0.1, fun q_ => hN256 (Or.inl q_)⟩
      have Ltcz1 : Lat cz1 := ⟨hccz1.1, fun q_ => hN256 (Or.inr (Or.inl q_))⟩
      have Ltcz2 : Lat cz2 := ⟨hccz2.1, fun q_ => hN256 (Or.inr (Or.inr (Or.inl q_)))⟩
      have Ltcz3 : Lat cz3 := ⟨hccz3.1, fun q_ => hN256 (Or.inr (Or.inr (Or.inr (Or.inl q_))))⟩
      have Ltcz4 : Lat cz4 := ⟨hccz4.1, fun q_ => hN256 (Or.inr (Or.inr (Or.inr (Or.inr (Or.inl q_)))))⟩
      have Ltcz5 : Lat cz5 := ⟨hccz5.1, fun q_ => hN256 (Or.inr (Or.inr (Or.inr (Or.inr (Or.inr (Or.inl q_))))))⟩
      have Ltcz6 : Lat cz6 := ⟨hccz6.1, fun q_ => hN256 (Or.inr (Or.inr (Or.inr (Or.inr (Or.inr (Or.inr (Or.inl q_)))))))⟩
      have Ltcz7 : Lat cz7 := ⟨hccz7.1, fun q_ => hN256 (Or.inr (Or.inr (Or.inr (Or.inr (Or.inr (Or.inr (Or.inr (Or.inl q_))))))))⟩
      have Ltcz8 : Lat cz8 := ⟨hccz8.1, fun q_ => hN256 (Or.inr (Or.inr (Or.inr (Or.inr (Or.inr (Or.inr (Or.inr (Or.inr (Or.inl q_)))))))))⟩
      have Ltcz9 : Lat cz9 := ⟨hccz9.1, fun q_ => hN256 (Or.inr (Or.inr (Or.inr (Or.inr (Or.inr (Or.inr (Or.inr (Or.inr (Or.inr (Or.inl q_))))))))))⟩
      have Ltcz10 : Lat cz10 := ⟨hccz10.1, fun q_ => hN256 (Or.inr (Or.inr (Or.inr (Or.inr (Or.inr (Or.inr (Or.inr (Or.inr (Or.inr (Or.inr (Or.inl q_)))))))))))⟩
      have Ltcz11 : Lat cz11 := ⟨hccz11.1, fun q_ => hN256 (Or.inr (Or.inr (Or.inr (Or.inr (Or.inr (Or.inr (Or.inr (Or.inr (Or.inr (Or.inr (Or.inr (Or.inl q_))))))))))))⟩
      have Ltcz12 : Lat cz12 := ⟨hccz12.1, fun q_ => hN256 (Or.inr (Or.inr (Or.inr (Or.inr (Or.inr (Or.inr (Or.inr (Or.inr (Or.inr (Or.inr (Or.inr (Or.inr (q_)))))))))))))⟩
      by_cases hE285 : EqL cz0.toInt8.toInt32 cz1.toInt8.toInt32 cz2.toInt8.toInt32 cz3.toInt8.toInt32 cz4.toInt8.toInt32 cz5.toInt8.toInt32 cz6.toInt8.toInt32 cz7.toInt8.toInt32 cz8.toInt8.toInt32 cz9.toInt8.toInt32 cz10.toInt8.toInt32 cz11.toInt8.toInt32 cz12.toInt8.toInt32
      · skip
        refine Wk.iload X235 hx (hb hby at_441) rfl rfl ?_
        refine Wk.ifNo X235 hx (hb hby at_443) rfl ((if0 _ _).trans (teq (by decide : (0 : Int32) = (0 : Int32))).2) ?_
        refine Wk.new X235 hx hZ1 ho1 (w 36 _ rfl) (w 2 _ rfl) (w 1 _ rfl) e235 (hb hby at_446) rfl (by decide) (by decide) ?_
        intro T286 h286 a286 g286 X286 e286 E286 A286 D286
        have O287 : Old Z Z.heap.size h286 := O236.ext E286
        have f288 : Fld Z h286 a286 "java/lang/String" "value" "[B" .null := D286 (Or.inr (w 4 _ rfl)) (ty := (.array .byte)) (by decide)
        have f289 : Fld Z h286 a286 "java/lang/String" "coder" "B" (.int (0 : Int32)) := D286 (Or.inr (w 5 _ rfl)) (ty := .byte) (by decide)
        refine Wk.dup X286 hx (hb hby at_449) rfl rfl ?_
        refine Wk.aload X286 hx (hb hby at_450) rfl rfl rfl ?_
        have hws_words : ∀ d ∈ StrChars.Road.words, d.before a0 Z = true := fun d hd => hw d ((by decide +kernel : ∀ d ∈ StrChars.Road.words, d ∈ tables_1) d hd)
        have KK290 : Keep h235 h286 [] := ((Keep.refl h235 []).ext E286)
        have f291 := (f253.keep KK290 nin0)
        have KK292 : Keep h0 h286 [] := (KK237.ext E286)
        refine Wk.callI X286 hx hZ1 rfl ho1 (w 37 _ rfl) (w 38 _ rfl) (w 39 _ rfl) (by decide) (as' := [(.ref a7)]) (StrChars.Road.backV (W := 1) hZ1 hws_words (kI := 4) (w 2 _ rfl) (cs := ([cz0, cz1, cz2, cz3, cz4, cz5, cz6, cz7, cz8, cz9, cz10, cz11, cz12] : List Int32)) (bs := (([cz0, cz1, cz2, cz3, cz4, cz5, cz6, cz7, cz8, cz9, cz10, cz11, cz12] : List Int32).map (fun c => c.toInt8.toInt32))) (n := 13) (Nat.le_trans KK237.1 (Nat.le_of_eq g286)) KK292.1 A286 f288 f289 f291 (SG1.ext O287.2) nG1 rfl rfl (by decide) (by decide) (latCons Ltcz0 (latCons Ltcz1 (latCons Ltcz2 (latCons Ltcz3 (latCons Ltcz4 (latCons Ltcz5 (latCons Ltcz6 (latCons Ltcz7 (latCons Ltcz8 (latCons Ltcz9 (latCons Ltcz10 (latCons Ltcz11 (latCons Ltcz12 latNil))))))))))))) rfl (by decide) (by decide)) e286 (by rw [hml]; rfl) (rest := [(.ref a286)]) (lenOf pd21 rfl) rfl (Nat.le_of_eq rfl) (hb hby at_452) rfl (by decide) (by decide) ?_
        intro T293 h293 v293 L293 X293 e293 hQ293
        obtain ⟨rfl, Nq293, K293, E293s, C293s, t293, kb293, z293a, z293b, z293c, V293s, B293s⟩ := hQ293
        have N293 := Fk.app N235 (Fk.of_fr (ws := []) Nq293) (Nat.le_refl _) all0
        have O294 : Old Z Z.heap.size h293 := O287.keep K293 (allS (Nat.le_trans (Nat.le_trans (Nat.le_trans (Nat.le_of_eq O0.1.symm) O0.2.1) KK237.1) (Nat.le_of_eq g286)) all0)
        have B293t : Arv Z h293 t293 kb293 .byte (13 : Int32) [(.int cz0.toInt8.toInt32), (.int cz1.toInt8.toInt32), (.int cz2.toInt8.toInt32), (.int cz3.toInt8.toInt32), (.int cz4.toInt8.toInt32), (.int cz5.toInt8.toInt32), (.int cz6.toInt8.toInt32), (.int cz7.toInt8.toInt32), (.int cz8.toInt8.toInt32), (.int cz9.toInt8.toInt32), (.int cz10.toInt8.toInt32), (.int cz11.toInt8.toInt32), (.int cz12.toInt8.toInt32)] (.int (0 : Int32)) := B293s
        show Wp p e below _ _ T293 (mkF m 455 #[.val (.int p0), .val (.int p1), .val (.int p2), .val (.int p3), .val (.ref a1), .val (.int (0 : Int32)), .val (.int i4), .val (.int c5), .val (.int c6), .val (.ref a7), .val (.ref a128), .val (.ref a179), .unset, .unset, .unset] [(.ref a286)])
        refine Wk.astore X293 hx (Ls' := #[.val (.int p0), .val (.int p1), .val (.int p2), .val (.int p3), .val (.ref a1), .val (.int (0 : Int32)), .val (.int i4), .val (.int c5), .val (.int c6), .val (.ref a7), .val (.ref a128), .val (.ref a179), .val (.ref a286), .unset, .unset]) (hb hby at_455) rfl rfl rfl ?_
        refine Wk.goto X293 hx (hb hby at_457) (by decide) (q := 503) rfl ?_
        refine Wk.aload X293 hx (hb hby at_503) rfl rfl rfl ?_
        have KK295 : Keep h235 h293 [] := (KK290.trans K293 (allS (Or.inr (Nat.le_of_eq g286)) all0))
        have f296 := (f238.keep KK295 nin0)
        have f297 : Exa Z h293 va "[Lcom/example/accumulus/accumulus/terms/FixedOption;" := (f239.keep KK295)
        have f298 : Fld Z h293 kf "com/example/accumulus/accumulus/terms/FixedOption" "label" "Ljava/lang/String;" (.ref lb_) := (f240.keep KK295 nin0)
        have f299 : Exa Z h293 lb_ "java/lang/String" := (f241.keep KK295)
        have f300 : Fld Z h293 lb_ "java/lang/String" "coder" "B" (.int (0 : Int32)) := (f242.keep KK295 nin0)
        have f301 : Fld Z h293 lb_ "java/lang/String" "value" "[B" (.ref lt) := (f243.keep KK295 nin0)
        have f302 := (f244.keep KK295 nin0)
        refine Wk.callS X293 hx hZ1 ho1 (w 57 _ rfl) (w 58 _ rfl) (w 59 _ rfl) (w 60 _ rfl) (by decide) (as' := [(.ref a286)]) (backOf (W := 0) (rm_wlE l Z a0 hw [] va kv kf lb_ lt lk G1 a286 t293 kb293 cz0.toInt8.toInt32 cz1.toInt8.toInt32 cz2.toInt8.toInt32 cz3.toInt8.toInt32 cz4.toInt8.toInt32 cz5.toInt8.toInt32 cz6.toInt8.toInt32 cz7.toInt8.toInt32 cz8.toInt8.toInt32 cz9.toInt8.toInt32 cz10.toInt8.toInt32 cz11.toInt8.toInt32 cz12.toInt8.toInt32 h293 O294 SG1 nG1 sV f296 f297 f298 f299 f300 f301 f302 E293s C293s V293s B293t (Nat.ne_of_lt (Nat.lt_of_lt_of_le f241.lt (Nat.le_of_eq g286))) hE285.1 hE285.2.1 hE285.2.2.1 hE285.2.2.2.1 hE285.2.2.2.2.1 hE285.2.2.2.2.2.1 hE285.2.2.2.2.2.2.1 hE285.2.2.2.2.2.2.2.1 hE285.2.2.2.2.2.2.2.2.1 hE285.2.2.2.2.2.2.2.2.2.1 hE285.2.2.2.2.2.2.2.2.2.2.1 hE285.2.2.2.2.2.2.2.2.2.2.2.1 hE285.2.2.2.2.2.2.2.2.2.2.2.2) hZ1 (w 60 _ rfl) (w 59 _ rfl) (by decide) (by decide)) e293 (by rw [hml]; rfl) (rest := []) (lenOf pd22 rfl) rfl (Nat.le_of_eq rfl) (hb hby at_505) rfl (by decide) (by decide) ?_
        intro T303 h303 v303 L303 X303 e303 hQ303
        obtain ⟨rfl, Nq303, K303⟩ := hQ303
        have KK304 : Keep h0 h293 [] := (KK292.trans K293 (allS (Or.inr (Nat.le_trans KK237.1 (Nat.le_of_eq g286))) all0))
        have N303 := Fk.app N293 Nq303 KK304.1 all0
        have O305 : Old Z Z.heap.size h303 := O294.keep K303 all0
        show Wp p e below _ _ T303 (mkF m 508 #[.val (.int p0), .val (.int p1), .val (.int p2), .val (.int p3), .val (.ref a1), .val (.int (0 : Int32)), .val (.int i4), .val (.int c5), .val (.int c6), .val (.ref a7), .val (.ref a128), .val (.ref a179), .val (.ref a286), .unset, .unset] [(.ref kf)])
        refine Wk.astore X303 hx (Ls' := #[.val (.int p0), .val (.int p1), .val (.int p2), .val (.int p3), .val (.ref a1), .val (.int (0 : Int32)), .val (.int i4), .val (.int c5), .val (.int c6), .val (.ref a7), .val (.ref a128), .val (.ref a179), .val (.ref a286), .val (.ref kf), .unset]) (hb hby at_508) rfl rfl rfl ?_
        refine Wk.iload X303 hx (hb hby at_510) rfl rfl ?_
        refine Wk.ifNo X303 hx (hb hby at_512) rfl ((if0 _ _).trans (teq (by decide : (0 : Int32) = (0 : Int32))).2) ?_
        have KK306 : Keep h235 h303 [] := (KK295.trans K303 all0)
        have f307 : Exa Z h303 a1 "java/lang/String" := (f248.keep KK306)
        have f308 : Fld Z h303 a1 "java/lang/String" "coder" "B" (.int (0 : Int32)) := (f249.keep KK306 nin0)
        have f309 : Fld Z h303 a1 "java/lang/String" "value" "[B" (.ref b1) := (f250.keep KK306 nin0)
        have f310 := (f251.keep KK306 nin0)
        have KK311 : Keep h0 h303 [] := (KK304.trans K303 all0)
        have hT : i4 = (13 : Int32) ∨ ∃ cc_ : Int32, ¬ i4 < 0 ∧ i4 < (13 : Int32) ∧ ([(.int (102 : Int32)), (.int (105 : Int32)), (.int (120 : Int32)), (.int (101 : Int32)), (.int (100 : Int32)), (.int (45 : Int32)), (.int (112 : Int32)), (.int (108 : Int32)), (.int (117 : Int32)), (.int (115 : Int32)), (.int (45 : Int32)), (.int (105 : Int32)), (.int (105 : Int32))] : List Value).getD i4.toNatClampNeg (.int (0 : Int32)) = .int cc_.toInt8.toInt32 ∧ Lat cc_ ∧ c5 = cc_ := by
          rcases hRel with ⟨hp, e_0, e_1, e_2, e_3, e_4, e_5, e_6, e_7, e_8, e_9, e_10, e_11, e_12⟩ | ⟨hp, e_0, e_1, e_2, e_3, e_4, e_5, e_6, e_7, e_8, e_9, e_10, e_11, e_12⟩ | ⟨hp, e_0, e_1, e_2, e_3, e_4, e_5, e_6, e_7, e_8, e_9, e_10, e_11, e_12⟩ | ⟨hp, e_0, e_1, e_2, e_3, e_4, e_5, e_6, e_7, e_8, e_9, e_10, e_11, e_12⟩ | ⟨hp, e_0, e_1, e_2, e_3, e_4, e_5, e_6, e_7, e_8, e_9, e_10, e_11, e_12⟩ | ⟨hp, e_0, e_1, e_2, e_3, e_4, e_5, e_6, e_7, e_8, e_9, e_10, e_11, e_12⟩ | ⟨hp, e_0, e_1, e_2, e_3, e_4, e_5, e_6, e_7, e_8, e_9, e_10, e_11, e_12⟩ | ⟨hp, e_0, e_1, e_2, e_3, e_4, e_5, e_6, e_7, e_8, e_9, e_10, e_11, e_12⟩ | ⟨hp, e_0, e_1, e_2, e_3, e_4, e_5, e_6, e_7, e_8, e_9, e_10, e_11, e_12⟩ | ⟨hp, e_0, e_1, e_2, e_3, e_4, e_5, e_6, e_7, e_8, e_9, e_10, e_11, e_12⟩ | ⟨hp, e_0, e_1, e_2, e_3, e_4, e_5, e_6, e_7, e_8, e_9, e_10, e_11, e_12⟩ | ⟨hp, e_0, e_1, e_2, e_3, e_4, e_5, e_6, e_7, e_8, e_9, e_10, e_11, e_12⟩ | ⟨hp, e_0, e_1, e_2, e_3, e_4, e_5, e_6, e_7, e_8, e_9, e_10, e_11, e_12⟩ | ⟨hp, e_0, e_1, e_2, e_3, e_4, e_5, e_6, e_7, e_8, e_9, e_10, e_11, e_12⟩
          · exact Or.inr ⟨(102 : Int32), by rw [hp]; decide, by rw [hp]; decide, by rw [hp]; rfl, ⟨by decide, by decide⟩, own_lb (by rw [← e_0]; exact Ltcz0) ⟨by decide, by decide⟩ (by rw [← e_0]; exact (hE285.1).trans (by decide))⟩
          · exact Or.inr ⟨(105 : Int32), by rw [hp]; decide, by rw [hp]; decide, by rw [hp]; rfl, ⟨by decide, by decide⟩, own_lb (by rw [← e_1]; exact Ltcz1) ⟨by decide, by decide⟩ (by rw [← e_1]; exact (hE285.2.1).trans (by decide))⟩
          · exact Or.inr ⟨(120 : Int32), by rw [hp]; decide, by rw [hp]; decide, by rw [hp]; rfl, ⟨by decide, by decide⟩, own_lb (by rw [← e_2]; exact Ltcz2) ⟨by decide, by decide⟩ (by rw [← e_2]; exact (hE285.2.2.1).trans (by decide))⟩
          · exact Or.inr ⟨(101 : Int32), by rw [hp]; decide, by rw [hp]; decide, by rw [hp]; rfl, ⟨by decide, by decide⟩, own_lb (by rw [← e_3]; exact Ltcz3) ⟨by decide, by decide⟩ (by rw [← e_3]; exact (hE285.2.2.2.1).trans (by decide))⟩
          · exact Or.inr ⟨(100 : Int32), by rw [hp]; decide, by rw [hp]; decide, by rw [hp]; rfl, ⟨by decide, by decide⟩, own_lb (by rw [← e_4]; exact Ltcz4) ⟨by decide, by decide⟩ (by rw [← e_4]; exact (hE285.2.2.2.2.1).trans (by decide))⟩
          · exact Or.inr ⟨(45 : Int32), by rw [hp]; decide, by rw [hp]; decide, by rw [hp]; rfl, ⟨by decide, by decide⟩, own_lb (by rw [← e_5]; exact Ltcz5) ⟨by decide, by decide⟩ (by rw [← e_5]; exact (hE285.2.2.2.2.2.1).trans (by decide))⟩
          · exact Or.inr ⟨(112 : Int32), by rw [hp]; decide, by rw [hp]; decide, by rw [hp]; rfl, ⟨by decide, by decide⟩, own_lb (by rw [← e_6]; exact Ltcz6) ⟨by decide, by decide⟩ (by rw [← e_6]; exact (hE285.2.2.2.2.2.2.1).trans (by decide))⟩
          · exact Or.inr ⟨(108 : Int32), by rw [hp]; decide, by rw [hp]; decide, by rw [hp]; rfl, ⟨by decide, by decide⟩, own_lb (by rw [← e_7]; exact Ltcz7) ⟨by decide, by decide⟩ (by rw [← e_7]; exact (hE285.2.2.2.2.2.2.2.1).trans (by decide))⟩
          · exact Or.inr ⟨(117 : Int32), by rw [hp]; decide, by rw [hp]; decide, by rw [hp]; rfl, ⟨by decide, by decide⟩, own_lb (by rw [← e_8]; exact Ltcz8) ⟨by decide, by decide⟩ (by rw [← e_8]; exact (hE285.2.2.2.2.2.2.2.2.1).trans (by decide))⟩
          · exact Or.inr ⟨(115 : Int32), by rw [hp]; decide, by rw [hp]; decide, by rw [hp]; rfl, ⟨by decide, by decide⟩, own_lb (by rw [← e_9]; exact Ltcz9) ⟨by decide, by decide⟩ (by rw [← e_9]; exact (hE285.2.2.2.2.2.2.2.2.2.1).trans (by decide))⟩
          · exact Or.inr ⟨(45 : Int32), by rw [hp]; decide, by rw [hp]; decide, by rw [hp]; rfl, ⟨by decide, by decide⟩, own_lb (by rw [← e_10]; exact Ltcz10) ⟨by decide, by decide⟩ (by rw [← e_10]; exact (hE285.2.2.2.2.2.2.2.2.2.2.1).trans (by decide))⟩
          · exact Or.inr ⟨(105 : Int32), by rw [hp]; decide, by rw [hp]; decide, by rw [hp]; rfl, ⟨by decide, by decide⟩, own_lb (by rw [← e_11]; exact Ltcz11) ⟨by decide, by decide⟩ (by rw [← e_11]; exact (hE285.2.2.2.2.2.2.2.2.2.2.2.1).trans (by decide))⟩
          · exact Or.inr ⟨(105 : Int32), by rw [hp]; decide, by rw [hp]; decide, by rw [hp]; rfl, ⟨by decide, by decide⟩, own_lb (by rw [← e_12]; exact Ltcz12) ⟨by decide, by decide⟩ (by rw [← e_12]; exact (hE285.2.2.2.2.2.2.2.2.2.2.2.2).trans (by decide))⟩
          · exact Or.inl hp
        rcases hT with hp_ | ⟨cc_, hx0_, hx1_, hx2_, hx3_, hx4_⟩
        · skip
          refine Wk.iload X303 hx (hb hby at_515) rfl rfl ?_
          refine Wk.bipush X303 hx (v := (13 : Int32)) (hb hby at_517) rfl rfl ?_
          refine Wk.icmpYes X303 hx (hb hby at_519) (by decide) (q := 534) rfl (teq hp_).1 ?_
          refine Wk.iconst X303 hx (v := (1 : Int32)) (hb hby at_534) rfl rfl ?_
          refine Wk.goto X303 hx (hb hby at_535) (by decide) (q := 539) rfl ?_
          refine Wk.istore X303 hx (Ls' := #[.val (.int p0), .val (.int p1), .val (.int p2), .val (.int p3), .val (.ref a1), .val (.int (0 : Int32)), .val (.int i4), .val (.int c5), .val (.int c6), .val (.ref a7), .val (.ref a128), .val (.ref a179), .val (.ref a286), .val (.ref kf), .val (.int (1 : Int32))]) (hb hby at_539) rfl rfl ?_
          refine Wk.iload X303 hx (hb hby at_541) rfl rfl ?_
          refine Wk.ifNo X303 hx (hb hby at_543) rfl ((if0 _ _).trans (feq (by decide : ¬ ((1 : Int32) = (0 : Int32)))).1) ?_
          refine Wk.aload X303 hx (hb hby at_546) rfl rfl rfl ?_
          refine Wk.getstatic X303 hx hZ1 ho1 (host := "") (Or.inl (w 107 _ rfl)) Via.refl e303 (sF.ext O305.2) (hb hby at_548) rfl ?_
          intro T312 X312 e312
          refine Wk.acmpEq X312 hx (hb hby at_551) rfl rfl rfl (by decide) (q := 554) (by decide) ?_
          refine Wk.iconst X312 hx (v := (1 : Int32)) (hb hby at_554) rfl rfl ?_
          refine Wk.goto X312 hx (hb hby at_555) (by decide) (q := 559) rfl ?_
          have KK313 : Keep h1 h303 [] := (((KK247.ext E286).trans K293 (allS (Or.inr (Nat.le_trans KK247.1 (Nat.le_of_eq g286))) all0)).trans K303 all0)
          exact Wk.retZW X312 hx hS1 (Nat.le_trans (Nat.le_refl _) KK313.1) hlk hr (by simp) (hb hby at_559) (by decide) (by decide) (Qc := Q_rm_law Z p0 p1 p2 p3 G1 G3 va kv kf lb_ lt lk h0) e312 (fun vm' hw' => ⟨rfl, N303, KK311⟩)
        refine Wk.iload X303 hx (hb hby at_515) rfl rfl ?_
        refine Wk.bipush X303 hx (v := (13 : Int32)) (hb hby at_517) rfl rfl ?_
        refine Wk.icmpNo X303 hx (hb hby at_519) rfl (feq (fun q => by rw [q] at hx1_; exact absurd hx1_ (by decide))).1 ?_
        refine Wk.iload X303 hx (hb hby at_522) rfl rfl ?_
        refine Wk.aload X303 hx (hb hby at_524) rfl rfl rfl ?_
        refine Wk.iload X303 hx (hb hby at_526) rfl rfl ?_
        refine Wk.callV X303 hx hZ1 (y := (⟨"java/lang/String", "charAt", "(I)C"⟩ : MethodName)) (z := (⟨"java/lang/String", "charAt", "(I)C"⟩ : MethodName)) ho1 (w 11 _ rfl) (w 12 _ rfl) (notFace_of_selects (args := #[]) (mvT hZ1 (w 14 _ rfl))) (w 14 _ rfl) (w 13 _ rfl) (by decide) (as' := [(.int i4)]) (backOf (W := 1) (rm_cha l Z a0 hw [] a1 b1 G1 i4 kb1 (13 : Int32) _ cc_ G3 h303 O305 SG1 nG1 rG3 SG3 f307 f308 f309 f310 (by first | assumption | rfl | decide | exact Nat.le_of_ble_eq_true rfl) (by first | assumption | rfl | decide | exact Nat.le_of_ble_eq_true rfl) (by first | assumption | rfl | decide | exact Nat.le_of_ble_eq_true rfl) hx3_) hZ1 (w 15 _ rfl) (w 1 _ rfl) (by decide) (by decide)) e303 f307 (by rw [hml]; rfl) (rest := [(.int c5)]) (lenOf pd20 rfl) rfl (Nat.le_of_eq rfl) (hb hby at_528) rfl (by decide) (by decide) ?_
        intro T314 h314 v314 L314 X314 e314 hQ314
        obtain ⟨rfl, Nq314, K314⟩ := hQ314
        have N314 := Fk.app N303 Nq314 KK311.1 all0
        rw [K314] at e314
        show Wp p e below _ _ T314 (mkF m 531 #[.val (.int p0), .val (.int p1), .val (.int p2), .val (.int p3), .val (.ref a1), .val (.int (0 : Int32)), .val (.int i4), .val (.int c5), .val (.int c6), .val (.ref a7), .val (.ref a128), .val (.ref a179), .val (.ref a286), .val (.ref kf), .unset] [(.int cc_), (.int c5)])
        refine Wk.icmpNo X314 hx (hb hby at_531) rfl (teq hx4_).2 ?_
        refine Wk.iconst X314 hx (v := (1 : Int32)) (hb hby at_534) rfl rfl ?_
        refine Wk.goto X314 hx (hb hby at_535) (by decide) (q := 539) rfl ?_
        refine Wk.istore X314 hx (Ls' := #[.val (.int p0), .val (.int p1), .val (.int p2), .val (.int p3), .val (.ref a1), .val (.int (0 : Int32)), .val (.int i4), .val (.int c5), .val (.int c6), .val (.ref a7), .val (.ref a128), .val (.ref a179), .val (.ref a286), .val (.ref kf), .val (.int (1 : Int32))]) (hb hby at_539) rfl rfl ?_
        refine Wk.iload X314 hx (hb hby at_541) rfl rfl ?_
        refine Wk.ifNo X314 hx (hb hby at_543) rfl ((if0 _ _).trans (feq (by decide : ¬ ((1 : Int32) = (0 : Int32)))).1) ?_
        refine Wk.aload X314 hx (hb hby at_546) rfl rfl rfl ?_
        refine Wk.getstatic X314 hx hZ1 ho1 (host := "") (Or.inl (w 107 _ rfl)) Via.refl e314 (sF.ext O305.2) (hb hby at_548) rfl ?_
        intro T315 X315 e315
        refine Wk.acmpEq X315 hx (hb hby at_551) rfl rfl rfl (by decide) (q := 554) (by decide) ?_
        refine Wk.iconst X315 hx (v := (1 : Int32)) (hb hby at_554) rfl rfl ?_
        refine Wk.goto X315 hx (hb hby at_555) (by decide) (q := 559) rfl ?_
        have KK316 : Keep h1 h303 [] := (((KK247.ext E286).trans K293 (allS (Or.inr (Nat.le_trans KK247.1 (Nat.le_of_eq g286))) all0)).trans K303 all0)
        exact Wk.retZW X315 hx hS1 (Nat.le_trans (Nat.le_refl _) KK316.1) hlk hr (by simp) (hb hby at_559) (by decide) (by decide) (Qc := Q_rm_law Z p0 p1 p2 p3 G1 G3 va kv kf lb_ lt lk h0) e315 (fun vm' hw' => ⟨rfl, N314, KK311⟩)
      refine Wk.iload X235 hx (hb hby at_441) rfl rfl ?_
      refine Wk.ifNo X235 hx (hb hby at_443) rfl ((if0 _ _).trans (teq (by decide : (0 : Int32) = (0 : Int32))).2) ?_
      refine Wk.new X235 hx hZ1 ho1 (w 36 _ rfl) (w 2 _ rfl) (w 1 _ rfl) e235 (hb hby at_446) rfl (by decide) (by decide) ?_
      intro T317 h317 a317 g317 X317 e317 E317 A317 D317
      have O318 : Old Z Z.heap.size h317 := O236.ext E317
      have f319 : Fld Z h317 a317 "java/lang/String" "value" "[B" .null := D317 (Or.inr (w 4 _ rfl)) (ty := (.array .byte)) (by decide)
      have f320 : Fld Z h317 a317 "java/lang/String" "coder" "B" (.int (0 : Int32)) := D317 (Or.inr (w 5 _ rfl)) (ty := .byte) (by decide)
      refine Wk.dup X317 hx (hb hby at_449) rfl rfl ?_
      refine Wk.aload X317 hx (hb hby at_450) rfl rfl rfl ?_
      have hws_words : ∀ d ∈ StrChars.Road.words, d.before a0 Z = true := fun d hd => hw d ((by decide +kernel : ∀ d ∈ StrChars.Road.words, d ∈ tables_1) d hd)
      have KK321 : Keep h235 h317 [] := ((Keep.refl h235 []).ext E317)
      have f322 := (f253.keep KK321 nin0)
      have KK323 : Keep h0 h317 [] := (KK237.ext E317)
      refine Wk.callI X317 hx hZ1 rfl ho1 (w 37 _ rfl) (w 38 _ rfl) (w 39 _ rfl) (by decide) (as' := [(.ref a7)]) (StrChars.Road.backV (W := 1) hZ1 hws_words (kI := 4) (w 2 _ rfl) (cs := ([cz0, cz1, cz2, cz3, cz4, cz5, cz6, cz7, cz8, cz9, cz10, cz11, cz12] : List Int32)) (bs := (([cz0, cz1, cz2, cz3, cz4, cz5, cz6, cz7, cz8, cz9, cz10, cz11, cz12] : List Int32).map (fun c => c.toInt8.toInt32))) (n := 13) (Nat.le_trans KK237.1 (Nat.le_of_eq g317)) KK323.1 A317 f319 f320 f322 (SG1.ext O318.2) nG1 rfl rfl (by decide) (by decide) (latCons Ltcz0 (latCons Ltcz1 (latCons Ltcz2 (latCons Ltcz3 (latCons Ltcz4 (latCons Ltcz5 (latCons Ltcz6 (latCons Ltcz7 (latCons Ltcz8 (latCons Ltcz9 (latCons Ltcz10 (latCons Ltcz11 (latCons Ltcz12 latNil))))))))))))) rfl (by decide) (by decide)) e317 (by rw [hml]; rfl) (rest := [(.ref a317)]) (lenOf pd21 rfl) rfl (Nat.le_of_eq rfl) (hb hby at_452) rfl (by decide) (by decide) ?_
      intro T324 h324 v324 L324 X324 e324 hQ324
      obtain ⟨rfl, Nq324, K324, E324s, C324s, t324, kb324, z324a, z324b, z324c, V324s, B324s⟩ := hQ324
      have N324 := Fk.app N235 (Fk.of_fr (ws := []) Nq324) (Nat.le_refl _) all0
      have O325 : Old Z Z.heap.size h324 := O318.keep K324 (allS (Nat.le_trans (Nat.le_trans (Nat.le_trans (Nat.le_of_eq O0.1.symm) O0.2.1) KK237.1) (Nat.le_of_eq g317)) all0)
      have B324t : Arv Z h324 t324 kb324 .byte (13 : Int32) [(.int cz0.toInt8.toInt32), (.int cz1.toInt8.toInt32), (.int cz2.toInt8.toInt32), (.int cz3.toInt8.toInt32), (.int cz4.toInt8.toInt32), (.int cz5.toInt8.toInt32), (.int cz6.toInt8.toInt32), (.int cz7.toInt8.toInt32), (.int cz8.toInt8.toInt32), (.int cz9.toInt8.toInt32), (.int cz10.toInt8.toInt32), (.int cz11.toInt8.toInt32), (.int cz12.toInt8.toInt32)] (.int (0 : Int32)) := B324s
      show Wp p e below _ _ T324 (mkF m 455 #[.val (.int p0), .val (.int p1), .val (.int p2), .val (.int p3), .val (.ref a1), .val (.int (0 : Int32)), .val (.int i4), .val (.int c5), .val (.int c6), .val (.ref a7), .val (.ref a128), .val (.ref a179), .unset, .unset, .unset] [(.ref a317)])
      refine Wk.astore X324 hx (Ls' := #[.val (.int p0), .val (.int p1), .val (.int p2), .val (.int p3), .val (.ref a1), .val (.int (0 : Int32)), .val (.int i4), .val (.int c5), .val (.int c6), .val (.ref a7), .val (.ref a128), .val (.ref a179), .val (.ref a317), .unset, .unset]) (hb hby at_455) rfl rfl rfl ?_
      refine Wk.goto X324 hx (hb hby at_457) (by decide) (q := 503) rfl ?_
      refine Wk.aload X324 hx (hb hby at_503) rfl rfl rfl ?_
      have KK326 : Keep h235 h324 [] := (KK321.trans K324 (allS (Or.inr (Nat.le_of_eq g317)) all0))
      have f327 := (f238.keep KK326 nin0)
      have f328 : Exa Z h324 va "[Lcom/example/accumulus/accumulus/terms/FixedOption;" := (f239.keep KK326)
      have f329 : Fld Z h324 kf "com/example/accumulus/accumulus/terms/FixedOption" "label" "Ljava/lang/String;" (.ref lb_) := (f240.keep KK326 nin0)
      have f330 : Exa Z h324 lb_ "java/lang/String" := (f241.keep KK326)
      have f331 : Fld Z h324 lb_ "java/lang/String" "coder" "B" (.int (0 : Int32)) := (f242.keep KK326 nin0)
      have f332 : Fld Z h324 lb_ "java/lang/String" "value" "[B" (.ref lt) := (f243.keep KK326 nin0)
      have f333 := (f244.keep KK326 nin0)
      refine Wk.callS X324 hx hZ1 ho1 (w 57 _ rfl) (w 58 _ rfl) (w 59 _ rfl) (w 60 _ rfl) (by decide) (as' := [(.ref a317)]) (backOf (W := 0) (rm_wlD l Z a0 hw [] va kv kf lb_ lt lk G1 a317 t324 kb324 cz0.toInt8.toInt32 cz1.toInt8.toInt32 cz2.toInt8.toInt32 cz3.toInt8.toInt32 cz4.toInt8.toInt32 cz5.toInt8.toInt32 cz6.toInt8.toInt32 cz7.toInt8.toInt32 cz8.toInt8.toInt32 cz9.toInt8.toInt32 cz10.toInt8.toInt32 cz11.toInt8.toInt32 cz12.toInt8.toInt32 h324 O325 SG1 nG1 sV f327 f328 f329 f330 f331 f332 f333 E324s C324s V324s B324t (Nat.ne_of_lt (Nat.lt_of_lt_of_le f241.lt (Nat.le_of_eq g317))) hE285) hZ1 (w 60 _ rfl) (w 59 _ rfl) (by decide) (by decide)) e324 (by rw [hml]; rfl) (rest := []) (lenOf pd22 rfl) rfl (Nat.le_of_eq rfl) (hb hby at_505) rfl (by decide) (by decide) ?_
      intro T334 h334 v334 L334 X334 e334 hQ334
      obtain ⟨rfl, Nq334, K334⟩ := hQ334
      have KK335 : Keep h0 h324 [] := (KK323.trans K324 (allS (Or.inr (Nat.le_trans KK237.1 (Nat.le_of_eq g317))) all0))
      have N334 := Fk.app N324 Nq334 KK335.1 all0
      have O336 : Old Z Z.heap.size h334 := O325.keep K334 all0
      show Wp p e below _ _ T334 (mkF m 508 #[.val (.int p0), .val (.int p1), .val (.int p2), .val (.int p3), .val (.ref a1), .val (.int (0 : Int32)), .val (.int i4), .val (.int c5), .val (.int c6), .val (.ref a7), .val (.ref a128), .val (.ref a179), .val (.ref a317), .unset, .unset] [.null])
      refine Wk.astore X334 hx (Ls' := #[.val (.int p0), .val (.int p1), .val (.int p2), .val (.int p3), .val (.ref a1), .val (.int (0 : Int32)), .val (.int i4), .val (.int c5), .val (.int c6), .val (.ref a7), .val (.ref a128), .val (.ref a179), .val (.ref a317), .val .null, .unset]) (hb hby at_508) rfl rfl rfl ?_
      refine Wk.iload X334 hx (hb hby at_510) rfl rfl ?_
      refine Wk.ifNo X334 hx (hb hby at_512) rfl ((if0 _ _).trans (teq (by decide : (0 : Int32) = (0 : Int32))).2) ?_
      have KK337 : Keep h235 h334 [] := (KK326.trans K334 all0)
      have f338 : Exa Z h334 a1 "java/lang/String" := (f248.keep KK337)
      have f339 : Fld Z h334 a1 "java/lang/String" "coder" "B" (.int (0 : Int32)) := (f249.keep KK337 nin0)
      have f340 : Fld Z h334 a1 "java/lang/String" "value" "[B" (.ref b1) := (f250.keep KK337 nin0)
      have f341 := (f251.keep KK337 nin0)
      have KK342 : Keep h0 h334 [] := (KK335.trans K334 all0)
      have hT : ∃ cc_ : Int32, ¬ i4 < 0 ∧ i4 < (13 : Int32) ∧ ([(.int (102 : Int32)), (.int (105 : Int32)), (.int (120 : Int32)), (.int (101 : Int32)), (.int (100 : Int32)), (.int (45 : Int32)), (.int (112 : Int32)), (.int (108 : Int32)), (.int (117 : Int32)), (.int (115 : Int32)), (.int (45 : Int32)), (.int (105 : Int32)), (.int (105 : Int32))] : List Value).getD i4.toNatClampNeg (.int (0 : Int32)) = .int cc_.toInt8.toInt32 ∧ Lat cc_ ∧ ¬ c5 = cc_ := by
        rcases hRel with ⟨hp, e_0, e_1, e_2, e_3, e_4, e_5, e_6, e_7, e_8, e_9, e_10, e_11, e_12⟩ | ⟨hp, e_0, e_1, e_2, e_3, e_4, e_5, e_6, e_7, e_8, e_9, e_10, e_11, e_12⟩ | ⟨hp, e_0, e_1, e_2, e_3, e_4, e_5, e_6, e_7, e_8, e_9, e_10, e_11, e_12⟩ | ⟨hp, e_0, e_1, e_2, e_3, e_4, e_5, e_6, e_7, e_8, e_9, e_10, e_11, e_12⟩ | ⟨hp, e_0, e_1, e_2, e_3, e_4, e_5, e_6, e_7, e_8, e_9, e_10, e_11, e_12⟩ | ⟨hp, e_0, e_1, e_2, e_3, e_4, e_5, e_6, e_7, e_8, e_9, e_10, e_11, e_12⟩ | ⟨hp, e_0, e_1, e_2, e_3, e_4, e_5, e_6, e_7, e_8, e_9, e_10, e_11, e_12⟩ | ⟨hp, e_0, e_1, e_2, e_3, e_4, e_5, e_6, e_7, e_8, e_9, e_10, e_11, e_12⟩ | ⟨hp, e_0, e_1, e_2, e_3, e_4, e_5, e_6, e_7, e_8, e_9, e_10, e_11, e_12⟩ | ⟨hp, e_0, e_1, e_2, e_3, e_4, e_5, e_6, e_7, e_8, e_9, e_10, e_11, e_12⟩ | ⟨hp, e_0, e_1, e_2, e_3, e_4, e_5, e_6, e_7, e_8, e_9, e_10, e_11, e_12⟩ | ⟨hp, e_0, e_1, e_2, e_3, e_4, e_5, e_6, e_7, e_8, e_9, e_10, e_11, e_12⟩ | ⟨hp, e_0, e_1, e_2, e_3, e_4, e_5, e_6, e_7, e_8, e_9, e_10, e_11, e_12⟩ | ⟨hp, e_0, e_1, e_2, e_3, e_4, e_5, e_6, e_7, e_8, e_9, e_10, e_11, e_12⟩
        · exact ⟨(102 : Int32), by rw [hp]; decide, by rw [hp]; decide, by rw [hp]; rfl, ⟨by decide, by decide⟩, fun hd => (hE285 ⟨(by rw [e_0, hd]; decide), (by rw [e_1]; decide), (by rw [e_2]; decide), (by rw [e_3]; decide), (by rw [e_4]; decide), (by rw [e_5]; decide), (by rw [e_6]; decide), (by rw [e_7]; decide), (by rw [e_8]; decide), (by rw [e_9]; decide), (by rw [e_10]; decide), (by rw [e_11]; decide), (by rw [e_12]; decide)⟩)⟩
        · exact ⟨(105 : Int32), by rw [hp]; decide, by rw [hp]; decide, by rw [hp]; rfl, ⟨by decide, by decide⟩, fun hd => (hE285 ⟨(by rw [e_0]; decide), (by rw [e_1, hd]; decide), (by rw [e_2]; decide), (by rw [e_3]; decide), (by rw [e_4]; decide), (by rw [e_5]; decide), (by rw [e_6]; decide), (by rw [e_7]; decide), (by rw [e_8]; decide), (by rw [e_9]; decide), (by rw [e_10]; decide), (by rw [e_11]; decide), (by rw [e_12]; decide)⟩)⟩
        · exact ⟨(120 : Int32), by rw [hp]; decide, by rw [hp]; decide, by rw [hp]; rfl, ⟨by decide, by decide⟩, fun hd => (hE285 ⟨(by rw [e_0]; decide), (by rw [e_1]; decide), (by rw [e_2, hd]; decide), (by rw [e_3]; decide), (by rw [e_4]; decide), (by rw [e_5]; decide), (by rw [e_6]; decide), (by rw [e_7]; decide), (by rw [e_8]; decide), (by rw [e_9]; decide), (by rw [e_10]; decide), (by rw [e_11]; decide), (by rw [e_12]; decide)⟩)⟩
        · exact ⟨(101 : Int32), by rw [hp]; decide, by rw [hp]; decide, by rw [hp]; rfl, ⟨by decide, by decide⟩, fun hd => (hE285 ⟨(by rw [e_0]; decide), (by rw [e_1]; decide), (by rw [e_2]; decide), (by rw [e_3, hd]; decide), (by rw [e_4]; decide), (by rw [e_5]; decide), (by rw [e_6]; decide), (by rw [e_7]; decide), (by rw [e_8]; decide), (by rw [e_9]; decide), (by rw [e_10]; decide), (by rw [e_11]; decide), (by rw [e_12]; decide)⟩)⟩
        · exact ⟨(100 : Int32), by rw [hp]; decide, by rw [hp]; decide, by rw [hp]; rfl, ⟨by decide, by decide⟩, fun hd => (hE285 ⟨(by rw [e_0]; decide), (by rw [e_1]; decide), (by rw [e_2]; decide), (by rw [e_3]; decide), (by rw [e_4, hd]; decide), (by rw [e_5]; decide), (by rw [e_6]; decide), (by rw [e_7]; decide), (by rw [e_8]; decide), (by rw [e_9]; decide), (by rw [e_10]; decide), (by rw [e_11]; decide), (by rw [e_12]; decide)⟩)⟩
        · exact ⟨(45 : Int32), by rw [hp]; decide, by rw [hp]; decide, by rw [hp]; rfl, ⟨by decide, by decide⟩, fun hd => (hE285 ⟨(by rw [e_0]; decide), (by rw [e_1]; decide), (by rw [e_2]; decide), (by rw [e_3]; decide), (by rw [e_4]; decide), (by rw [e_5, hd]; decide), (by rw [e_6]; decide), (by rw [e_7]; decide), (by rw [e_8]; decide), (by rw [e_9]; decide), (by rw [e_10]; decide), (by rw [e_11]; decide), (by rw [e_12]; decide)⟩)⟩
        · exact ⟨(112 : Int32), by rw [hp]; decide, by rw [hp]; decide, by rw [hp]; rfl, ⟨by decide, by decide⟩, fun hd => (hE285 ⟨(by rw [e_0]; decide), (by rw [e_1]; decide), (by rw [e_2]; decide), (by rw [e_3]; decide), (by rw [e_4]; decide), (by rw [e_5]; decide), (by rw [e_6, hd]; decide), (by rw [e_7]; decide), (by rw [e_8]; decide), (by rw [e_9]; decide), (by rw [e_10]; decide), (by rw [e_11]; decide), (by rw [e_12]; decide)⟩)⟩
        · exact ⟨(108 : Int32), by rw [hp]; decide, by rw [hp]; decide, by rw [hp]; rfl, ⟨by decide, by decide⟩, fun hd => (hE285 ⟨(by rw [e_0]; decide), (by rw [e_1]; decide), (by rw [e_2]; decide), (by rw [e_3]; decide), (by rw [e_4]; decide), (by rw [e_5]; decide), (by rw [e_6]; decide), (by rw [e_7, hd]; decide), (by rw [e_8]; decide), (by rw [e_9]; decide), (by rw [e_10]; decide), (by rw [e_11]; decide), (by rw [e_12]; decide)⟩)⟩
        · exact ⟨(117 : Int32), by rw [hp]; decide, by rw [hp]; decide, by rw [hp]; rfl, ⟨by decide, by decide⟩, fun hd => (hE285 ⟨(by rw [e_0]; decide), (by rw [e_1]; decide), (by rw [e_2]; decide), (by rw [e_3]; decide), (by rw [e_4]; decide), (by rw [e_5]; decide), (by rw [e_6]; decide), (by rw [e_7]; decide), (by rw [e_8, hd]; decide), (by rw [e_9]; decide), (by rw [e_10]; decide), (by rw [e_11]; decide), (by rw [e_12]; decide)⟩)⟩
        · exact ⟨(115 : Int32), by rw [hp]; decide, by rw [hp]; decide, by rw [hp]; rfl, ⟨by decide, by decide⟩, fun hd => (hE285 ⟨(by rw [e_0]; decide), (by rw [e_1]; decide), (by rw [e_2]; decide), (by rw [e_3]; decide), (by rw [e_4]; decide), (by rw [e_5]; decide), (by rw [e_6]; decide), (by rw [e_7]; decide), (by rw [e_8]; decide), (by rw [e_9, hd]; decide), (by rw [e_10]; decide), (by rw [e_11]; decide), (by rw [e_12]; decide)⟩)⟩
        · exact ⟨(45 : Int32), by rw [hp]; decide, by rw [hp]; decide, by rw [hp]; rfl, ⟨by decide, by decide⟩, fun hd => (hE285 ⟨(by rw [e_0]; decide), (by rw [e_1]; decide), (by rw [e_2]; decide), (by rw [e_3]; decide), (by rw [e_4]; decide), (by rw [e_5]; decide), (by rw [e_6]; decide), (by rw [e_7]; decide), (by rw [e_8]; decide), (by rw [e_9]; decide), (by rw [e_10, hd]; decide), (by rw [e_11]; decide), (by rw [e_12]; decide)⟩)⟩
        · exact ⟨(105 : Int32), by rw [hp]; decide, by rw [hp]; decide, by rw [hp]; rfl, ⟨by decide, by decide⟩, fun hd => (hE285 ⟨(by rw [e_0]; decide), (by rw [e_1]; decide), (by rw [e_2]; decide), (by rw [e_3]; decide), (by rw [e_4]; decide), (by rw [e_5]; decide), (by rw [e_6]; decide), (by rw [e_7]; decide), (by rw [e_8]; decide), (by rw [e_9]; decide), (by rw [e_10]; decide), (by rw [e_11, hd]; decide), (by rw [e_12]; decide)⟩)⟩
        · exact ⟨(105 : Int32), by rw [hp]; decide, by rw [hp]; decide, by rw [hp]; rfl, ⟨by decide, by decide⟩, fun hd => (hE285 ⟨(by rw [e_0]; decide), (by rw [e_1]; decide), (by rw [e_2]; decide), (by rw [e_3]; decide), (by rw [e_4]; decide), (by rw [e_5]; decide), (by rw [e_6]; decide), (by rw [e_7]; decide), (by rw [e_8]; decide), (by rw [e_9]; decide), (by rw [e_10]; decide), (by rw [e_11]; decide), (by rw [e_12, hd]; decide)⟩)⟩
        · exact False.elim (hE285 ⟨(by rw [e_0]; decide), (by rw [e_1]; decide), (by rw [e_2]; decide), (by rw [e_3]; decide), (by rw [e_4]; decide), (by rw [e_5]; decide), (by rw [e_6]; decide), (by rw [e_7]; decide), (by rw [e_8]; decide), (by rw [e_9]; decide), (by rw [e_10]; decide), (by rw [e_11]; decide), (by rw [e_12]; decide)⟩)
      obtain ⟨cc_, hx0_, hx1_, hx2_, hx3_, hx4_⟩ := hT
      refine Wk.iload X334 hx (hb hby at_515) rfl rfl ?_
      refine Wk.bipush X334 hx (v := (13 : Int32)) (hb hby at_517) rfl rfl ?_
      refine Wk.icmpNo X334 hx (hb hby at_519) rfl (feq (fun q => by rw [q] at hx1_; exact absurd hx1_ (by decide))).1 ?_
      refine Wk.iload X334 hx (hb hby at_522) rfl rfl ?_
      refine Wk.aload X334 hx (hb hby at_524) rfl rfl rfl ?_
      refine Wk.iload X334 hx (hb hby at_526) rfl rfl ?_
      refine Wk.callV X334 hx hZ1 (y := (⟨"java/lang/String", "charAt", "(I)C"⟩ : MethodName)) (z := (⟨"java/lang/String", "charAt", "(I)C"⟩ : MethodName)) ho1 (w 11 _ rfl) (w 12 _ rfl) (notFace_of_selects (args := #[]) (mvT hZ1 (w 14 _ rfl))) (w 14 _ rfl) (w 13 _ rfl) (by decide) (as' := [(.int i4)]) (backOf (W := 1) (rm_cha l Z a0 hw [] a1 b1 G1 i4 kb1 (13 : Int32) _ cc_ G3 h334 O336 SG1 nG1 rG3 SG3 f338 f339 f340 f341 (by first | assumption | rfl | decide | exact Nat.le_of_ble_eq_true rfl) (by first | assumption | rfl | decide | exact Nat.le_of_ble_eq_true rfl) (by first | assumption | rfl | decide | exact Nat.le_of_ble_eq_true rfl) hx3_) hZ1 (w 15 _ rfl) (w 1 _ rfl) (by decide) (by decide)) e334 f338 (by rw [hml]; rfl) (rest := [(.int c5)]) (lenOf pd20 rfl) rfl (Nat.le_of_eq rfl) (hb hby at_528) rfl (by decide) (by decide) ?_
      intro T343 h343 v343 L343 X343 e343 hQ343
      obtain ⟨rfl, Nq343, K343⟩ := hQ343
      have N343 := Fk.app N334 Nq343 KK342.1 all0
      rw [K343] at e343
      show Wp p e below _ _ T343 (mkF m 531 #[.val (.int p0), .val (.int p1), .val (.int p2), .val (.int p3), .val (.ref a1), .val (.int (0 : Int32)), .val (.int i4), .val (.int c5), .val (.int c6), .val (.ref a7), .val (.ref a128), .val (.ref a179), .val (.ref a317), .val .null, .unset] [(.int cc_), (.int c5)])
      refine Wk.icmpYes X343 hx (hb hby at_531) (by decide) (q := 538) rfl (feq hx4_).2 ?_
      refine Wk.iconst X343 hx (v := (0 : Int32)) (hb hby at_538) rfl rfl ?_
      refine Wk.istore X343 hx (Ls' := #[.val (.int p0), .val (.int p1), .val (.int p2), .val (.int p3), .val (.ref a1), .val (.int (0 : Int32)), .val (.int i4), .val (.int c5), .val (.int c6), .val (.ref a7), .val (.ref a128), .val (.ref a179), .val (.ref a317), .val .null, .val (.int (0 : Int32))]) (hb hby at_539) rfl rfl ?_
      refine Wk.iload X343 hx (hb hby at_541) rfl rfl ?_
      refine Wk.ifYes X343 hx (hb hby at_543) (by decide) (q := 560) rfl ((if0 _ _).trans (teq (by decide : (0 : Int32) = (0 : Int32))).1) ?_
      refine Wk.aload X343 hx (hb hby at_560) rfl rfl rfl ?_
      refine Wk.ifnonnullNo X343 hx (hb hby at_562) rfl ?_
      refine Wk.iconst X343 hx (v := (1 : Int32)) (hb hby at_565) rfl rfl ?_
      refine Wk.goto X343 hx (hb hby at_566) (by decide) (q := 570) rfl ?_
      have KK344 : Keep h1 h334 [] := (((KK247.ext E317).trans K324 (allS (Or.inr (Nat.le_trans KK247.1 (Nat.le_of_eq g317))) all0)).trans K334 all0)
      exact Wk.retZW X343 hx hS1 (Nat.le_trans (Nat.le_refl _) KK344.1) hlk hr (by simp) (hb hby at_570) (by decide) (by decide) (Qc := Q_rm_law Z p0 p1 p2 p3 G1 G3 va kv kf lb_ lt lk h0) e343 (fun vm' hw' => ⟨rfl, N343, KK342⟩)
    · skip
      by_cases hN345 : NL12 cz0 cz1 cz2 cz3 cz4 cz5 cz6 cz7 cz8 cz9 cz10 cz11
      · skip
        refine Wk.iload X235 hx (hb hby at_441) rfl rfl ?_
        refine Wk.ifYes X235 hx (hb hby at_443) (by decide) (q := 460) rfl ((if0 _ _).trans (feq (by decide : ¬ ((1 : Int32) = (0 : Int32)))).2) ?_
        refine Wk.iload X235 hx (hb hby at_460) rfl rfl ?_
        refine Wk.iconst X235 hx (v := (1 : Int32)) (hb hby at_462) rfl rfl ?_
        refine Wk.icmpNo X235 hx (hb hby at_463) rfl (teq (by decide : (1 : Int32) = (1 : Int32))).2 ?_
        refine Wk.new X235 hx hZ1 ho1 (w 36 _ rfl) (w 2 _ rfl) (w 1 _ rfl) e235 (hb hby at_466) rfl (by decide) (by decide) ?_
        intro T346 h346 a346 g346 X346 e346 E346 A346 D346
        have O347 : Old Z Z.heap.size h346 := O236.ext E346
        have f348 : Fld Z h346 a346 "java/lang/String" "value" "[B" .null := D346 (Or.inr (w 4 _ rfl)) (ty := (.array .byte)) (by decide)
        have f349 : Fld Z h346 a346 "java/lang/String" "coder" "B" (.int (0 : Int32)) := D346 (Or.inr (w 5 _ rfl)) (ty := .byte) (by decide)
        refine Wk.dup X346 hx (hb hby at_469) rfl rfl ?_
        refine Wk.aload X346 hx (hb hby at_470) rfl rfl rfl ?_
        have KK350 : Keep h235 h346 [] := ((Keep.refl h235 []).ext E346)
        have f351 := (f255.keep KK350 nin0)
        refine Wk.callI X346 hx hZ1 rfl ho1 (w 37 _ rfl) (w 38 _ rfl) (w 39 _ rfl) (by decide) (as' := [(.ref a128)]) (backOf (W := 1) (rm_ic_12 l Z a0 hw [] a346 a128 kA128 G1 cz0 cz1 cz2 cz3 cz4 cz5 cz6 cz7 cz8 cz9 cz10 cz11 h346 O347 sH sL sA SG1 nG1 A346 f348 f349 (Nat.le_trans (Nat.le_trans (Nat.le_trans (Nat.le_of_eq O0.1.symm) O0.2.1) KK237.1) (Nat.le_of_eq g346)) f351 hccz0 hccz1 hccz2 hccz3 hccz4 hccz5 hccz6 hccz7 hccz8 hccz9 hccz10 hccz11 hN345) hZ1 (w 39 _ rfl) (w 1 _ rfl) (by decide) (by decide)) e346 (by rw [hml]; rfl) (rest := [(.ref a346)]) (lenOf pd21 rfl) rfl (Nat.le_of_eq rfl) (hb hby at_472) rfl (by decide) (by decide) ?_
        intro T352 h352 v352 L352 X352 e352 hQ352
        obtain ⟨rfl, Nq352, K352, q352_0, q352_1⟩ := hQ352
        have KK353 : Keep h0 h346 [] := (KK237.ext E346)
        have N352 := Fk.app N235 Nq352 KK353.1 (allS (Or.inr (Nat.le_trans KK237.1 (Nat.le_of_eq g346))) all0)
        have O354 : Old Z Z.heap.size h352 := O347.keep K352 (allS (Nat.le_trans (Nat.le_trans (Nat.le_trans (Nat.le_of_eq O0.1.symm) O0.2.1) KK237.1) (Nat.le_of_eq g346)) all0)
        show Wp p e below _ _ T352 (mkF m 475 #[.val (.int p0), .val (.int p1), .val (.int p2), .val (.int p3), .val (.ref a1), .val (.int (1 : Int32)), .val (.int i4), .val (.int c5), .val (.int c6), .val (.ref a7), .val (.ref a128), .val (.ref a179), .unset, .unset, .unset] [(.ref a346)])
        refine Wk.astore X352 hx (Ls' := #[.val (.int p0), .val (.int p1), .val (.int p2), .val (.int p3), .val (.ref a1), .val (.int (1 : Int32)), .val (.int i4), .val (.int c5), .val (.int c6), .val (.ref a7), .val (.ref a128), .val (.ref a179), .val (.ref a346), .unset, .unset]) (hb hby at_475) rfl rfl rfl ?_
        refine Wk.goto X352 hx (hb hby at_477) (by decide) (q := 503) rfl ?_
        refine Wk.aload X352 hx (hb hby at_503) rfl rfl rfl ?_
        have KK355 : Keep h235 h352 [] := (KK350.trans K352 (allS (Or.inr (Nat.le_of_eq g346)) all0))
        have f356 := (f238.keep KK355 nin0)
        have f357 : Exa Z h352 va "[Lcom/example/accumulus/accumulus/terms/FixedOption;" := (f239.keep KK355)
        have f358 : Fld Z h352 kf "com/example/accumulus/accumulus/terms/FixedOption" "label" "Ljava/lang/String;" (.ref lb_) := (f240.keep KK355 nin0)
        have f359 : Exa Z h352 lb_ "java/lang/String" := (f241.keep KK355)
        have f360 : Fld Z h352 lb_ "java/lang/String" "coder" "B" (.int (0 : Int32)) := (f242.keep KK355 nin0)
        have f361 : Fld Z h352 lb_ "java/lang/String" "value" "[B" (.ref lt) := (f243.keep KK355 nin0)
        have f362 := (f244.keep KK355 nin0)
        refine Wk.callS X352 hx hZ1 ho1 (w 57 _ rfl) (w 58 _ rfl) (w 59 _ rfl) (w 60 _ rfl) (by decide) (as' := [(.ref a346)]) (backOf (W := 0) (rm_wlU l Z a0 hw [] va kv kf lb_ lt lk G1 a346 h352 O354 SG1 nG1 sV f356 f357 f358 f359 f360 f361 f362 q352_0 q352_1 (Nat.ne_of_lt (Nat.lt_of_lt_of_le f241.lt (Nat.le_of_eq g346)))) hZ1 (w 60 _ rfl) (w 59 _ rfl) (by decide) (by decide)) e352 (by rw [hml]; rfl) (rest := []) (lenOf pd22 rfl) rfl (Nat.le_of_eq rfl) (hb hby at_505) rfl (by decide) (by decide) ?_
        intro T363 h363 v363 L363 X363 e363 hQ363
        obtain ⟨rfl, Nq363, K363⟩ := hQ363
        have KK364 : Keep h0 h352 [] := (KK353.trans K352 (allS (Or.inr (Nat.le_trans KK237.1 (Nat.le_of_eq g346))) all0))
        have N363 := Fk.app N352 Nq363 KK364.1 all0
        have O365 : Old Z Z.heap.size h363 := O354.keep K363 all0
        show Wp p e below _ _ T363 (mkF m 508 #[.val (.int p0), .val (.int p1), .val (.int p2), .val (.int p3), .val (.ref a1), .val (.int (1 : Int32)), .val (.int i4), .val (.int c5), .val (.int c6), .val (.ref a7), .val (.ref a128), .val (.ref a179), .val (.ref a346), .unset, .unset] [.null])
        refine Wk.astore X363 hx (Ls' := #[.val (.int p0), .val (.int p1), .val (.int p2), .val (.int p3), .val (.ref a1), .val (.int (1 : Int32)), .val (.int i4), .val (.int c5), .val (.int c6), .val (.ref a7), .val (.ref a128), .val (.ref a179), .val (.ref a346), .val .null, .unset]) (hb hby at_508) rfl rfl rfl ?_
        refine Wk.iload X363 hx (hb hby at_510) rfl rfl ?_
        refine Wk.ifYes X363 hx (hb hby at_512) (by decide) (q := 538) rfl ((if0 _ _).trans (feq (by decide : ¬ ((1 : Int32) = (0 : Int32)))).2) ?_
        refine Wk.iconst X363 hx (v := (0 : Int32)) (hb hby at_538) rfl rfl ?_
        refine Wk.istore X363 hx (Ls' := #[.val (.int p0), .val (.int p1), .val (.int p2), .val (.int p3), .val (.ref a1), .val (.int (1 : Int32)), .val (.int i4), .val (.int c5), .val (.int c6), .val (.ref a7), .val (.ref a128), .val (.ref a179), .val (.ref a346), .val .null, .val (.int (0 : Int32))]) (hb hby at_539) rfl rfl ?_
        refine Wk.iload X363 hx (hb hby at_541) rfl rfl ?_
        refine Wk.ifYes X363 hx (hb hby at_543) (by decide) (q := 560) rfl ((if0 _ _).trans (teq (by decide : (0 : Int32) = (0 : Int32))).1) ?_
        refine Wk.aload X363 hx (hb hby at_560) rfl rfl rfl ?_
        refine Wk.ifnonnullNo X363 hx (hb hby at_562) rfl ?_
        refine Wk.iconst X363 hx (v := (1 : Int32)) (hb hby at_565) rfl rfl ?_
        refine Wk.goto X363 hx (hb hby at_566) (by decide) (q := 570) rfl ?_
        have KK366 : Keep h0 h363 [] := (KK364.trans K363 all0)
        have KK367 : Keep h1 h363 [] := (((KK247.ext E346).trans K352 (allS (Or.inr (Nat.le_trans KK247.1 (Nat.le_of_eq g346))) all0)).trans K363 all0)
        exact Wk.retZW X363 hx hS1 (Nat.le_trans (Nat.le_refl _) KK367.1) hlk hr (by simp) (hb hby at_570) (by decide) (by decide) (Qc := Q_rm_law Z p0 p1 p2 p3 G1 G3 va kv kf lb_ lt lk h0) e363 (fun vm' hw' => ⟨rfl, N363, KK366⟩)
      have Ltcz0 : Lat cz0 := ⟨hccz0.1, fun q_ => hN345 (Or.inl q_)⟩
      have Ltcz1 : Lat cz1 := ⟨hccz1.1, fun q_ => hN345 (Or.inr (Or.inl q_))⟩
      have Ltcz2 : Lat cz2 := ⟨hccz2.1, fun q_ => hN345 (Or.inr (Or.inr (Or.inl q_)))⟩
      have Ltcz3 : Lat cz3 := ⟨hccz3.1, fun q_ => hN345 (Or.inr (Or.inr (Or.inr (Or.inl q_))))⟩
      have Ltcz4 : Lat cz4 := ⟨hccz4.1, fun q_ => hN345 (Or.inr (Or.inr (Or.inr (Or.inr (Or.inl q_)))))⟩
      have Ltcz5 : Lat cz5 := ⟨hccz5.1, fun q_ => hN345 (Or.inr (Or.inr (Or.inr (Or.inr (Or.inr (Or.inl q_))))))⟩
      have Ltcz6 : Lat cz6 := ⟨hccz6.1, fun q_ => hN345 (Or.inr (Or.inr (Or.inr (Or.inr (Or.inr (Or.inr (Or.inl q_)))))))⟩
      have Ltcz7 : Lat cz7 := ⟨hccz7.1, fun q_ => hN345 (Or.inr (Or.inr (Or.inr (Or.inr (Or.inr (Or.inr (Or.inr (Or.inl q_))))))))⟩
      have Ltcz8 : Lat cz8 := ⟨hccz8.1, fun q_ => hN345 (Or.inr (Or.inr (Or.inr (Or.inr (Or.inr (Or.inr (Or.inr (Or.inr (Or.inl q_)))))))))⟩
      have Ltcz9 : Lat cz9 := ⟨hccz9.1, fun q_ => hN345 (Or.inr (Or.inr (Or.inr (Or.inr (Or.inr (Or.inr (Or.inr (Or.inr (Or.inr (Or.inl q_))))))))))⟩
      have Ltcz10 : Lat cz10 := ⟨hccz10.1, fun q_ => hN345 (Or.inr (Or.inr (Or.inr (Or.inr (Or.inr (Or.inr (Or.inr (Or.inr (Or.inr (Or.inr (Or.inl q_)))))))))))⟩
      have Ltcz11 : Lat cz11 := ⟨hccz11.1, fun q_ => hN345 (Or.inr (Or.inr (Or.inr (Or.inr (Or.inr (Or.inr (Or.inr (Or.inr (Or.inr (Or.inr (Or.inr (q_))))))))))))⟩
      refine Wk.iload X235 hx (hb hby at_441) rfl rfl ?_
      refine Wk.ifYes X235 hx (hb hby at_443) (by decide) (q := 460) rfl ((if0 _ _).trans (feq (by decide : ¬ ((1 : Int32) = (0 : Int32)))).2) ?_
      refine Wk.iload X235 hx (hb hby at_460) rfl rfl ?_
      refine Wk.iconst X235 hx (v := (1 : Int32)) (hb hby at_462) rfl rfl ?_
      refine Wk.icmpNo X235 hx (hb hby at_463) rfl (teq (by decide : (1 : Int32) = (1 : Int32))).2 ?_
      refine Wk.new X235 hx hZ1 ho1 (w 36 _ rfl) (w 2 _ rfl) (w 1 _ rfl) e235 (hb hby at_466) rfl (by decide) (by decide) ?_
      intro T368 h368 a368 g368 X368 e368 E368 A368 D368
      have O369 : Old Z Z.heap.size h368 := O236.ext E368
      have f370 : Fld Z h368 a368 "java/lang/String" "value" "[B" .null := D368 (Or.inr (w 4 _ rfl)) (ty := (.array .byte)) (by decide)
      have f371 : Fld Z h368 a368 "java/lang/String" "coder" "B" (.int (0 : Int32)) := D368 (Or.inr (w 5 _ rfl)) (ty := .byte) (by decide)
      refine Wk.dup X368 hx (hb hby at_469) rfl rfl ?_
      refine Wk.aload X368 hx (hb hby at_470) rfl rfl rfl ?_
      have hws_words : ∀ d ∈ StrChars.Road.words, d.before a0 Z = true := fun d hd => hw d ((by decide +kernel : ∀ d ∈ StrChars.Road.words, d ∈ tables_1) d hd)
      have KK372 : Keep h235 h368 [] := ((Keep.refl h235 []).ext E368)
      have f373 := (f255.keep KK372 nin0)
      have KK374 : Keep h0 h368 [] := (KK237.ext E368)
      refine Wk.callI X368 hx hZ1 rfl ho1 (w 37 _ rfl) (w 38 _ rfl) (w 39 _ rfl) (by decide) (as' := [(.ref a128)]) (StrChars.Road.backV (W := 1) hZ1 hws_words (kI := 4) (w 2 _ rfl) (cs := ([cz0, cz1, cz2, cz3, cz4, cz5, cz6, cz7, cz8, cz9, cz10, cz11] : List Int32)) (bs := (([cz0, cz1, cz2, cz3, cz4, cz5, cz6, cz7, cz8, cz9, cz10, cz11] : List Int32).map (fun c => c.toInt8.toInt32))) (n := 12) (Nat.le_trans KK237.1 (Nat.le_of_eq g368)) KK374.1 A368 f370 f371 f373 (SG1.ext O369.2) nG1 rfl rfl (by decide) (by decide) (latCons Ltcz0 (latCons Ltcz1 (latCons Ltcz2 (latCons Ltcz3 (latCons Ltcz4 (latCons Ltcz5 (latCons Ltcz6 (latCons Ltcz7 (latCons Ltcz8 (latCons Ltcz9 (latCons Ltcz10 (latCons Ltcz11 latNil)))))))))))) rfl (by decide) (by decide)) e368 (by rw [hml]; rfl) (rest := [(.ref a368)]) (lenOf pd21 rfl) rfl (Nat.le_of_eq rfl) (hb hby at_472) rfl (by decide) (by decide) ?_
      intro T375 h375 v375 L375 X375 e375 hQ375
      obtain ⟨rfl, Nq375, K375, E375s, C375s, t375, kb375, z375a, z375b, z375c, V375s, B375s⟩ := hQ375
      have N375 := Fk.app N235 (Fk.of_fr (ws := []) Nq375) (Nat.le_refl _) all0
      have O376 : Old Z Z.heap.size h375 := O369.keep K375 (allS (Nat.le_trans (Nat.le_trans (Nat.le_trans (Nat.le_of_eq O0.1.symm) O0.2.1) KK237.1) (Nat.le_of_eq g368)) all0)
      have B375t : Arv Z h375 t375 kb375 .byte (12 : Int32) [(.int cz0.toInt8.toInt32), (.int cz1.toInt8.toInt32), (.int cz2.toInt8.toInt32), (.int cz3.toInt8.toInt32), (.int cz4.toInt8.toInt32), (.int cz5.toInt8.toInt32), (.int cz6.toInt8.toInt32), (.int cz7.toInt8.toInt32), (.int cz8.toInt8.toInt32), (.int cz9.toInt8.toInt32), (.int cz10.toInt8.toInt32), (.int cz11.toInt8.toInt32)] (.int (0 : Int32)) := B375s
      show Wp p e below _ _ T375 (mkF m 475 #[.val (.int p0), .val (.int p1), .val (.int p2), .val (.int p3), .val (.ref a1), .val (.int (1 : Int32)), .val (.int i4), .val (.int c5), .val (.int c6), .val (.ref a7), .val (.ref a128), .val (.ref a179), .unset, .unset, .unset] [(.ref a368)])
      refine Wk.astore X375 hx (Ls' := #[.val (.int p0), .val (.int p1), .val (.int p2), .val (.int p3), .val (.ref a1), .val (.int (1 : Int32)), .val (.int i4), .val (.int c5), .val (.int c6), .val (.ref a7), .val (.ref a128), .val (.ref a179), .val (.ref a368), .unset, .unset]) (hb hby at_475) rfl rfl rfl ?_
      refine Wk.goto X375 hx (hb hby at_477) (by decide) (q := 503) rfl ?_
      refine Wk.aload X375 hx (hb hby at_503) rfl rfl rfl ?_
      have KK377 : Keep h235 h375 [] := (KK372.trans K375 (allS (Or.inr (Nat.le_of_eq g368)) all0))
      have f378 := (f238.keep KK377 nin0)
      have f379 : Exa Z h375 va "[Lcom/example/accumulus/accumulus/terms/FixedOption;" := (f239.keep KK377)
      have f380 : Fld Z h375 kf "com/example/accumulus/accumulus/terms/FixedOption" "label" "Ljava/lang/String;" (.ref lb_) := (f240.keep KK377 nin0)
      have f381 : Exa Z h375 lb_ "java/lang/String" := (f241.keep KK377)
      have f382 : Fld Z h375 lb_ "java/lang/String" "coder" "B" (.int (0 : Int32)) := (f242.keep KK377 nin0)
      have f383 : Fld Z h375 lb_ "java/lang/String" "value" "[B" (.ref lt) := (f243.keep KK377 nin0)
      have f384 := (f244.keep KK377 nin0)
      refine Wk.callS X375 hx hZ1 ho1 (w 57 _ rfl) (w 58 _ rfl) (w 59 _ rfl) (w 60 _ rfl) (by decide) (as' := [(.ref a368)]) (backOf (W := 0) (rm_wl12 l Z a0 hw [] va kv kf lb_ lt lk G1 a368 t375 kb375 _ h375 O376 SG1 nG1 sV f378 f379 f380 f381 f382 f383 f384 E375s C375s V375s B375t (Nat.ne_of_lt (Nat.lt_of_lt_of_le f241.lt (Nat.le_of_eq g368)))) hZ1 (w 60 _ rfl) (w 59 _ rfl) (by decide) (by decide)) e375 (by rw [hml]; rfl) (rest := []) (lenOf pd22 rfl) rfl (Nat.le_of_eq rfl) (hb hby at_505) rfl (by decide) (by decide) ?_
      intro T385 h385 v385 L385 X385 e385 hQ385
      obtain ⟨rfl, Nq385, K385⟩ := hQ385
      have KK386 : Keep h0 h375 [] := (KK374.trans K375 (allS (Or.inr (Nat.le_trans KK237.1 (Nat.le_of_eq g368))) all0))
      have N385 := Fk.app N375 Nq385 KK386.1 all0
      have O387 : Old Z Z.heap.size h385 := O376.keep K385 all0
      show Wp p e below _ _ T385 (mkF m 508 #[.val (.int p0), .val (.int p1), .val (.int p2), .val (.int p3), .val (.ref a1), .val (.int (1 : Int32)), .val (.int i4), .val (.int c5), .val (.int c6), .val (.ref a7), .val (.ref a128), .val (.ref a179), .val (.ref a368), .unset, .unset] [.null])
      refine Wk.astore X385 hx (Ls' := #[.val (.int p0), .val (.int p1), .val (.int p2), .val (.int p3), .val (.ref a1), .val (.int (1 : Int32)), .val (.int i4), .val (.int c5), .val (.int c6), .val (.ref a7), .val (.ref a128), .val (.ref a179), .val (.ref a368), .val .null, .unset]) (hb hby at_508) rfl rfl rfl ?_
      refine Wk.iload X385 hx (hb hby at_510) rfl rfl ?_
      refine Wk.ifYes X385 hx (hb hby at_512) (by decide) (q := 538) rfl ((if0 _ _).trans (feq (by decide : ¬ ((1 : Int32) = (0 : Int32)))).2) ?_
      refine Wk.iconst X385 hx (v := (0 : Int32)) (hb hby at_538) rfl rfl ?_
      refine Wk.istore X385 hx (Ls' := #[.val (.int p0), .val (.int p1), .val (.int p2), .val (.int p3), .val (.ref a1), .val (.int (1 : Int32)), .val (.int i4), .val (.int c5), .val (.int c6), .val (.ref a7), .val (.ref a128), .val (.ref a179), .val (.ref a368), .val .null, .val (.int (0 : Int32))]) (hb hby at_539) rfl rfl ?_
      refine Wk.iload X385 hx (hb hby at_541) rfl rfl ?_
      refine Wk.ifYes X385 hx (hb hby at_543) (by decide) (q := 560) rfl ((if0 _ _).trans (teq (by decide : (0 : Int32) = (0 : Int32))).1) ?_
      refine Wk.aload X385 hx (hb hby at_560) rfl rfl rfl ?_
      refine Wk.ifnonnullNo X385 hx (hb hby at_562) rfl ?_
      refine Wk.iconst X385 hx (v := (1 : Int32)) (hb hby at_565) rfl rfl ?_
      refine Wk.goto X385 hx (hb hby at_566) (by decide) (q := 570) rfl ?_
      have KK388 : Keep h0 h385 [] := (KK386.trans K385 all0)
      have KK389 : Keep h1 h385 [] := (((KK247.ext E368).trans K375 (allS (Or.inr (Nat.le_trans KK247.1 (Nat.le_of_eq g368))) all0)).trans K385 all0)
      exact Wk.retZW X385 hx hS1 (Nat.le_trans (Nat.le_refl _) KK389.1) hlk hr (by simp) (hb hby at_570) (by decide) (by decide) (Qc := Q_rm_law Z p0 p1 p2 p3 G1 G3 va kv kf lb_ lt lk h0) e385 (fun vm' hw' => ⟨rfl, N385, KK388⟩)
    · skip
      by_cases hN390 : NL14 cz0 cz1 cz2 cz3 cz4 cz5 cz6 cz7 cz8 cz9 cz10 cz11 cz12 c6
      · skip
        refine Wk.iload X235 hx (hb hby at_441) rfl rfl ?_
        refine Wk.ifYes X235 hx (hb hby at_443) (by decide) (q := 460) rfl ((if0 _ _).trans (feq (by decide : ¬ ((2 : Int32) = (0 : Int32)))).2) ?_
        refine Wk.iload X235 hx (hb hby at_460) rfl rfl ?_
        refine Wk.iconst X235 hx (v := (1 : Int32)) (hb hby at_462) rfl rfl ?_
        refine Wk.icmpYes X235 hx (hb hby at_463) (by decide) (q := 480) rfl (feq (by decide : ¬ ((2 : Int32) = (1 : Int32)))).2 ?_
        refine Wk.iload X235 hx (hb hby at_480) rfl rfl ?_
        refine Wk.iconst X235 hx (v := (2 : Int32)) (hb hby at_482) rfl rfl ?_
        refine Wk.icmpNo X235 hx (hb hby at_483) rfl (teq (by decide : (2 : Int32) = (2 : Int32))).2 ?_
        refine Wk.new X235 hx hZ1 ho1 (w 36 _ rfl) (w 2 _ rfl) (w 1 _ rfl) e235 (hb hby at_486) rfl (by decide) (by decide) ?_
        intro T391 h391 a391 g391 X391 e391 E391 A391 D391
        have O392 : Old Z Z.heap.size h391 := O236.ext E391
        have f393 : Fld Z h391 a391 "java/lang/String" "value" "[B" .null := D391 (Or.inr (w 4 _ rfl)) (ty := (.array .byte)) (by decide)
        have f394 : Fld Z h391 a391 "java/lang/String" "coder" "B" (.int (0 : Int32)) := D391 (Or.inr (w 5 _ rfl)) (ty := .byte) (by decide)
        refine Wk.dup X391 hx (hb hby at_489) rfl rfl ?_
        refine Wk.aload X391 hx (hb hby at_490) rfl rfl rfl ?_
        have KK395 : Keep h235 h391 [] := ((Keep.refl h235 []).ext E391)
        have f396 := (V235.keep KK395 nin0)
        refine Wk.callI X391 hx hZ1 rfl ho1 (w 37 _ rfl) (w 38 _ rfl) (w 39 _ rfl) (by decide) (as' := [(.ref a179)]) (backOf (W := 1) (rm_ic_14 l Z a0 hw [] a391 a179 kA179 G1 cz0 cz1 cz2 cz3 cz4 cz5 cz6 cz7 cz8 cz9 cz10 cz11 cz12 c6 h391 O392 sH sL sA SG1 nG1 A391 f393 f394 (Nat.le_trans (Nat.le_trans (Nat.le_trans (Nat.le_of_eq O0.1.symm) O0.2.1) KK237.1) (Nat.le_of_eq g391)) f396 hccz0 hccz1 hccz2 hccz3 hccz4 hccz5 hccz6 hccz7 hccz8 hccz9 hccz10 hccz11 hccz12 Lc6 hN390) hZ1 (w 39 _ rfl) (w 1 _ rfl) (by decide) (by decide)) e391 (by rw [hml]; rfl) (rest := [(.ref a391)]) (lenOf pd21 rfl) rfl (Nat.le_of_eq rfl) (hb hby at_492) rfl (by decide) (by decide) ?_
        intro T397 h397 v397 L397 X397 e397 hQ397
        obtain ⟨rfl, Nq397, K397, q397_0, q397_1⟩ := hQ397
        have KK398 : Keep h0 h391 [] := (KK237.ext E391)
        have N397 := Fk.app N235 Nq397 KK398.1 (allS (Or.inr (Nat.le_trans KK237.1 (Nat.le_of_eq g391))) all0)
        have O399 : Old Z Z.heap.size h397 := O392.keep K397 (allS (Nat.le_trans (Nat.le_trans (Nat.le_trans (Nat.le_of_eq O0.1.symm) O0.2.1) KK237.1) (Nat.le_of_eq g391)) all0)
        show Wp p e below _ _ T397 (mkF m 495 #[.val (.int p0), .val (.int p1), .val (.int p2), .val (.int p3), .val (.ref a1), .val (.int (2 : Int32)), .val (.int i4), .val (.int c5), .val (.int c6), .val (.ref a7), .val (.ref a128), .val (.ref a179), .unset, .unset, .unset] [(.ref a391)])
        refine Wk.astore X397 hx (Ls' := #[.val (.int p0), .val (.int p1), .val (.int p2), .val (.int p3), .val (.ref a1), .val (.int (2 : Int32)), .val (.int i4), .val (.int c5), .val (.int c6), .val (.ref a7), .val (.ref a128), .val (.ref a179), .val (.ref a391), .unset, .unset]) (hb hby at_495) rfl rfl rfl ?_
        refine Wk.goto X397 hx (hb hby at_497) (by decide) (q := 503) rfl ?_
        refine Wk.aload X397 hx (hb hby at_503) rfl rfl rfl ?_
        have KK400 : Keep h235 h397 [] := (KK395.trans K397 (allS (Or.inr (Nat.le_of_eq g391)) all0))
        have f401 := (f238.keep KK400 nin0)
        have f402 : Exa Z h397 va "[Lcom/example/accumulus/accumulus/terms/FixedOption;" := (f239.keep KK400)
        have f403 : Fld Z h397 kf "com/example/accumulus/accumulus/terms/FixedOption" "label" "Ljava/lang/String;" (.ref lb_) := (f240.keep KK400 nin0)
        have f404 : Exa Z h397 lb_ "java/lang/String" := (f241.keep KK400)
        have f405 : Fld Z h397 lb_ "java/lang/String" "coder" "B" (.int (0 : Int32)) := (f242.keep KK400 nin0)
        have f406 : Fld Z h397 lb_ "java/lang/String" "value" "[B" (.ref lt) := (f243.keep KK400 nin0)
        have f407 := (f244.keep KK400 nin0)
        refine Wk.callS X397 hx hZ1 ho1 (w 57 _ rfl) (w 58 _ rfl) (w 59 _ rfl) (w 60 _ rfl) (by decide) (as' := [(.ref a391)]) (backOf (W := 0) (rm_wlU l Z a0 hw [] va kv kf lb_ lt lk G1 a391 h397 O399 SG1 nG1 sV f401 f402 f403 f404 f405 f406 f407 q397_0 q397_1 (Nat.ne_of_lt (Nat.lt_of_lt_of_le f241.lt (Nat.le_of_eq g391)))) hZ1 (w 60 _ rfl) (w 59 _ rfl) (by decide) (by decide)) e397 (by rw [hml]; rfl) (rest := []) (lenOf pd22 rfl) rfl (Nat.le_of_eq rfl) (hb hby at_505) rfl (by decide) (by decide) ?_
        intro T408 h408 v408 L408 X408 e408 hQ408
        obtain ⟨rfl, Nq408, K408⟩ := hQ408
        have KK409 : Keep h0 h397 [] := (KK398.trans K397 (allS (Or.inr (Nat.le_trans KK237.1 (Nat.le_of_eq g391))) all0))
        have N408 := Fk.app N397 Nq408 KK409.1 all0
        have O410 : Old Z Z.heap.size h408 := O399.keep K408 all0
        show Wp p e below _ _ T408 (mkF m 508 #[.val (.int p0), .val (.int p1), .val (.int p2), .val (.int p3), .val (.ref a1), .val (.int (2 : Int32)), .val (.int i4), .val (.int c5), .val (.int c6), .val (.ref a7), .val (.ref a128), .val (.ref a179), .val (.ref a391), .unset, .unset] [.null])
        refine Wk.astore X408 hx (Ls' := #[.val (.int p0), .val (.int p1), .val (.int p2), .val (.int p3), .val (.ref a1), .val (.int (2 : Int32)), .val (.int i4), .val (.int c5), .val (.int c6), .val (.ref a7), .val (.ref a128), .val (.ref a179), .val (.ref a391), .val .null, .unset]) (hb hby at_508) rfl rfl rfl ?_
        refine Wk.iload X408 hx (hb hby at_510) rfl rfl ?_
        refine Wk.ifYes X408 hx (hb hby at_512) (by decide) (q := 538) rfl ((if0 _ _).trans (feq (by decide : ¬ ((2 : Int32) = (0 : Int32)))).2) ?_
        refine Wk.iconst X408 hx (v := (0 : Int32)) (hb hby at_538) rfl rfl ?_
        refine Wk.istore X408 hx (Ls' := #[.val (.int p0), .val (.int p1), .val (.int p2), .val (.int p3), .val (.ref a1), .val (.int (2 : Int32)), .val (.int i4), .val (.int c5), .val (.int c6), .val (.ref a7), .val (.ref a128), .val (.ref a179), .val (.ref a391), .val .null, .val (.int (0 : Int32))]) (hb hby at_539) rfl rfl ?_
        refine Wk.iload X408 hx (hb hby at_541) rfl rfl ?_
        refine Wk.ifYes X408 hx (hb hby at_543) (by decide) (q := 560) rfl ((if0 _ _).trans (teq (by decide : (0 : Int32) = (0 : Int32))).1) ?_
        refine Wk.aload X408 hx (hb hby at_560) rfl rfl rfl ?_
        refine Wk.ifnonnullNo X408 hx (hb hby at_562) rfl ?_
        refine Wk.iconst X408 hx (v := (1 : Int32)) (hb hby at_565) rfl rfl ?_
        refine Wk.goto X408 hx (hb hby at_566) (by decide) (q := 570) rfl ?_
        have KK411 : Keep h0 h408 [] := (KK409.trans K408 all0)
        have KK412 : Keep h1 h408 [] := (((KK247.ext E391).trans K397 (allS (Or.inr (Nat.le_trans KK247.1 (Nat.le_of_eq g391))) all0)).trans K408 all0)
        exact Wk.retZW X408 hx hS1 (Nat.le_trans (Nat.le_refl _) KK412.1) hlk hr (by simp) (hb hby at_570) (by decide) (by decide) (Qc := Q_rm_law Z p0 p1 p2 p3 G1 G3 va kv kf lb_ lt lk h0) e408 (fun vm' hw' => ⟨rfl, N408, KK411⟩)
      have Ltcz0 : Lat cz0 := ⟨hccz0.1, fun q_ => hN390 (Or.inl q_)⟩
      have Ltcz1 : Lat cz1 := ⟨hccz1.1, fun q_ => hN390 (Or.inr (Or.inl q_))⟩
      have Ltcz2 : Lat cz2 := ⟨hccz2.1, fun q_ => hN390 (Or.inr (Or.inr (Or.inl q_)))⟩
      have Ltcz3 : Lat cz3 := ⟨hccz3.1, fun q_ => hN390 (Or.inr (Or.inr (Or.inr (Or.inl q_))))⟩
      have Ltcz4 : Lat cz4 := ⟨hccz4.1, fun q_ => hN390 (Or.inr (Or.inr (Or.inr (Or.inr (Or.inl q_)))))⟩
      have Ltcz5 : Lat cz5 := ⟨hccz5.1, fun q_ => hN390 (Or.inr (Or.inr (Or.inr (Or.inr (Or.inr (Or.inl q_))))))⟩
      have Ltcz6 : Lat cz6 := ⟨hccz6.1, fun q_ => hN390 (Or.inr (Or.inr (Or.inr (Or.inr (Or.inr (Or.inr (Or.inl q_)))))))⟩
      have Ltcz7 : Lat cz7 := ⟨hccz7.1, fun q_ => hN390 (Or.inr (Or.inr (Or.inr (Or.inr (Or.inr (Or.inr (Or.inr (Or.inl q_))))))))⟩
      have Ltcz8 : Lat cz8 := ⟨hccz8.1, fun q_ => hN390 (Or.inr (Or.inr (Or.inr (Or.inr (Or.inr (Or.inr (Or.inr (Or.inr (Or.inl q_)))))))))⟩
      have Ltcz9 : Lat cz9 := ⟨hccz9.1, fun q_ => hN390 (Or.inr (Or.inr (Or.inr (Or.inr (Or.inr (Or.inr (Or.inr (Or.inr (Or.inr (Or.inl q_))))))))))⟩
      have Ltcz10 : Lat cz10 := ⟨hccz10.1, fun q_ => hN390 (Or.inr (Or.inr (Or.inr (Or.inr (Or.inr (Or.inr (Or.inr (Or.inr (Or.inr (Or.inr (Or.inl q_)))))))))))⟩
      have Ltcz11 : Lat cz11 := ⟨hccz11.1, fun q_ => hN390 (Or.inr (Or.inr (Or.inr (Or.inr (Or.inr (Or.inr (Or.inr (Or.inr (Or.inr (Or.inr (Or.inr (Or.inl q_))))))))))))⟩
      have Ltcz12 : Lat cz12 := ⟨hccz12.1, fun q_ => hN390 (Or.inr (Or.inr (Or.inr (Or.inr (Or.inr (Or.inr (Or.inr (Or.inr (Or.inr (Or.inr (Or.inr (Or.inr (Or.inl q_)))))))))))))⟩
      have Ltc6 : Lat c6 := ⟨Lc6.1, fun q_ => hN390 (Or.inr (Or.inr (Or.inr (Or.inr (Or.inr (Or.inr (Or.inr (Or.inr (Or.inr (Or.inr (Or.inr (Or.inr (Or.inr (q_))))))))))))))⟩
      refine Wk.iload X235 hx (hb hby at_441) rfl rfl ?_
      refine Wk.ifYes X235 hx (hb hby at_443) (by decide) (q := 460) rfl ((if0 _ _).trans (feq (by decide : ¬ ((2 : Int32) = (0 : Int32)))).2) ?_
      refine Wk.iload X235 hx (hb hby at_460) rfl rfl ?_
      refine Wk.iconst X235 hx (v := (1 : Int32)) (hb hby at_462) rfl rfl ?_
      refine Wk.icmpYes X235 hx (hb hby at_463) (by decide) (q := 480) rfl (feq (by decide : ¬ ((2 : Int32) = (1 : Int32)))).2 ?_
      refine Wk.iload X235 hx (hb hby at_480) rfl rfl ?_
      refine Wk.iconst X235 hx (v := (2 : Int32)) (hb hby at_482) rfl rfl ?_
      refine Wk.icmpNo X235 hx (hb hby at_483) rfl (teq (by decide : (2 : Int32) = (2 : Int32))).2 ?_
      refine Wk.new X235 hx hZ1 ho1 (w 36 _ rfl) (w 2 _ rfl) (w 1 _ rfl) e235 (hb hby at_486) rfl (by decide) (by decide) ?_
      intro T413 h413 a413 g413 X413 e413 E413 A413 D413
      have O414 : Old Z Z.heap.size h413 := O236.ext E413
      have f415 : Fld Z h413 a413 "java/lang/String" "value" "[B" .null := D413 (Or.inr (w 4 _ rfl)) (ty := (.array .byte)) (by decide)
      have f416 : Fld Z h413 a413 "java/lang/String" "coder" "B" (.int (0 : Int32)) := D413 (Or.inr (w 5 _ rfl)) (ty := .byte) (by decide)
      refine Wk.dup X413 hx (hb hby at_489) rfl rfl ?_
      refine Wk.aload X413 hx (hb hby at_490) rfl rfl rfl ?_
      have hws_words : ∀ d ∈ StrChars.Road.words, d.before a0 Z = true := fun d hd => hw d ((by decide +kernel : ∀ d ∈ StrChars.Road.words, d ∈ tables_1) d hd)
      have KK417 : Keep h235 h413 [] := ((Keep.refl h235 []).ext E413)
      have f418 := (V235.keep KK417 nin0)
      have KK419 : Keep h0 h413 [] := (KK237.ext E413)
      refine Wk.callI X413 hx hZ1 rfl ho1 (w 37 _ rfl) (w 38 _ rfl) (w 39 _ rfl) (by decide) (as' := [(.ref a179)]) (StrChars.Road.backV (W := 1) hZ1 hws_words (kI := 4) (w 2 _ rfl) (cs := ([cz0, cz1, cz2, cz3, cz4, cz5, cz6, cz7, cz8, cz9, cz10, cz11, cz12, c6] : List Int32)) (bs := (([cz0, cz1, cz2, cz3, cz4, cz5, cz6, cz7, cz8, cz9, cz10, cz11, cz12, c6] : List Int32).map (fun c => c.toInt8.toInt32))) (n := 14) (Nat.le_trans KK237.1 (Nat.le_of_eq g413)) KK419.1 A413 f415 f416 f418 (SG1.ext O414.2) nG1 rfl rfl (by decide) (by decide) (latCons Ltcz0 (latCons Ltcz1 (latCons Ltcz2 (latCons Ltcz3 (latCons Ltcz4 (latCons Ltcz5 (latCons Ltcz6 (latCons Ltcz7 (latCons Ltcz8 (latCons Ltcz9 (latCons Ltcz10 (latCons Ltcz11 (latCons Ltcz12 (latCons Ltc6 latNil)))))))))))))) rfl (by decide) (by decide)) e413 (by rw [hml]; rfl) (rest := [(.ref a413)]) (lenOf pd21 rfl) rfl (Nat.le_of_eq rfl) (hb hby at_492) rfl (by decide) (by decide) ?_
      intro T420 h420 v420 L420 X420 e420 hQ420
      obtain ⟨rfl, Nq420, K420, E420s, C420s, t420, kb420, z420a, z420b, z420c, V420s, B420s⟩ := hQ420
      have N420 := Fk.app N235 (Fk.of_fr (ws := []) Nq420) (Nat.le_refl _) all0
      have O421 : Old Z Z.heap.size h420 := O414.keep K420 (allS (Nat.le_trans (Nat.le_trans (Nat.le_trans (Nat.le_of_eq O0.1.symm) O0.2.1) KK237.1) (Nat.le_of_eq g413)) all0)
      have B420t : Arv Z h420 t420 kb420 .byte (14 : Int32) [(.int cz0.toInt8.toInt32), (.int cz1.toInt8.toInt32), (.int cz2.toInt8.toInt32), (.int cz3.toInt8.toInt32), (.int cz4.toInt8.toInt32), (.int cz5.toInt8.toInt32), (.int cz6.toInt8.toInt32), (.int cz7.toInt8.toInt32), (.int cz8.toInt8.toInt32), (.int cz9.toInt8.toInt32), (.int cz10.toInt8.toInt32), (.int cz11.toInt8.toInt32), (.int cz12.toInt8.toInt32), (.int c6.toInt8.toInt32)] (.int (0 : Int32)) := B420s
      show Wp p e below _ _ T420 (mkF m 495 #[.val (.int p0), .val (.int p1), .val (.int p2), .val (.int p3), .val (.ref a1), .val (.int (2 : Int32)), .val (.int i4), .val (.int c5), .val (.int c6), .val (.ref a7), .val (.ref a128), .val (.ref a179), .unset, .unset, .unset] [(.ref a413)])
      refine Wk.astore X420 hx (Ls' := #[.val (.int p0), .val (.int p1), .val (.int p2), .val (.int p3), .val (.ref a1), .val (.int (2 : Int32)), .val (.int i4), .val (.int c5), .val (.int c6), .val (.ref a7), .val (.ref a128), .val (.ref a179), .val (.ref a413), .unset, .unset]) (hb hby at_495) rfl rfl rfl ?_
      refine Wk.goto X420 hx (hb hby at_497) (by decide) (q := 503) rfl ?_
      refine Wk.aload X420 hx (hb hby at_503) rfl rfl rfl ?_
      have KK422 : Keep h235 h420 [] := (KK417.trans K420 (allS (Or.inr (Nat.le_of_eq g413)) all0))
      have f423 := (f238.keep KK422 nin0)
      have f424 : Exa Z h420 va "[Lcom/example/accumulus/accumulus/terms/FixedOption;" := (f239.keep KK422)
      have f425 : Fld Z h420 kf "com/example/accumulus/accumulus/terms/FixedOption" "label" "Ljava/lang/String;" (.ref lb_) := (f240.keep KK422 nin0)
      have f426 : Exa Z h420 lb_ "java/lang/String" := (f241.keep KK422)
      have f427 : Fld Z h420 lb_ "java/lang/String" "coder" "B" (.int (0 : Int32)) := (f242.keep KK422 nin0)
      have f428 : Fld Z h420 lb_ "java/lang/String" "value" "[B" (.ref lt) := (f243.keep KK422 nin0)
      have f429 := (f244.keep KK422 nin0)
      refine Wk.callS X420 hx hZ1 ho1 (w 57 _ rfl) (w 58 _ rfl) (w 59 _ rfl) (w 60 _ rfl) (by decide) (as' := [(.ref a413)]) (backOf (W := 0) (rm_wl14 l Z a0 hw [] va kv kf lb_ lt lk G1 a413 t420 kb420 _ h420 O421 SG1 nG1 sV f423 f424 f425 f426 f427 f428 f429 E420s C420s V420s B420t (Nat.ne_of_lt (Nat.lt_of_lt_of_le f241.lt (Nat.le_of_eq g413)))) hZ1 (w 60 _ rfl) (w 59 _ rfl) (by decide) (by decide)) e420 (by rw [hml]; rfl) (rest := []) (lenOf pd22 rfl) rfl (Nat.le_of_eq rfl) (hb hby at_505) rfl (by decide) (by decide) ?_
      intro T430 h430 v430 L430 X430 e430 hQ430
      obtain ⟨rfl, Nq430, K430⟩ := hQ430
      have KK431 : Keep h0 h420 [] := (KK419.trans K420 (allS (Or.inr (Nat.le_trans KK237.1 (Nat.le_of_eq g413))) all0))
      have N430 := Fk.app N420 Nq430 KK431.1 all0
      have O432 : Old Z Z.heap.size h430 := O421.keep K430 all0
      show Wp p e below _ _ T430 (mkF m 508 #[.val (.int p0), .val (.int p1), .val (.int p2), .val (.int p3), .val (.ref a1), .val (.int (2 : Int32)), .val (.int i4), .val (.int c5), .val (.int c6), .val (.ref a7), .val (.ref a128), .val (.ref a179), .val (.ref a413), .unset, .unset] [.null])
      refine Wk.astore X430 hx (Ls' := #[.val (.int p0), .val (.int p1), .val (.int p2), .val (.int p3), .val (.ref a1), .val (.int (2 : Int32)), .val (.int i4), .val (.int c5), .val (.int c6), .val (.ref a7), .val (.ref a128), .val (.ref a179), .val (.ref a413), .val .null, .unset]) (hb hby at_508) rfl rfl rfl ?_
      refine Wk.iload X430 hx (hb hby at_510) rfl rfl ?_
      refine Wk.ifYes X430 hx (hb hby at_512) (by decide) (q := 538) rfl ((if0 _ _).trans (feq (by decide : ¬ ((2 : Int32) = (0 : Int32)))).2) ?_
      refine Wk.iconst X430 hx (v := (0 : Int32)) (hb hby at_538) rfl rfl ?_
      refine Wk.istore X430 hx (Ls' := #[.val (.int p0), .val (.int p1), .val (.int p2), .val (.int p3), .val (.ref a1), .val (.int (2 : Int32)), .val (.int i4), .val (.int c5), .val (.int c6), .val (.ref a7), .val (.ref a128), .val (.ref a179), .val (.ref a413), .val .null, .val (.int (0 : Int32))]) (hb hby at_539) rfl rfl ?_
      refine Wk.iload X430 hx (hb hby at_541) rfl rfl ?_
      refine Wk.ifYes X430 hx (hb hby at_543) (by decide) (q := 560) rfl ((if0 _ _).trans (teq (by decide : (0 : Int32) = (0 : Int32))).1) ?_
      refine Wk.aload X430 hx (hb hby at_560) rfl rfl rfl ?_
      refine Wk.ifnonnullNo X430 hx (hb hby at_562) rfl ?_
      refine Wk.iconst X430 hx (v := (1 : Int32)) (hb hby at_565) rfl rfl ?_
      refine Wk.goto X430 hx (hb hby at_566) (by decide) (q := 570) rfl ?_
      have KK433 : Keep h0 h430 [] := (KK431.trans K430 all0)
      have KK434 : Keep h1 h430 [] := (((KK247.ext E413).trans K420 (allS (Or.inr (Nat.le_trans KK247.1 (Nat.le_of_eq g413))) all0)).trans K430 all0)
      exact Wk.retZW X430 hx hS1 (Nat.le_trans (Nat.le_refl _) KK434.1) hlk hr (by simp) (hb hby at_570) (by decide) (by decide) (Qc := Q_rm_law Z p0 p1 p2 p3 G1 G3 va kv kf lb_ lt lk h0) e430 (fun vm' hw' => ⟨rfl, N430, KK433⟩)
    refine Wk.iload X235 hx (hb hby at_441) rfl rfl ?_
    refine Wk.ifYes X235 hx (hb hby at_443) (by decide) (q := 460) rfl ((if0 _ _).trans (feq (by decide : ¬ ((3 : Int32) = (0 : Int32)))).2) ?_
    refine Wk.iload X235 hx (hb hby at_460) rfl rfl ?_
    refine Wk.iconst X235 hx (v := (1 : Int32)) (hb hby at_462) rfl rfl ?_
    refine Wk.icmpYes X235 hx (hb hby at_463) (by decide) (q := 480) rfl (feq (by decide : ¬ ((3 : Int32) = (1 : Int32)))).2 ?_
    refine Wk.iload X235 hx (hb hby at_480) rfl rfl ?_
    refine Wk.iconst X235 hx (v := (2 : Int32)) (hb hby at_482) rfl rfl ?_
    refine Wk.icmpYes X235 hx (hb hby at_483) (by decide) (q := 500) rfl (feq (by decide : ¬ ((3 : Int32) = (2 : Int32)))).2 ?_
    refine Wk.aconstNull X235 hx (hb hby at_500) rfl ?_
    refine Wk.astore X235 hx (Ls' := #[.val (.int p0), .val (.int p1), .val (.int p2), .val (.int p3), .val (.ref a1), .val (.int (3 : Int32)), .val (.int i4), .val (.int c5), .val (.int c6), .val (.ref a7), .val (.ref a128), .val (.ref a179), .val .null, .unset, .unset]) (hb hby at_501) rfl rfl rfl ?_
    refine Wk.aload X235 hx (hb hby at_503) rfl rfl rfl ?_
    refine Wk.callS X235 hx hZ1 ho1 (w 57 _ rfl) (w 58 _ rfl) (w 59 _ rfl) (w 60 _ rfl) (by decide) (as' := [.null]) (backOf (W := 0) (rm_wlN l Z a0 hw [] va kv kf lb_ lt lk h235 O236 sV f238 f239 f240 f241 f242 f243 f244) hZ1 (w 60 _ rfl) (w 59 _ rfl) (by decide) (by decide)) e235 (by rw [hml]; rfl) (rest := []) (lenOf pd22 rfl) rfl (Nat.le_of_eq rfl) (hb hby at_505) rfl (by decide) (by decide) ?_
    intro T435 h435 v435 L435 X435 e435 hQ435
    obtain ⟨rfl, Nq435, K435⟩ := hQ435
    have N435 := Fk.app N235 Nq435 KK237.1 all0
    have O436 : Old Z Z.heap.size h435 := O236.keep K435 all0
    show Wp p e below _ _ T435 (mkF m 508 #[.val (.int p0), .val (.int p1), .val (.int p2), .val (.int p3), .val (.ref a1), .val (.int (3 : Int32)), .val (.int i4), .val (.int c5), .val (.int c6), .val (.ref a7), .val (.ref a128), .val (.ref a179), .val .null, .unset, .unset] [.null])
    refine Wk.astore X435 hx (Ls' := #[.val (.int p0), .val (.int p1), .val (.int p2), .val (.int p3), .val (.ref a1), .val (.int (3 : Int32)), .val (.int i4), .val (.int c5), .val (.int c6), .val (.ref a7), .val (.ref a128), .val (.ref a179), .val .null, .val .null, .unset]) (hb hby at_508) rfl rfl rfl ?_
    refine Wk.iload X435 hx (hb hby at_510) rfl rfl ?_
    refine Wk.ifYes X435 hx (hb hby at_512) (by decide) (q := 538) rfl ((if0 _ _).trans (feq (by decide : ¬ ((3 : Int32) = (0 : Int32)))).2) ?_
    refine Wk.iconst X435 hx (v := (0 : Int32)) (hb hby at_538) rfl rfl ?_
    refine Wk.istore X435 hx (Ls' := #[.val (.int p0), .val (.int p1), .val (.int p2), .val (.int p3), .val (.ref a1), .val (.int (3 : Int32)), .val (.int i4), .val (.int c5), .val (.int c6), .val (.ref a7), .val (.ref a128), .val (.ref a179), .val .null, .val .null, .val (.int (0 : Int32))]) (hb hby at_539) rfl rfl ?_
    refine Wk.iload X435 hx (hb hby at_541) rfl rfl ?_
    refine Wk.ifYes X435 hx (hb hby at_543) (by decide) (q := 560) rfl ((if0 _ _).trans (teq (by decide : (0 : Int32) = (0 : Int32))).1) ?_
    refine Wk.aload X435 hx (hb hby at_560) rfl rfl rfl ?_
    refine Wk.ifnonnullNo X435 hx (hb hby at_562) rfl ?_
    refine Wk.iconst X435 hx (v := (1 : Int32)) (hb hby at_565) rfl rfl ?_
    refine Wk.goto X435 hx (hb hby at_566) (by decide) (q := 570) rfl ?_
    have KK437 : Keep h0 h435 [] := (KK237.trans K435 all0)
    have KK438 : Keep h1 h435 [] := (KK247.trans K435 all0)
    exact Wk.retZW X435 hx hS1 (Nat.le_trans (Nat.le_refl _) KK438.1) hlk hr (by simp) (hb hby at_570) (by decide) (by decide) (Qc := Q_rm_law Z p0 p1 p2 p3 G1 G3 va kv kf lb_ lt lk h0) e435 (fun vm' hw' => ⟨rfl, N435, KK437⟩)
  rcases own_m14 hi4 (mask_rng _ 2147483647 (by decide)).1 with rfl | rfl | rfl | rfl | rfl | rfl | rfl | rfl | rfl | rfl | rfl | rfl | rfl | rfl
  · skip
    refine Wk.iload X125 hx (hb hby at_182) rfl rfl ?_
    refine Wk.bipush X125 hx (v := (13 : Int32)) (hb hby at_184) rfl rfl ?_
    refine Wk.icmpNo X125 hx (hb hby at_186) rfl (tlt (by decide : (0 : Int32) < (13 : Int32))).2.1 ?_
    refine Wk.aload X125 hx (hb hby at_189) rfl rfl rfl ?_
    refine Wk.iload X125 hx (hb hby at_191) rfl rfl ?_
    refine Wk.iload X125 hx (hb hby at_193) rfl rfl ?_
    refine Wk.castore X125 hx hZ1 e125 V125 (by decide) (by decide) 0 rfl (Nat.le_of_ble_eq_true rfl) (w := c5) (narC Lc5) (hb hby at_195) rfl ?_
    intro T439 h439 L439 M439 X439 e439 W439 A439
    have N439 := M439 _ _ N125 (Or.inr (Nat.le_trans KK17.1 (Nat.le_of_eq g7)))
    have O440 : Old Z Z.heap.size h439 := O126.wr W439 (Nat.le_trans (Nat.le_trans (Nat.le_trans (Nat.le_of_eq O0.1.symm) O0.2.1) KK17.1) (Nat.le_of_eq g7))
    have V439 : Arv Z h439 a7 kA7 .char (13 : Int32) [(.int c5), (.int (105 : Int32)), (.int (120 : Int32)), (.int (101 : Int32)), (.int (100 : Int32)), (.int (45 : Int32)), (.int (112 : Int32)), (.int (108 : Int32)), (.int (117 : Int32)), (.int (115 : Int32)), (.int (45 : Int32)), (.int (105 : Int32)), (.int (105 : Int32))] (.int (0 : Int32)) := A439
    have KK441 : Keep h125 h439 [a7] := ((Keep.refl h125 [a7]).wr W439 (Or.inl (List.mem_of_getElem? (i := 0) rfl)))
    exact key c5 (105 : Int32) (120 : Int32) (101 : Int32) (100 : Int32) (45 : Int32) (112 : Int32) (108 : Int32) (117 : Int32) (115 : Int32) (45 : Int32) (105 : Int32) (105 : Int32) _ _ _ Lc5 (show Chr (105 : Int32) from ⟨by decide, by decide⟩) (show Chr (120 : Int32) from ⟨by decide, by decide⟩) (show Chr (101 : Int32) from ⟨by decide, by decide⟩) (show Chr (100 : Int32) from ⟨by decide, by decide⟩) (show Chr (45 : Int32) from ⟨by decide, by decide⟩) (show Chr (112 : Int32) from ⟨by decide, by decide⟩) (show Chr (108 : Int32) from ⟨by decide, by decide⟩) (show Chr (117 : Int32) from ⟨by decide, by decide⟩) (show Chr (115 : Int32) from ⟨by decide, by decide⟩) (show Chr (45 : Int32) from ⟨by decide, by decide⟩) (show Chr (105 : Int32) from ⟨by decide, by decide⟩) (show Chr (105 : Int32) from ⟨by decide, by decide⟩) (Or.inl ⟨rfl, rfl, rfl, rfl, rfl, rfl, rfl, rfl, rfl, rfl, rfl, rfl, rfl, rfl⟩) X439 e439 N439 KK441 V439
  · skip
    refine Wk.iload X125 hx (hb hby at_182) rfl rfl ?_
    refine Wk.bipush X125 hx (v := (13 : Int32)) (hb hby at_184) rfl rfl ?_
    refine Wk.icmpNo X125 hx (hb hby at_186) rfl (tlt (by decide : (1 : Int32) < (13 : Int32))).2.1 ?_
    refine Wk.aload X125 hx (hb hby at_189) rfl rfl rfl ?_
    refine Wk.iload X125 hx (hb hby at_191) rfl rfl ?_
    refine Wk.iload X125 hx (hb hby at_193) rfl rfl ?_
    refine Wk.castore X125 hx hZ1 e125 V125 (by decide) (by decide) 1 rfl (Nat.le_of_ble_eq_true rfl) (w := c5) (narC Lc5) (hb hby at_195) rfl ?_
    intro T442 h442 L442 M442 X442 e442 W442 A442
    have N442 := M442 _ _ N125 (Or.inr (Nat.le_trans KK17.1 (Nat.le_of_eq g7)))
    have O443 : Old Z Z.heap.size h442 := O126.wr W442 (Nat.le_trans (Nat.le_trans (Nat.le_trans (Nat.le_of_eq O0.1.symm) O0.2.1) KK17.1) (Nat.le_of_eq g7))
    have V442 : Arv Z h442 a7 kA7 .char (13 : Int32) [(.int (102 : Int32)), (.int c5), (.int (120 : Int32)), (.int (101 : Int32)), (.int (100 : Int32)), (.int (45 : Int32)), (.int (112 : Int32)), (.int (108 : Int32)), (.int (117 : Int32)), (.int (115 : Int32)), (.int (45 : Int32)), (.int (105 : Int32)), (.int (105 : Int32))] (.int (0 : Int32)) := A442
    have KK444 : Keep h125 h442 [a7] := ((Keep.refl h125 [a7]).wr W442 (Or.inl (List.mem_of_getElem? (i := 0) rfl)))
    exact key (102 : Int32) c5 (120 : Int32) (101 : Int32) (100 : Int32) (45 : Int32) (112 : Int32) (108 : Int32) (117 : Int32) (115 : Int32) (45 : Int32) (105 : Int32) (105 : Int32) _ _ _ (show Chr (102 : Int32) from ⟨by decide, by decide⟩) Lc5 (show Chr (120 : Int32) from ⟨by decide, by decide⟩) (show Chr (101 : Int32) from ⟨by decide, by decide⟩) (show Chr (100 : Int32) from ⟨by decide, by decide⟩) (show Chr (45 : Int32) from ⟨by decide, by decide⟩) (show Chr (112 : Int32) from ⟨by decide, by decide⟩) (show Chr (108 : Int32) from ⟨by decide, by decide⟩) (show Chr (117 : Int32) from ⟨by decide, by decide⟩) (show Chr (115 : Int32) from ⟨by decide, by decide⟩) (show Chr (45 : Int32) from ⟨by decide, by decide⟩) (show Chr (105 : Int32) from ⟨by decide, by decide⟩) (show Chr (105 : Int32) from ⟨by decide, by decide⟩) (Or.inr (Or.inl ⟨rfl, rfl, rfl, rfl, rfl, rfl, rfl, rfl, rfl, rfl, rfl, rfl, rfl, rfl⟩)) X442 e442 N442 KK444 V442
  · skip
    refine Wk.iload X125 hx (hb hby at_182) rfl rfl ?_
    refine Wk.bipush X125 hx (v := (13 : Int32)) (hb hby at_184) rfl rfl ?_
    refine Wk.icmpNo X125 hx (hb hby at_186) rfl (tlt (by decide : (2 : Int32) < (13 : Int32))).2.1 ?_
    refine Wk.aload X125 hx (hb hby at_189) rfl rfl rfl ?_
    refine Wk.iload X125 hx (hb hby at_191) rfl rfl ?_
    refine Wk.iload X125 hx (hb hby at_193) rfl rfl ?_
    refine Wk.castore X125 hx hZ1 e125 V125 (by decide) (by decide) 2 rfl (Nat.le_of_ble_eq_true rfl) (w := c5) (narC Lc5) (hb hby at_195) rfl ?_
    intro T445 h445 L445 M445 X445 e445 W445 A445
    have N445 := M445 _ _ N125 (Or.inr (Nat.le_trans KK17.1 (Nat.le_of_eq g7)))
    have O446 : Old Z Z.heap.size h445 := O126.wr W445 (Nat.le_trans (Nat.le_trans (Nat.le_trans (Nat.le_of_eq O0.1.symm) O0.2.1) KK17.1) (Nat.le_of_eq g7))
    have V445 : Arv Z h445 a7 kA7 .char (13 : Int32) [(.int (102 : Int32)), (.int (105 : Int32)), (.int c5), (.int (101 : Int32)), (.int (100 : Int32)), (.int (45 : Int32)), (.int (112 : Int32)), (.int (108 : Int32)), (.int (117 : Int32)), (.int (115 : Int32)), (.int (45 : Int32)), (.int (105 : Int32)), (.int (105 : Int32))] (.int (0 : Int32)) := A445
    have KK447 : Keep h125 h445 [a7] := ((Keep.refl h125 [a7]).wr W445 (Or.inl (List.mem_of_getElem? (i := 0) rfl)))
    exact key (102 : Int32) (105 : Int32) c5 (101 : Int32) (100 : Int32) (45 : Int32) (112 : Int32) (108 : Int32) (117 : Int32) (115 : Int32) (45 : Int32) (105 : Int32) (105 : Int32) _ _ _ (show Chr (102 : Int32) from ⟨by decide, by decide⟩) (show Chr (105 : Int32) from ⟨by decide, by decide⟩) Lc5 (show Chr (101 : Int32) from ⟨by decide, by decide⟩) (show Chr (100 : Int32) from ⟨by decide, by decide⟩) (show Chr (45 : Int32) from ⟨by decide, by decide⟩) (show Chr (112 : Int32) from ⟨by decide, by decide⟩) (show Chr (108 : Int32) from ⟨by decide, by decide⟩) (show Chr (117 : Int32) from ⟨by decide, by decide⟩) (show Chr (115 : Int32) from ⟨by decide, by decide⟩) (show Chr (45 : Int32) from ⟨by decide, by decide⟩) (show Chr (105 : Int32) from ⟨by decide, by decide⟩) (show Chr (105 : Int32) from ⟨by decide, by decide⟩) (Or.inr (Or.inr (Or.inl ⟨rfl, rfl, rfl, rfl, rfl, rfl, rfl, rfl, rfl, rfl, rfl, rfl, rfl, rfl⟩))) X445 e445 N445 KK447 V445
  · skip
    refine Wk.iload X125 hx (hb hby at_182) rfl rfl ?_
    refine Wk.bipush X125 hx (v := (13 : Int32)) (hb hby at_184) rfl rfl ?_
    refine Wk.icmpNo X125 hx (hb hby at_186) rfl (tlt (by decide : (3 : Int32) < (13 : Int32))).2.1 ?_
    refine Wk.aload X125 hx (hb hby at_189) rfl rfl rfl ?_
    refine Wk.iload X125 hx (hb hby at_191) rfl rfl ?_
    refine Wk.iload X125 hx (hb hby at_193) rfl rfl ?_
    refine Wk.castore X125 hx hZ1 e125 V125 (by decide) (by decide) 3 rfl (Nat.le_of_ble_eq_true rfl) (w := c5) (narC Lc5) (hb hby at_195) rfl ?_
    intro T448 h448 L448 M448 X448 e448 W448 A448
    have N448 := M448 _ _ N125 (Or.inr (Nat.le_trans KK17.1 (Nat.le_of_eq g7)))
    have O449 : Old Z Z.heap.size h448 := O126.wr W448 (Nat.le_trans (Nat.le_trans (Nat.le_trans (Nat.le_of_eq O0.1.symm) O0.2.1) KK17.1) (Nat.le_of_eq g7))
    have V448 : Arv Z h448 a7 kA7 .char (13 : Int32) [(.int (102 : Int32)), (.int (105 : Int32)), (.int (120 : Int32)), (.int c5), (.int (100 : Int32)), (.int (45 : Int32)), (.int (112 : Int32)), (.int (108 : Int32)), (.int (117 : Int32)), (.int (115 : Int32)), (.int (45 : Int32)), (.int (105 : Int32)), (.int (105 : Int32))] (.int (0 : Int32)) := A448
    have KK450 : Keep h125 h448 [a7] := ((Keep.refl h125 [a7]).wr W448 (Or.inl (List.mem_of_getElem? (i := 0) rfl)))
    exact key (102 : Int32) (105 : Int32) (120 : Int32) c5 (100 : Int32) (45 : Int32) (112 : Int32) (108 : Int32) (117 : Int32) (115 : Int32) (45 : Int32) (105 : Int32) (105 : Int32) _ _ _ (show Chr (102 : Int32) from ⟨by decide, by decide⟩) (show Chr (105 : Int32) from ⟨by decide, by decide⟩) (show Chr (120 : Int32) from ⟨by decide, by decide⟩) Lc5 (show Chr (100 : Int32) from ⟨by decide, by decide⟩) (show Chr (45 : Int32) from ⟨by decide, by decide⟩) (show Chr (112 : Int32) from ⟨by decide, by decide⟩) (show Chr (108 : Int32) from ⟨by decide, by decide⟩) (show Chr (117 : Int32) from ⟨by decide, by decide⟩) (show Chr (115 : Int32) from ⟨by decide, by decide⟩) (show Chr (45 : Int32) from ⟨by decide, by decide⟩) (show Chr (105 : Int32) from ⟨by decide, by decide⟩) (show Chr (105 : Int32) from ⟨by decide, by decide⟩) (Or.inr (Or.inr (Or.inr (Or.inl ⟨rfl, rfl, rfl, rfl, rfl, rfl, rfl, rfl, rfl, rfl, rfl, rfl, rfl, rfl⟩)))) X448 e448 N448 KK450 V448
  · skip
    refine Wk.iload X125 hx (hb hby at_182) rfl rfl ?_
    refine Wk.bipush X125 hx (v := (13 : Int32)) (hb hby at_184) rfl rfl ?_
    refine Wk.icmpNo X125 hx (hb hby at_186) rfl (tlt (by decide : (4 : Int32) < (13 : Int32))).2.1 ?_
    refine Wk.aload X125 hx (hb hby at_189) rfl rfl rfl ?_
    refine Wk.iload X125 hx (hb hby at_191) rfl rfl ?_
    refine Wk.iload X125 hx (hb hby at_193) rfl rfl ?_
    refine Wk.castore X125 hx hZ1 e125 V125 (by decide) (by decide) 4 rfl (Nat.le_of_ble_eq_true rfl) (w := c5) (narC Lc5) (hb hby at_195) rfl ?_
    intro T451 h451 L451 M451 X451 e451 W451 A451
    have N451 := M451 _ _ N125 (Or.inr (Nat.le_trans KK17.1 (Nat.le_of_eq g7)))
    have O452 : Old Z Z.heap.size h451 := O126.wr W451 (Nat.le_trans (Nat.le_trans (Nat.le_trans (Nat.le_of_eq O0.1.symm) O0.2.1) KK17.1) (Nat.le_of_eq g7))
    have V451 : Arv Z h451 a7 kA7 .char (13 : Int32) [(.int (102 : Int32)), (.int (105 : Int32)), (.int (120 : Int32)), (.int (101 : Int32)), (.int c5), (.int (45 : Int32)), (.int (112 : Int32)), (.int (108 : Int32)), (.int (117 : Int32)), (.int (115 : Int32)), (.int (45 : Int32)), (.int (105 : Int32)), (.int (105 : Int32))] (.int (0 : Int32)) := A451
    have KK453 : Keep h125 h451 [a7] := ((Keep.refl h125 [a7]).wr W451 (Or.inl (List.mem_of_getElem? (i := 0) rfl)))
    exact key (102 : Int32) (105 : Int32) (120 : Int32) (101 : Int32) c5 (45 : Int32) (112 : Int32) (108 : Int32) (117 : Int32) (115 : Int32) (45 : Int32) (105 : Int32) (105 : Int32) _ _ _ (show Chr (102 : Int32) from ⟨by decide, by decide⟩) (show Chr (105 : Int32) from ⟨by decide, by decide⟩) (show Chr (120 : Int32) from ⟨by decide, by decide⟩) (show Chr (101 : Int32) from ⟨by decide, by decide⟩) Lc5 (show Chr (45 : Int32) from ⟨by decide, by decide⟩) (show Chr (112 : Int32) from ⟨by decide, by decide⟩) (show Chr (108 : Int32) from ⟨by decide, by decide⟩) (show Chr (117 : Int32) from ⟨by decide, by decide⟩) (show Chr (115 : Int32) from ⟨by decide, by decide⟩) (show Chr (45 : Int32) from ⟨by decide, by decide⟩) (show Chr (105 : Int32) from ⟨by decide, by decide⟩) (show Chr (105 : Int32) from ⟨by decide, by decide⟩) (Or.inr (Or.inr (Or.inr (Or.inr (Or.inl ⟨rfl, rfl, rfl, rfl, rfl, rfl, rfl, rfl, rfl, rfl, rfl, rfl, rfl, rfl⟩))))) X451 e451 N451 KK453 V451
  · skip
    refine Wk.iload X125 hx (hb hby at_182) rfl rfl ?_
    refine Wk.bipush X125 hx (v := (13 : Int32)) (hb hby at_184) rfl rfl ?_
    refine Wk.icmpNo X125 hx (hb hby at_186) rfl (tlt (by decide : (5 : Int32) < (13 : Int32))).2.1 ?_
    refine Wk.aload X125 hx (hb hby at_189) rfl rfl rfl ?_
    refine Wk.iload X125 hx (hb hby at_191) rfl rfl ?_
    refine Wk.iload X125 hx (hb hby at_193) rfl rfl ?_
    refine Wk.castore X125 hx hZ1 e125 V125 (by decide) (by decide) 5 rfl (Nat.le_of_ble_eq_true rfl) (w := c5) (narC Lc5) (hb hby at_195) rfl ?_
    intro T454 h454 L454 M454 X454 e454 W454 A454
    have N454 := M454 _ _ N125 (Or.inr (Nat.le_trans KK17.1 (Nat.le_of_eq g7)))
    have O455 : Old Z Z.heap.size h454 := O126.wr W454 (Nat.le_trans (Nat.le_trans (Nat.le_trans (Nat.le_of_eq O0.1.symm) O0.2.1) KK17.1) (Nat.le_of_eq g7))
    have V454 : Arv Z h454 a7 kA7 .char (13 : Int32) [(.int (102 : Int32)), (.int (105 : Int32)), (.int (120 : Int32)), (.int (101 : Int32)), (.int (100 : Int32)), (.int c5), (.int (112 : Int32)), (.int (108 : Int32)), (.int (117 : Int32)), (.int (115 : Int32)), (.int (45 : Int32)), (.int (105 : Int32)), (.int (105 : Int32))] (.int (0 : Int32)) := A454
    have KK456 : Keep h125 h454 [a7] := ((Keep.refl h125 [a7]).wr W454 (Or.inl (List.mem_of_getElem? (i := 0) rfl)))
    exact key (102 : Int32) (105 : Int32) (120 : Int32) (101 : Int32) (100 : Int32) c5 (112 : Int32) (108 : Int32) (117 : Int32) (115 : Int32) (45 : Int32) (105 : Int32) (105 : Int32) _ _ _ (show Chr (102 : Int32) from ⟨by decide, by decide⟩) (show Chr (105 : Int32) from ⟨by decide, by decide⟩) (show Chr (120 : Int32) from ⟨by decide, by decide⟩) (show Chr (101 : Int32) from ⟨by decide, by decide⟩) (show Chr (100 : Int32) from ⟨by decide, by decide⟩) Lc5 (show Chr (112 : Int32) from ⟨by decide, by decide⟩) (show Chr (108 : Int32) from ⟨by decide, by decide⟩) (show Chr (117 : Int32) from ⟨by decide, by decide⟩) (show Chr (115 : Int32) from ⟨by decide, by decide⟩) (show Chr (45 : Int32) from ⟨by decide, by decide⟩) (show Chr (105 : Int32) from ⟨by decide, by decide⟩) (show Chr (105 : Int32) from ⟨by decide, by decide⟩) (Or.inr (Or.inr (Or.inr (Or.inr (Or.inr (Or.inl ⟨rfl, rfl, rfl, rfl, rfl, rfl, rfl, rfl, rfl, rfl, rfl, rfl, rfl, rfl⟩)))))) X454 e454 N454 KK456 V454
  · skip
    refine Wk.iload X125 hx (hb hby at_182) rfl rfl ?_
    refine Wk.bipush X125 hx (v := (13 : Int32)) (hb hby at_184) rfl rfl ?_
    refine Wk.icmpNo X125 hx (hb hby at_186) rfl (tlt (by decide : (6 : Int32) < (13 : Int32))).2.1 ?_
    refine Wk.aload X125 hx (hb hby at_189) rfl rfl rfl ?_
    refine Wk.iload X125 hx (hb hby at_191) rfl rfl ?_
    refine Wk.iload X125 hx (hb hby at_193) rfl rfl ?_
    refine Wk.castore X125 hx hZ1 e125 V125 (by decide) (by decide) 6 rfl (Nat.le_of_ble_eq_true rfl) (w := c5) (narC Lc5) (hb hby at_195) rfl ?_
    intro T457 h457 L457 M457 X457 e457 W457 A457
    have N457 := M457 _ _ N125 (Or.inr (Nat.le_trans KK17.1 (Nat.le_of_eq g7)))
    have O458 : Old Z Z.heap.size h457 := O126.wr W457 (Nat.le_trans (Nat.le_trans (Nat.le_trans (Nat.le_of_eq O0.1.symm) O0.2.1) KK17.1) (Nat.le_of_eq g7))
    have V457 : Arv Z h457 a7 kA7 .char (13 : Int32) [(.int (102 : Int32)), (.int (105 : Int32)), (.int (120 : Int32)), (.int (101 : Int32)), (.int (100 : Int32)), (.int (45 : Int32)), (.int c5), (.int (108 : Int32)), (.int (117 : Int32)), (.int (115 : Int32)), (.int (45 : Int32)), (.int (105 : Int32)), (.int (105 : Int32))] (.int (0 : Int32)) := A457
    have KK459 : Keep h125 h457 [a7] := ((Keep.refl h125 [a7]).wr W457 (Or.inl (List.mem_of_getElem? (i := 0) rfl)))
    exact key (102 : Int32) (105 : Int32) (120 : Int32) (101 : Int32) (100 : Int32) (45 : Int32) c5 (108 : Int32) (117 : Int32) (115 : Int32) (45 : Int32) (105 : Int32) (105 : Int32) _ _ _ (show Chr (102 : Int32) from ⟨by decide, by decide⟩) (show Chr (105 : Int32) from ⟨by decide, by decide⟩) (show Chr (120 : Int32) from ⟨by decide, by decide⟩) (show Chr (101 : Int32) from ⟨by decide, by decide⟩) (show Chr (100 : Int32) from ⟨by decide, by decide⟩) (show Chr (45 : Int32) from ⟨by decide, by decide⟩) Lc5 (show Chr (108 : Int32) from ⟨by decide, by decide⟩) (show Chr (117 : Int32) from ⟨by decide, by decide⟩) (show Chr (115 : Int32) from ⟨by decide, by decide⟩) (show Chr (45 : Int32) from ⟨by decide, by decide⟩) (show Chr (105 : Int32) from ⟨by decide, by decide⟩) (show Chr (105 : Int32) from ⟨by decide, by decide⟩) (Or.inr (Or.inr (Or.inr (Or.inr (Or.inr (Or.inr (Or.inl ⟨rfl, rfl, rfl, rfl, rfl, rfl, rfl, rfl, rfl, rfl, rfl, rfl, rfl, rfl⟩))))))) X457 e457 N457 KK459 V457
  · skip
    refine Wk.iload X125 hx (hb hby at_182) rfl rfl ?_
    refine Wk.bipush X125 hx (v := (13 : Int32)) (hb hby at_184) rfl rfl ?_
    refine Wk.icmpNo X125 hx (hb hby at_186) rfl (tlt (by decide : (7 : Int32) < (13 : Int32))).2.1 ?_
    refine Wk.aload X125 hx (hb hby at_189) rfl rfl rfl ?_
    refine Wk.iload X125 hx (hb hby at_191) rfl rfl ?_
    refine Wk.iload X125 hx (hb hby at_193) rfl rfl ?_
    refine Wk.castore X125 hx hZ1 e125 V125 (by decide) (by decide) 7 rfl (Nat.le_of_ble_eq_true rfl) (w := c5) (narC Lc5) (hb hby at_195) rfl ?_
    intro T460 h460 L460 M460 X460 e460 W460 A460
    have N460 := M460 _ _ N125 (Or.inr (Nat.le_trans KK17.1 (Nat.le_of_eq g7)))
    have O461 : Old Z Z.heap.size h460 := O126.wr W460 (Nat.le_trans (Nat.le_trans (Nat.le_trans (Nat.le_of_eq O0.1.symm) O0.2.1) KK17.1) (Nat.le_of_eq g7))
    have V460 : Arv Z h460 a7 kA7 .char (13 : Int32) [(.int (102 : Int32)), (.int (105 : Int32)), (.int (120 : Int32)), (.int (101 : Int32)), (.int (100 : Int32)), (.int (45 : Int32)), (.int (112 : Int32)), (.int c5), (.int (117 : Int32)), (.int (115 : Int32)), (.int (45 : Int32)), (.int (105 : Int32)), (.int (105 : Int32))] (.int (0 : Int32)) := A460
    have KK462 : Keep h125 h460 [a7] := ((Keep.refl h125 [a7]).wr W460 (Or.inl (List.mem_of_getElem? (i := 0) rfl)))
    exact key (102 : Int32) (105 : Int32) (120 : Int32) (101 : Int32) (100 : Int32) (45 : Int32) (112 : Int32) c5 (117 : Int32) (115 : Int32) (45 : Int32) (105 : Int32) (105 : Int32) _ _ _ (show Chr (102 : Int32) from ⟨by decide, by decide⟩) (show Chr (105 : Int32) from ⟨by decide, by decide⟩) (show Chr (120 : Int32) from ⟨by decide, by decide⟩) (show Chr (101 : Int32) from ⟨by decide, by decide⟩) (show Chr (100 : Int32) from ⟨by decide, by decide⟩) (show Chr (45 : Int32) from ⟨by decide, by decide⟩) (show Chr (112 : Int32) from ⟨by decide, by decide⟩) Lc5 (show Chr (117 : Int32) from ⟨by decide, by decide⟩) (show Chr (115 : Int32) from ⟨by decide, by decide⟩) (show Chr (45 : Int32) from ⟨by decide, by decide⟩) (show Chr (105 : Int32) from ⟨by decide, by decide⟩) (show Chr (105 : Int32) from ⟨by decide, by decide⟩) (Or.inr (Or.inr (Or.inr (Or.inr (Or.inr (Or.inr (Or.inr (Or.inl ⟨rfl, rfl, rfl, rfl, rfl, rfl, rfl, rfl, rfl, rfl, rfl, rfl, rfl, rfl⟩)))))))) X460 e460 N460 KK462 V460
  · skip
    refine Wk.iload X125 hx (hb hby at_182) rfl rfl ?_
    refine Wk.bipush X125 hx (v := (13 : Int32)) (hb hby at_184) rfl rfl ?_
    refine Wk.icmpNo X125 hx (hb hby at_186) rfl (tlt (by decide : (8 : Int32) < (13 : Int32))).2.1 ?_
    refine Wk.aload X125 hx (hb hby at_189) rfl rfl rfl ?_
    refine Wk.iload X125 hx (hb hby at_191) rfl rfl ?_
    refine Wk.iload X125 hx (hb hby at_193) rfl rfl ?_
    refine Wk.castore X125 hx hZ1 e125 V125 (by decide) (by decide) 8 rfl (Nat.le_of_ble_eq_true rfl) (w := c5) (narC Lc5) (hb hby at_195) rfl ?_
    intro T463 h463 L463 M463 X463 e463 W463 A463
    have N463 := M463 _ _ N125 (Or.inr (Nat.le_trans KK17.1 (Nat.le_of_eq g7)))
    have O464 : Old Z Z.heap.size h463 := O126.wr W463 (Nat.le_trans (Nat.le_trans (Nat.le_trans (Nat.le_of_eq O0.1.symm) O0.2.1) KK17.1) (Nat.le_of_eq g7))
    have V463 : Arv Z h463 a7 kA7 .char (13 : Int32) [(.int (102 : Int32)), (.int (105 : Int32)), (.int (120 : Int32)), (.int (101 : Int32)), (.int (100 : Int32)), (.int (45 : Int32)), (.int (112 : Int32)), (.int (108 : Int32)), (.int c5), (.int (115 : Int32)), (.int (45 : Int32)), (.int (105 : Int32)), (.int (105 : Int32))] (.int (0 : Int32)) := A463
    have KK465 : Keep h125 h463 [a7] := ((Keep.refl h125 [a7]).wr W463 (Or.inl (List.mem_of_getElem? (i := 0) rfl)))
    exact key (102 : Int32) (105 : Int32) (120 : Int32) (101 : Int32) (100 : Int32) (45 : Int32) (112 : Int32) (108 : Int32) c5 (115 : Int32) (45 : Int32) (105 : Int32) (105 : Int32) _ _ _ (show Chr (102 : Int32) from ⟨by decide, by decide⟩) (show Chr (105 : Int32) from ⟨by decide, by decide⟩) (show Chr (120 : Int32) from ⟨by decide, by decide⟩) (show Chr (101 : Int32) from ⟨by decide, by decide⟩) (show Chr (100 : Int32) from ⟨by decide, by decide⟩) (show Chr (45 : Int32) from ⟨by decide, by decide⟩) (show Chr (112 : Int32) from ⟨by decide, by decide⟩) (show Chr (108 : Int32) from ⟨by decide, by decide⟩) Lc5 (show Chr (115 : Int32) from ⟨by decide, by decide⟩) (show Chr (45 : Int32) from ⟨by decide, by decide⟩) (show Chr (105 : Int32) from ⟨by decide, by decide⟩) (show Chr (105 : Int32) from ⟨by decide, by decide⟩) (Or.inr (Or.inr (Or.inr (Or.inr (Or.inr (Or.inr (Or.inr (Or.inr (Or.inl ⟨rfl, rfl, rfl, rfl, rfl, rfl, rfl, rfl, rfl, rfl, rfl, rfl, rfl, rfl⟩))))))))) X463 e463 N463 KK465 V463
  · skip
    refine Wk.iload X125 hx (hb hby at_182) rfl rfl ?_
    refine Wk.bipush X125 hx (v := (13 : Int32)) (hb hby at_184) rfl rfl ?_
    refine Wk.icmpNo X125 hx (hb hby at_186) rfl (tlt (by decide : (9 : Int32) < (13 : Int32))).2.1 ?_
    refine Wk.aload X125 hx (hb hby at_189) rfl rfl rfl ?_
    refine Wk.iload X125 hx (hb hby at_191) rfl rfl ?_
    refine Wk.iload X125 hx (hb hby at_193) rfl rfl ?_
    refine Wk.castore X125 hx hZ1 e125 V125 (by decide) (by decide) 9 rfl (Nat.le_of_ble_eq_true rfl) (w := c5) (narC Lc5) (hb hby at_195) rfl ?_
    intro T466 h466 L466 M466 X466 e466 W466 A466
    have N466 := M466 _ _ N125 (Or.inr (Nat.le_trans KK17.1 (Nat.le_of_eq g7)))
    have O467 : Old Z Z.heap.size h466 := O126.wr W466 (Nat.le_trans (Nat.le_trans (Nat.le_trans (Nat.le_of_eq O0.1.symm) O0.2.1) KK17.1) (Nat.le_of_eq g7))
    have V466 : Arv Z h466 a7 kA7 .char (13 : Int32) [(.int (102 : Int32)), (.int (105 : Int32)), (.int (120 : Int32)), (.int (101 : Int32)), (.int (100 : Int32)), (.int (45 : Int32)), (.int (112 : Int32)), (.int (108 : Int32)), (.int (117 : Int32)), (.int c5), (.int (45 : Int32)), (.int (105 : Int32)), (.int (105 : Int32))] (.int (0 : Int32)) := A466
    have KK468 : Keep h125 h466 [a7] := ((Keep.refl h125 [a7]).wr W466 (Or.inl (List.mem_of_getElem? (i := 0) rfl)))
    exact key (102 : Int32) (105 : Int32) (120 : Int32) (101 : Int32) (100 : Int32) (45 : Int32) (112 : Int32) (108 : Int32) (117 : Int32) c5 (45 : Int32) (105 : Int32) (105 : Int32) _ _ _ (show Chr (102 : Int32) from ⟨by decide, by decide⟩) (show Chr (105 : Int32) from ⟨by decide, by decide⟩) (show Chr (120 : Int32) from ⟨by decide, by decide⟩) (show Chr (101 : Int32) from ⟨by decide, by decide⟩) (show Chr (100 : Int32) from ⟨by decide, by decide⟩) (show Chr (45 : Int32) from ⟨by decide, by decide⟩) (show Chr (112 : Int32) from ⟨by decide, by decide⟩) (show Chr (108 : Int32) from ⟨by decide, by decide⟩) (show Chr (117 : Int32) from ⟨by decide, by decide⟩) Lc5 (show Chr (45 : Int32) from ⟨by decide, by decide⟩) (show Chr (105 : Int32) from ⟨by decide, by decide⟩) (show Chr (105 : Int32) from ⟨by decide, by decide⟩) (Or.inr (Or.inr (Or.inr (Or.inr (Or.inr (Or.inr (Or.inr (Or.inr (Or.inr (Or.inl ⟨rfl, rfl, rfl, rfl, rfl, rfl, rfl, rfl, rfl, rfl, rfl, rfl, rfl, rfl⟩)))))))))) X466 e466 N466 KK468 V466
  · skip
    refine Wk.iload X125 hx (hb hby at_182) rfl rfl ?_
    refine Wk.bipush X125 hx (v := (13 : Int32)) (hb hby at_184) rfl rfl ?_
    refine Wk.icmpNo X125 hx (hb hby at_186) rfl (tlt (by decide : (10 : Int32) < (13 : Int32))).2.1 ?_
    refine Wk.aload X125 hx (hb hby at_189) rfl rfl rfl ?_
    refine Wk.iload X125 hx (hb hby at_191) rfl rfl ?_
    refine Wk.iload X125 hx (hb hby at_193) rfl rfl ?_
    refine Wk.castore X125 hx hZ1 e125 V125 (by decide) (by decide) 10 rfl (Nat.le_of_ble_eq_true rfl) (w := c5) (narC Lc5) (hb hby at_195) rfl ?_
    intro T469 h469 L469 M469 X469 e469 W469 A469
    have N469 := M469 _ _ N125 (Or.inr (Nat.le_trans KK17.1 (Nat.le_of_eq g7)))
    have O470 : Old Z Z.heap.size h469 := O126.wr W469 (Nat.le_trans (Nat.le_trans (Nat.le_trans (Nat.le_of_eq O0.1.symm) O0.2.1) KK17.1) (Nat.le_of_eq g7))
    have V469 : Arv Z h469 a7 kA7 .char (13 : Int32) [(.int (102 : Int32)), (.int (105 : Int32)), (.int (120 : Int32)), (.int (101 : Int32)), (.int (100 : Int32)), (.int (45 : Int32)), (.int (112 : Int32)), (.int (108 : Int32)), (.int (117 : Int32)), (.int (115 : Int32)), (.int c5), (.int (105 : Int32)), (.int (105 : Int32))] (.int (0 : Int32)) := A469
    have KK471 : Keep h125 h469 [a7] := ((Keep.refl h125 [a7]).wr W469 (Or.inl (List.mem_of_getElem? (i := 0) rfl)))
    exact key (102 : Int32) (105 : Int32) (120 : Int32) (101 : Int32) (100 : Int32) (45 : Int32) (112 : Int32) (108 : Int32) (117 : Int32) (115 : Int32) c5 (105 : Int32) (105 : Int32) _ _ _ (show Chr (102 : Int32) from ⟨by decide, by decide⟩) (show Chr (105 : Int32) from ⟨by decide, by decide⟩) (show Chr (120 : Int32) from ⟨by decide, by decide⟩) (show Chr (101 : Int32) from ⟨by decide, by decide⟩) (show Chr (100 : Int32) from ⟨by decide, by decide⟩) (show Chr (45 : Int32) from ⟨by decide, by decide⟩) (show Chr (112 : Int32) from ⟨by decide, by decide⟩) (show Chr (108 : Int32) from ⟨by decide, by decide⟩) (show Chr (117 : Int32) from ⟨by decide, by decide⟩) (show Chr (115 : Int32) from ⟨by decide, by decide⟩) Lc5 (show Chr (105 : Int32) from ⟨by decide, by decide⟩) (show Chr (105 : Int32) from ⟨by decide, by decide⟩) (Or.inr (Or.inr (Or.inr (Or.inr (Or.inr (Or.inr (Or.inr (Or.inr (Or.inr (Or.inr (Or.inl ⟨rfl, rfl, rfl, rfl, rfl, rfl, rfl, rfl, rfl, rfl, rfl, rfl, rfl, rfl⟩))))))))))) X469 e469 N469 KK471 V469
  · skip
    refine Wk.iload X125 hx (hb hby at_182) rfl rfl ?_
    refine Wk.bipush X125 hx (v := (13 : Int32)) (hb hby at_184) rfl rfl ?_
    refine Wk.icmpNo X125 hx (hb hby at_186) rfl (tlt (by decide : (11 : Int32) < (13 : Int32))).2.1 ?_
    refine Wk.aload X125 hx (hb hby at_189) rfl rfl rfl ?_
    refine Wk.iload X125 hx (hb hby at_191) rfl rfl ?_
    refine Wk.iload X125 hx (hb hby at_193) rfl rfl ?_
    refine Wk.castore X125 hx hZ1 e125 V125 (by decide) (by decide) 11 rfl (Nat.le_of_ble_eq_true rfl) (w := c5) (narC Lc5) (hb hby at_195) rfl ?_
    intro T472 h472 L472 M472 X472 e472 W472 A472
    have N472 := M472 _ _ N125 (Or.inr (Nat.le_trans KK17.1 (Nat.le_of_eq g7)))
    have O473 : Old Z Z.heap.size h472 := O126.wr W472 (Nat.le_trans (Nat.le_trans (Nat.le_trans (Nat.le_of_eq O0.1.symm) O0.2.1) KK17.1) (Nat.le_of_eq g7))
    have V472 : Arv Z h472 a7 kA7 .char (13 : Int32) [(.int (102 : Int32)), (.int (105 : Int32)), (.int (120 : Int32)), (.int (101 : Int32)), (.int (100 : Int32)), (.int (45 : Int32)), (.int (112 : Int32)), (.int (108 : Int32)), (.int (117 : Int32)), (.int (115 : Int32)), (.int (45 : Int32)), (.int c5), (.int (105 : Int32))] (.int (0 : Int32)) := A472
    have KK474 : Keep h125 h472 [a7] := ((Keep.refl h125 [a7]).wr W472 (Or.inl (List.mem_of_getElem? (i := 0) rfl)))
    exact key (102 : Int32) (105 : Int32) (120 : Int32) (101 : Int32) (100 : Int32) (45 : Int32) (112 : Int32) (108 : Int32) (117 : Int32) (115 : Int32) (45 : Int32) c5 (105 : Int32) _ _ _ (show Chr (102 : Int32) from ⟨by decide, by decide⟩) (show Chr (105 : Int32) from ⟨by decide, by decide⟩) (show Chr (120 : Int32) from ⟨by decide, by decide⟩) (show Chr (101 : Int32) from ⟨by decide, by decide⟩) (show Chr (100 : Int32) from ⟨by decide, by decide⟩) (show Chr (45 : Int32) from ⟨by decide, by decide⟩) (show Chr (112 : Int32) from ⟨by decide, by decide⟩) (show Chr (108 : Int32) from ⟨by decide, by decide⟩) (show Chr (117 : Int32) from ⟨by decide, by decide⟩) (show Chr (115 : Int32) from ⟨by decide, by decide⟩) (show Chr (45 : Int32) from ⟨by decide, by decide⟩) Lc5 (show Chr (105 : Int32) from ⟨by decide, by decide⟩) (Or.inr (Or.inr (Or.inr (Or.inr (Or.inr (Or.inr (Or.inr (Or.inr (Or.inr (Or.inr (Or.inr (Or.inl ⟨rfl, rfl, rfl, rfl, rfl, rfl, rfl, rfl, rfl, rfl, rfl, rfl, rfl, rfl⟩)))))))))))) X472 e472 N472 KK474 V472
  · skip
    refine Wk.iload X125 hx (hb hby at_182) rfl rfl ?_
    refine Wk.bipush X125 hx (v := (13 : Int32)) (hb hby at_184) rfl rfl ?_
    refine Wk.icmpNo X125 hx (hb hby at_186) rfl (tlt (by decide : (12 : Int32) < (13 : Int32))).2.1 ?_
    refine Wk.aload X125 hx (hb hby at_189) rfl rfl rfl ?_
    refine Wk.iload X125 hx (hb hby at_191) rfl rfl ?_
    refine Wk.iload X125 hx (hb hby at_193) rfl rfl ?_
    refine Wk.castore X125 hx hZ1 e125 V125 (by decide) (by decide) 12 rfl (Nat.le_of_ble_eq_true rfl) (w := c5) (narC Lc5) (hb hby at_195) rfl ?_
    intro T475 h475 L475 M475 X475 e475 W475 A475
    have N475 := M475 _ _ N125 (Or.inr (Nat.le_trans KK17.1 (Nat.le_of_eq g7)))
    have O476 : Old Z Z.heap.size h475 := O126.wr W475 (Nat.le_trans (Nat.le_trans (Nat.le_trans (Nat.le_of_eq O0.1.symm) O0.2.1) KK17.1) (Nat.le_of_eq g7))
    have V475 : Arv Z h475 a7 kA7 .char (13 : Int32) [(.int (102 : Int32)), (.int (105 : Int32)), (.int (120 : Int32)), (.int (101 : Int32)), (.int (100 : Int32)), (.int (45 : Int32)), (.int (112 : Int32)), (.int (108 : Int32)), (.int (117 : Int32)), (.int (115 : Int32)), (.int (45 : Int32)), (.int (105 : Int32)), (.int c5)] (.int (0 : Int32)) := A475
    have KK477 : Keep h125 h475 [a7] := ((Keep.refl h125 [a7]).wr W475 (Or.inl (List.mem_of_getElem? (i := 0) rfl)))
    exact key (102 : Int32) (105 : Int32) (120 : Int32) (101 : Int32) (100 : Int32) (45 : Int32) (112 : Int32) (108 : Int32) (117 : Int32) (115 : Int32) (45 : Int32) (105 : Int32) c5 _ _ _ (show Chr (102 : Int32) from ⟨by decide, by decide⟩) (show Chr (105 : Int32) from ⟨by decide, by decide⟩) (show Chr (120 : Int32) from ⟨by decide, by decide⟩) (show Chr (101 : Int32) from ⟨by decide, by decide⟩) (show Chr (100 : Int32) from ⟨by decide, by decide⟩) (show Chr (45 : Int32) from ⟨by decide, by decide⟩) (show Chr (112 : Int32) from ⟨by decide, by decide⟩) (show Chr (108 : Int32) from ⟨by decide, by decide⟩) (show Chr (117 : Int32) from ⟨by decide, by decide⟩) (show Chr (115 : Int32) from ⟨by decide, by decide⟩) (show Chr (45 : Int32) from ⟨by decide, by decide⟩) (show Chr (105 : Int32) from ⟨by decide, by decide⟩) Lc5 (Or.inr (Or.inr (Or.inr (Or.inr (Or.inr (Or.inr (Or.inr (Or.inr (Or.inr (Or.inr (Or.inr (Or.inr (Or.inl ⟨rfl, rfl, rfl, rfl, rfl, rfl, rfl, rfl, rfl, rfl, rfl, rfl, rfl, rfl⟩))))))))))))) X475 e475 N475 KK477 V475
  refine Wk.iload X125 hx (hb hby at_182) rfl rfl ?_
  refine Wk.bipush X125 hx (v := (13 : Int32)) (hb hby at_184) rfl rfl ?_
  refine Wk.icmpYes X125 hx (hb hby at_186) (by decide) (q := 196) rfl (flt (by decide : ¬ ((13 : Int32) < (13 : Int32)))).2.1 ?_
  exact key (102 : Int32) (105 : Int32) (120 : Int32) (101 : Int32) (100 : Int32) (45 : Int32) (112 : Int32) (108 : Int32) (117 : Int32) (115 : Int32) (45 : Int32) (105 : Int32) (105 : Int32) _ _ _ (show Chr (102 : Int32) from ⟨by decide, by decide⟩) (show Chr (105 : Int32) from ⟨by decide, by decide⟩) (show Chr (120 : Int32) from ⟨by decide, by decide⟩) (show Chr (101 : Int32) from ⟨by decide, by decide⟩) (show Chr (100 : Int32) from ⟨by decide, by decide⟩) (show Chr (45 : Int32) from ⟨by decide, by decide⟩) (show Chr (112 : Int32) from ⟨by decide, by decide⟩) (show Chr (108 : Int32) from ⟨by decide, by decide⟩) (show Chr (117 : Int32) from ⟨by decide, by decide⟩) (show Chr (115 : Int32) from ⟨by decide, by decide⟩) (show Chr (45 : Int32) from ⟨by decide, by decide⟩) (show Chr (105 : Int32) from ⟨by decide, by decide⟩) (show Chr (105 : Int32) from ⟨by decide, by decide⟩) (Or.inr (Or.inr (Or.inr (Or.inr (Or.inr (Or.inr (Or.inr (Or.inr (Or.inr (Or.inr (Or.inr (Or.inr (Or.inr (⟨rfl, rfl, rfl, rfl, rfl, rfl, rfl, rfl, rfl, rfl, rfl, rfl, rfl, rfl⟩)))))))))))))) X125 e125 N125 (Keep.refl h125 [a7]) V125
set_option maxRecDepth 65536 in
set_option maxHeartbeats 40000000 in
theorem comes_1 {Post : Tables → Env → Array Value → State → Outcome → State → Prop} (hpost : ∀ tb e args s v u, (limb_1_1.after args s (.returned v) u = true ∧ limb_1_2.after args s (.returned v) u = true ∧ True) → ReturnedEndW s (.returned v) u (Jvm.fieldLocs frame_1_writes args s ++ Jvm.arrayLocs frame_1_arrays args s ++ Jvm.staticLocs frame_1_statics s) 24 1280 → Post tb e args s (.returned v) u) :
    ArmFor flags0 classFile x code maxLocals ret World_1 tables_1 room_1 Calls_1 rest_1 Pre_1 Post := by
  intro l hfl _ _ p e ha hc hk s m args below hf hA hF happ hP
  obtain ⟨hcalls, hrest, hpre⟩ := hP
  obtain ⟨-, -, -, hnamed, -, -, -, hat⟩ := (Spec.applies_iff hf).mp happ
  obtain ⟨hg, hn⟩ := and_e (Cond.before_iff.mp (show (Jvm.Cond.and given_1 narrow_1).before args s = true from hpre))
  obtain ⟨hcount, hk0⟩ := and_e hg
  obtain ⟨ha0, hk1⟩ := and_e hk0
  obtain ⟨ha1, hk2⟩ := and_e hk1
  obtain ⟨ha2, hk3⟩ := and_e hk2
  have ha3 := hk3
  obtain ⟨w0, w1, w2, w3, rfl⟩ : ∃ w0 w1 w2 w3 : Value, args = #[w0, w1, w2, w3] := by
    have hs : args.size = 4 := by simpa [Cond.value, given_1] using hcount
    obtain ⟨L⟩ := args
    match L, hs with
    | [w0, w1, w2, w3], _ => exact ⟨w0, w1, w2, w3, rfl⟩
  have hw := fun d (hd : d ∈ tables_1) => atoms_spec (ws := Jvm.Cond.code x code maxLocals ret :: tables_1) hat d (List.mem_cons_of_mem _ hd)
  have hfit : Fit s := fun {y c} hc i hi => by
    obtain ⟨ha, rfl⟩ := Array.getElem?_eq_some_iff.mp hc
    have q := List.all_eq_true.mp ((Array.all_eq_true_iff_forall_mem.mp hF) _ (Array.getElem_mem ha)) i (List.mem_range.mpr hi)
    simpa [Array.getElem?_eq_getElem hi] using q
  obtain ⟨hsets, hown0⟩ := atoms_of _ (rest_1_c_eq ▸ (show rest_1_c.before _ s = true from hrest))
  obtain ⟨i0, ei0⟩ := is_v ha0
  obtain rfl : w0 = (.int i0) := Option.some.inj ei0
  obtain ⟨i1, ei1⟩ := is_v ha1
  obtain rfl : w1 = (.int i1) := Option.some.inj ei1
  obtain ⟨i2, ei2⟩ := is_v ha2
  obtain rfl : w2 = (.int i2) := Option.some.inj ei2
  obtain ⟨i3, ei3⟩ := is_v ha3
  obtain rfl : w3 = (.int i3) := Option.some.inj ei3
  have n3 := not_v (Cond.before_iff.mp (hsets _ (List.mem_of_getElem? (i := 2) rfl)))
  obtain ⟨G1, eG1⟩ := is_v (Cond.before_iff.mp (hsets _ (List.mem_of_getElem? (i := 1) rfl)))
  have SG1 : Sta s s.heap "java/lang/String" "COMPACT_STRINGS" "Z" (.int G1) := Sta.start eG1 (Or.inl (hsets _ (List.mem_of_getElem? (i := 0) rfl)))
  have nG1 : ¬ (G1 = (0 : Int32)) := gotF (Cond.eq_ints eG1 (Term.int_eval (0))) n3
  obtain ⟨G3, eG3, rG3⟩ := isR_v (Cond.before_iff.mp (hsets _ (List.mem_of_getElem? (i := 8) rfl)))
  have SG3 : Sta s s.heap "jdk/internal/util/Preconditions" "SIOOBE_FORMATTER" "Ljava/util/function/BiFunction;" G3 := Sta.start eG3 (Or.inl (hsets _ (List.mem_of_getElem? (i := 7) rfl)))
  obtain ⟨nn0, nr0⟩ := and_e hn
  obtain ⟨nn1, nr1⟩ := and_e nr0
  obtain ⟨nn2, nr2⟩ := and_e nr1
  obtain ⟨nn3, nr3⟩ := and_e nr2
  obtain ⟨nn4, nr4⟩ := and_e nr3
  obtain ⟨nn5, nr5⟩ := and_e nr4
  obtain ⟨nn6, nr6⟩ := and_e nr5
  obtain ⟨nn7, nr7⟩ := and_e nr6
  obtain ⟨nn8, nr8⟩ := and_e nr7
  obtain ⟨nn9, nr9⟩ := and_e nr8
  obtain ⟨nn10, nr10⟩ := and_e nr9
  obtain ⟨nn11, nr11⟩ := and_e nr10
  obtain ⟨nn12, nr12⟩ := and_e nr11
  obtain ⟨nn13, nr13⟩ := and_e nr12
  obtain ⟨nn14, nr14⟩ := and_e nr13
  obtain ⟨nn15, nr15⟩ := and_e nr14
  obtain ⟨nn16, nr16⟩ := and_e nr15
  obtain ⟨nn17, nr17⟩ := and_e nr16
  obtain ⟨nn18, nr18⟩ := and_e nr17
  obtain ⟨nn19, nr19⟩ := and_e nr18
  obtain ⟨nn20, nr20⟩ := and_e nr19
  obtain ⟨kf, ekf⟩ := exa_v nn3
  have sF : Sta s s.heap "com/example/accumulus/accumulus/terms/FixedOption" "FIXED_PLUS_II" "Lcom/example/accumulus/accumulus/terms/FixedOption;" (.ref kf) := Sta.start ekf (Or.inr ⟨hw _ (List.mem_of_getElem? (i := 59) rfl), hw _ (List.mem_of_getElem? (i := 73) rfl)⟩)
  obtain ⟨va, eva⟩ := exa_v nn1
  have pE := Exa.start eva nn1
  have sV : Sta s s.heap "com/example/accumulus/accumulus/terms/FixedOption" "$VALUES" "[Lcom/example/accumulus/accumulus/terms/FixedOption;" (.ref va) := Sta.start eva (Or.inr ⟨hw _ (List.mem_of_getElem? (i := 59) rfl), hw _ (List.mem_of_getElem? (i := 65) rfl)⟩)
  obtain ⟨cv, Av⟩ := Arr.start eva nn0
  obtain ⟨l1, l2⟩ := lenStart Av eva nn2
  have pA : Arv s s.heap va cv.cls (.object "com/example/accumulus/accumulus/terms/FixedOption") (1 : Int32) [(.ref kf)] .null := Arv.start hfit Av l1 l2 (by decide) rfl ⟨(elem_in (fieldR nn4 ekf) eva (Term.int_eval _) Av.1).2, trivial⟩
  obtain ⟨lb_, elb⟩ := exa_v nn5
  have pl0 := Exa.start elb nn5
  have pF : Fld s s.heap kf "com/example/accumulus/accumulus/terms/FixedOption" "label" "Ljava/lang/String;" (.ref lb_) := Fld.start (by rw [← fld_at ekf]; exact elb)
  have pl1 : Fld s s.heap lb_ "java/lang/String" "coder" "B" (.int (0 : Int32)) := Fld.start (by rw [← fld_at elb]; exact fieldI nn6)
  obtain ⟨lt, elt⟩ := arr_v nn7
  have pl2 : Fld s s.heap lb_ "java/lang/String" "value" "[B" (.ref lt) := Fld.start (by rw [← fld_at elb]; exact elt)
  obtain ⟨cb, Ab⟩ := Arr.start elt nn7
  obtain ⟨b1, b2⟩ := lenStart Ab elt nn8
  have pl3 : Arv s s.heap lt cb.cls .byte (13 : Int32) [(.int (102 : Int32)), (.int (105 : Int32)), (.int (120 : Int32)), (.int (101 : Int32)), (.int (100 : Int32)), (.int (45 : Int32)), (.int (112 : Int32)), (.int (108 : Int32)), (.int (117 : Int32)), (.int (115 : Int32)), (.int (45 : Int32)), (.int (105 : Int32)), (.int (105 : Int32))] (.int (0 : Int32)) := Arv.start hfit Ab b1 b2 (by decide) rfl ⟨(elem_in (fieldI nn9) elt (Term.int_eval _) Ab.1).2, (elem_in (fieldI nn10) elt (Term.int_eval _) Ab.1).2, (elem_in (fieldI nn11) elt (Term.int_eval _) Ab.1).2, (elem_in (fieldI nn12) elt (Term.int_eval _) Ab.1).2, (elem_in (fieldI nn13) elt (Term.int_eval _) Ab.1).2, (elem_in (fieldI nn14) elt (Term.int_eval _) Ab.1).2, (elem_in (fieldI nn15) elt (Term.int_eval _) Ab.1).2, (elem_in (fieldI nn16) elt (Term.int_eval _) Ab.1).2, (elem_in (fieldI nn17) elt (Term.int_eval _) Ab.1).2, (elem_in (fieldI nn18) elt (Term.int_eval _) Ab.1).2, (elem_in (fieldI nn19) elt (Term.int_eval _) Ab.1).2, (elem_in (fieldI nn20) elt (Term.int_eval _) Ab.1).2, (elem_in (fieldI nr20) elt (Term.int_eval _) Ab.1).2, trivial⟩
  have sH : Sta s s.heap "java/lang/StringUTF16" "HI_BYTE_SHIFT" "I" (.int (0 : Int32)) := Sta.start (fieldI (Cond.before_iff.mp (hsets _ (List.mem_of_getElem? (i := 15) rfl)))) (Or.inl (hsets _ (List.mem_of_getElem? (i := 14) rfl)))
  have sL : Sta s s.heap "java/lang/StringUTF16" "LO_BYTE_SHIFT" "I" (.int (8 : Int32)) := Sta.start (fieldI (Cond.before_iff.mp (hsets _ (List.mem_of_getElem? (i := 18) rfl)))) (Or.inl (hsets _ (List.mem_of_getElem? (i := 17) rfl)))
  have sA : Sta s s.heap "java/lang/StringUTF16" "$assertionsDisabled" "Z" (.int (1 : Int32)) := Sta.start (fieldI (Cond.before_iff.mp (hsets _ (List.mem_of_getElem? (i := 12) rfl)))) (Or.inl (hsets _ (List.mem_of_getElem? (i := 11) rfl)))
  obtain ⟨n, o, h1, h2, h3, _, L, rfl, ⟨rfl, N', -⟩, hq⟩ := rm_law l s _ hw tables_1 i0 i1 i2 i3 G1 G3 va cv.cls kf lb_ lt cb.cls s.heap (Old.start s) (hsets _ (List.mem_of_getElem? (i := 2) rfl)) (fun d hd => hcalls.1 d hd) sH sL sA SG1 nG1 rG3 SG3 sV pA pE pF sF pl0 pl1 pl2 pl3 p e ha hc hk s m _ below hf ((Spec.applies_iff_loose hf).mp happ).1 ⟨rfl, State.Warmed39.refl s, rfl, IB.start⟩ trivial
  have N := Fk.fr N'
  refine ⟨n, _, h1, h2, h3, hpost _ _ _ _ _ _ ⟨Cond.after_iff.mpr rfl, Cond.after_iff.mpr (eq_i res_at (Term.int_eval (1)) rfl), trivial⟩ ⟨hq.1, hq.2.1, hq.2.2.1, (hq.2.2.2.sift fun y hy => Or.inr (N y hy)).mono (by decide) (by decide)⟩⟩
theorem main_1_1 : Claimed_1_1 := comes_1 fun _ _ _ _ _ _ h hF => ⟨h.1, hF⟩
theorem main_1_2 : Claimed_1_2 := comes_1 fun _ _ _ _ _ _ h hF => ⟨h.2.1, hF⟩
end Jvm.Pilot.@@N@@
namespace Jvm.Pilot.@@N@@
open Jvm Jvm.ClassFile Sem Op Lib Jvm.Free Jvm.Stand Jvm.Pilot.@@N@@.Jvm.D
/-! MADE BY PROGRAM (witnessworld.py) out of the Statement's table words and the real class files: 22 classes; the members and pool entries that the words name. The judged class is class 1, her method 1. -/
namespace start1
open Jvm.ClassFile
def u (s : String) : CpInfo := .utf8 (stringToUtf16 s)
/-- a pool by its gaps: so many unusable entries, then the entry; so many at the end -/
def gap : Nat → List CpInfo → List CpInfo
  | 0, r => r
  | n + 1, r => .unusable :: gap n r
def poolList (es : List (Nat × CpInfo)) (last : Nat) : List CpInfo := es.foldr (fun e r => gap e.1 (e.2 :: r)) (gap last [])
def pool (es : List (Nat × CpInfo)) (last : Nat) : Array CpInfo := ⟨poolList es last⟩
def fileOf (pool : Array CpInfo) (this : Nat) (attrs : Array Attribute := #[]) (ms : Array MethodInfo := #[]) (fl : Nat := 33) (sup : Nat := 0) (ifs : Array Nat := #[]) (fds : Array FieldInfo := #[]) : ClassFile where
  minorVersion := 0
  majorVersion := 65
  constantPool := pool
  accessFlags := fl
  thisClass := this
  superClass := sup
  interfaces := ifs
  fields := fds
  methods := ms
  attributes := attrs
def plain (name : String) (sup : Option ClassId) : Class where
  name := name
  kind := .ordinary
  loader := none
  accessFlags := 33
  super := sup
  interfaces := #[]
  cf := none
  fields := #[]
  methods := #[]
  instanceTypes := #[]
  staticTypes := #[]
  resolved := #[]
  callSites := []
  init := .initialized
  statics := none
  mirror := none

def pool0 : Array CpInfo := pool [(5, u "<init>"), (0, u "()V"), (1, .class_ 10), (1, u "java/lang/Object"), (85, u "clone"), (0, u "()Ljava/lang/Object;")] 26

def k0c0 : Code := { maxStack := 0, maxLocals := 1, code := object_method_1_code, exceptionTable := #[], attributes := #[] }
def k0m0 : Method := { name := "<init>", desc := "()V", sig := { parameters := [], returnType := none }, accessFlags := 1, code := some k0c0 }
def k0m1 : Method := { name := "clone", desc := "()Ljava/lang/Object;", sig := { parameters := [], returnType := some (.object "java/lang/Object") }, accessFlags := 260, code := none }
/-- java/lang/Object -/
def k0 : Class := { plain "java/lang/Object" none with
  accessFlags := 33
  interfaces := #[]
  cf := some (fileOf pool0 8 #[] #[{ accessFlags := 1, nameIndex := 5, descriptorIndex := 6, attributes := #[] }, { accessFlags := 260, nameIndex := 96, descriptorIndex := 97, attributes := #[] }] 33 0 #[] #[])
  fields := #[]
  methods := #[k0m0, k0m1]
  instanceTypes := #[]
  staticTypes := #[]
  resolved := Array.replicate 124 none
  statics := none }

def pool1 : Array CpInfo := pool [(2, .class_ 4), (1, u "java/lang/Object"), (0, u "<init>"), (0, u "()V"), (0, .string 8), (0, u "fixed-plus-ii"), (0, .integer 2147483647), (0, .integer 65535), (0, .methodref 12 13), (0, .class_ 14), (0, .nameAndType 15 16), (0, u "java/lang/String"), (0, u "charAt"), (0, u "(I)C"), (0, .methodref 12 18), (0, .nameAndType 5 19), (0, u "([C)V"), (0, .methodref 21 22), (0, .class_ 23), (0, .nameAndType 24 25), (0, u "com/example/accumulus/accumulus/terms/FixedOption"), (0, u "withLabel"), (0, u "(Ljava/lang/String;)Lcom/example/accumulus/accumulus/terms/FixedOption;"), (0, .fieldref 21 27), (0, .nameAndType 28 29), (0, u "FIXED_PLUS_II"), (0, u "Lcom/example/accumulus/accumulus/terms/FixedOption;"), (0, .class_ 31), (0, u "com/example/accumulus/accumulus/terms/FixedOptionWithLabelPinLaw"), (2, u "law"), (0, u "(IIII)Z")] 5

def k1m0 : Method := { name := "<init>", desc := "()V", sig := { parameters := [], returnType := none }, accessFlags := 1, code := none }
def k1c1 : Code := { maxStack := 4, maxLocals := 15, code := code, exceptionTable := #[], attributes := #[] }
def k1m1 : Method := { name := "law", desc := "(IIII)Z", sig := { parameters := [.int, .int, .int, .int], returnType := some .boolean }, accessFlags := 9, code := some k1c1 }
/-- com/example/accumulus/accumulus/terms/FixedOptionWithLabelPinLaw -/
def k1 : Class := { plain "com/example/accumulus/accumulus/terms/FixedOptionWithLabelPinLaw" (some 0) with
  accessFlags := 49
  interfaces := #[]
  cf := some (fileOf pool1 30 #[] #[{ accessFlags := 1, nameIndex := 5, descriptorIndex := 6, attributes := #[] }, { accessFlags := 9, nameIndex := 34, descriptorIndex := 35, attributes := #[] }] 49 2 #[] #[])
  fields := #[]
  methods := #[k1m0, k1m1]
  instanceTypes := #[]
  staticTypes := #[]
  resolved := Array.replicate 41 none
  statics := none }

def pool2 : Array CpInfo := pool [(1, .class_ 2), (0, u "java/io/Serializable"), (0, .class_ 4), (0, u "java/lang/Object")] 2

/-- java/io/Serializable -/
def k2 : Class := { plain "java/io/Serializable" (some 0) with
  accessFlags := 1537
  interfaces := #[]
  cf := some (fileOf pool2 1 #[] #[] 1537 3 #[] #[])
  fields := #[]
  methods := #[]
  instanceTypes := #[]
  staticTypes := #[]
  resolved := Array.replicate 7 none
  statics := none }

def pool3 : Array CpInfo := pool [(1, .class_ 2), (0, u "java/lang/Comparable"), (0, .class_ 4), (0, u "java/lang/Object")] 7

/-- java/lang/Comparable -/
def k3 : Class := { plain "java/lang/Comparable" (some 0) with
  accessFlags := 1537
  interfaces := #[]
  cf := some (fileOf pool3 1 #[] #[] 1537 3 #[] #[])
  fields := #[]
  methods := #[]
  instanceTypes := #[]
  staticTypes := #[]
  resolved := Array.replicate 12 none
  statics := none }

def pool4 : Array CpInfo := pool [(2, .class_ 4), (1, u "java/lang/CharSequence"), (42, .class_ 48), (0, u "java/lang/CharSequence$1CodePointIterator"), (10, .class_ 60), (0, u "java/lang/CharSequence$1CharIterator"), (5, .class_ 67), (0, u "java/lang/Object")] 63

/-- java/lang/CharSequence -/
def k4 : Class := { plain "java/lang/CharSequence" (some 0) with
  accessFlags := 1537
  interfaces := #[]
  cf := some (fileOf pool4 2 #[.nestMembers #[47, 59]] #[] 1537 66 #[] #[])
  fields := #[]
  methods := #[]
  instanceTypes := #[]
  staticTypes := #[]
  resolved := Array.replicate 131 none
  statics := none }

def pool5 : Array CpInfo := pool [(1, .class_ 2), (0, u "java/lang/constant/Constable"), (0, .class_ 4), (0, u "java/lang/Object")] 6

/-- java/lang/constant/Constable -/
def k5 : Class := { plain "java/lang/constant/Constable" (some 0) with
  accessFlags := 1537
  interfaces := #[]
  cf := some (fileOf pool5 1 #[] #[] 1537 3 #[] #[])
  fields := #[]
  methods := #[]
  instanceTypes := #[]
  staticTypes := #[]
  resolved := Array.replicate 11 none
  statics := none }

def pool6 : Array CpInfo := pool [(1, .class_ 2), (0, u "java/lang/constant/ConstantDesc"), (0, .class_ 4), (0, u "java/lang/Object")] 32

/-- java/lang/constant/ConstantDesc -/
def k6 : Class := { plain "java/lang/constant/ConstantDesc" (some 0) with
  accessFlags := 1537
  interfaces := #[]
  cf := some (fileOf pool6 1 #[] #[] 1537 3 #[] #[])
  fields := #[]
  methods := #[]
  instanceTypes := #[]
  staticTypes := #[]
  resolved := Array.replicate 37 none
  statics := none }

def pool7 : Array CpInfo := pool [(1, .methodref 2 3), (0, .class_ 4), (0, .nameAndType 5 6), (0, u "java/lang/Object"), (0, u "<init>"), (0, u "()V"), (2, .fieldref 10 11), (0, .class_ 12), (0, .nameAndType 13 14), (0, u "java/lang/String"), (0, u "value"), (0, u "[B"), (0, .fieldref 10 16), (0, .nameAndType 17 18), (0, u "coder"), (0, u "B"), (2, u "hash"), (0, u "I"), (2, u "hashIsZero"), (0, u "Z"), (0, .methodref 10 28), (0, .nameAndType 5 29), (0, u "([CIILjava/lang/Void;)V"), (8, .fieldref 10 39), (0, .nameAndType 40 26), (0, u "COMPACT_STRINGS"), (1, .class_ 44), (1, u "java/lang/StringUTF16"), (0, u "compress"), (1, .methodref 42 48), (0, .nameAndType 49 50), (0, u "coderFromArrayLen"), (0, u "([BI)B"), (56, .class_ 109), (1, u "java/lang/StringLatin1"), (32, u "()Z"), (34, .methodref 42 178), (0, .nameAndType 45 179), (0, u "([CII)[B"), (183, u "([BI)C"), (27, u "(II)V"), (35, u "(I)C"), (64, .methodref 10 493), (0, .nameAndType 494 142), (0, u "isLatin1"), (0, .methodref 107 496), (0, .nameAndType 497 363), (0, u "charAt"), (3, u "checkIndex"), (39, .methodref 107 542), (0, .nameAndType 543 544), (0, u "equals"), (0, u "([B[B)Z"), (28, u "(Ljava/lang/Object;)Z"), (1, .class_ 576), (0, u "java/lang/CharSequence"), (22, u "CASE_INSENSITIVE_ORDER"), (0, u "Ljava/util/Comparator;"), (409, u "([C)V"), (42, .fieldref 1054 1055), (0, .class_ 1056), (0, .nameAndType 1057 1058), (0, u "jdk/internal/util/Preconditions"), (0, u "SIOOBE_FORMATTER"), (0, u "Ljava/util/function/BiFunction;"), (0, .methodref 1054 1060), (0, .nameAndType 501 1061), (0, u "(IILjava/util/function/BiFunction;)I"), (39, u "serialPersistentFields"), (0, u "[Ljava/io/ObjectStreamField;"), (0, .class_ 1104), (0, u "java/lang/String$CaseInsensitiveComparator"), (1, .class_ 1107), (0, u "java/io/Serializable"), (0, .class_ 1109), (0, u "java/lang/Comparable"), (0, .class_ 1111), (0, u "java/lang/constant/Constable"), (0, .class_ 1113), (0, u "java/lang/constant/ConstantDesc"), (2, u "serialVersionUID"), (0, u "J"), (3, u "REPL"), (0, u "C"), (2, u "LATIN1"), (1, u "UTF16")] 323

def k7m0 : Method := { name := "<init>", desc := "()V", sig := { parameters := [], returnType := none }, accessFlags := 1, code := none }
def k7c1 : Code := { maxStack := 5, maxLocals := 2, code := jdk_42_method_3_code, exceptionTable := #[], attributes := #[] }
def k7m1 : Method := { name := "<init>", desc := "([C)V", sig := { parameters := [(.array .char)], returnType := none }, accessFlags := 1, code := some k7c1 }
def k7c2 : Code := { maxStack := 2, maxLocals := 2, code := jdk_42_method_56_code, exceptionTable := #[], attributes := #[] }
def k7m2 : Method := { name := "charAt", desc := "(I)C", sig := { parameters := [.int], returnType := some .char }, accessFlags := 1, code := some k7c2 }
def k7c3 : Code := { maxStack := 2, maxLocals := 3, code := jdk_42_method_66_code, exceptionTable := #[], attributes := #[] }
def k7m3 : Method := { name := "equals", desc := "(Ljava/lang/Object;)Z", sig := { parameters := [(.object "java/lang/Object")], returnType := some .boolean }, accessFlags := 1, code := some k7c3 }
def k7c4 : Code := { maxStack := 4, maxLocals := 6, code := jdk_42_method_149_code, exceptionTable := #[], attributes := #[] }
def k7m4 : Method := { name := "<init>", desc := "([CIILjava/lang/Void;)V", sig := { parameters := [(.array .char), .int, .int, (.object "java/lang/Void")], returnType := none }, accessFlags := 2, code := some k7c4 }
def k7c5 : Code := { maxStack := 1, maxLocals := 1, code := jdk_42_method_154_code, exceptionTable := #[], attributes := #[] }
def k7m5 : Method := { name := "isLatin1", desc := "()Z", sig := { parameters := [], returnType := some .boolean }, accessFlags := 0, code := some k7c5 }
def k7c6 : Code := { maxStack := 3, maxLocals := 2, code := jdk_42_method_155_code, exceptionTable := #[], attributes := #[] }
def k7m6 : Method := { name := "checkIndex", desc := "(II)V", sig := { parameters := [.int, .int], returnType := none }, accessFlags := 8, code := some k7c6 }
/-- java/lang/String -/
def k7 : Class := { plain "java/lang/String" (some 0) with
  accessFlags := 49
  interfaces := #[2, 3, 4, 5, 6]
  cf := some (fileOf pool7 10 #[.nestMembers #[1103]] #[{ accessFlags := 1, nameIndex := 5, descriptorIndex := 6, attributes := #[] }, { accessFlags := 1, nameIndex := 5, descriptorIndex := 1010, attributes := #[] }, { accessFlags := 1, nameIndex := 497, descriptorIndex := 427, attributes := #[] }, { accessFlags := 1, nameIndex := 543, descriptorIndex := 573, attributes := #[] }, { accessFlags := 2, nameIndex := 5, descriptorIndex := 29, attributes := #[] }, { accessFlags := 0, nameIndex := 494, descriptorIndex := 142, attributes := #[] }, { accessFlags := 8, nameIndex := 501, descriptorIndex := 391, attributes := #[] }] 49 2 #[1106, 1108, 575, 1110, 1112] #[{ accessFlags := 18, nameIndex := 13, descriptorIndex := 14, attributes := #[] }, { accessFlags := 18, nameIndex := 17, descriptorIndex := 18, attributes := #[] }, { accessFlags := 2, nameIndex := 21, descriptorIndex := 22, attributes := #[] }, { accessFlags := 2, nameIndex := 25, descriptorIndex := 26, attributes := #[] }, { accessFlags := 26, nameIndex := 1116, descriptorIndex := 1117, attributes := #[] }, { accessFlags := 24, nameIndex := 40, descriptorIndex := 26, attributes := #[] }, { accessFlags := 26, nameIndex := 1101, descriptorIndex := 1102, attributes := #[] }, { accessFlags := 26, nameIndex := 1121, descriptorIndex := 1122, attributes := #[] }, { accessFlags := 25, nameIndex := 599, descriptorIndex := 600, attributes := #[] }, { accessFlags := 24, nameIndex := 1125, descriptorIndex := 18, attributes := #[] }, { accessFlags := 24, nameIndex := 1127, descriptorIndex := 18, attributes := #[] }])
  fields := #[{ name := "value", type := (.array .byte), accessFlags := 18, slot := 0, constantValue := 0 }, { name := "coder", type := .byte, accessFlags := 18, slot := 1, constantValue := 0 }, { name := "hash", type := .int, accessFlags := 2, slot := 2, constantValue := 0 }, { name := "hashIsZero", type := .boolean, accessFlags := 2, slot := 3, constantValue := 0 }, { name := "serialVersionUID", type := .long, accessFlags := 26, slot := 0, constantValue := 0 }, { name := "COMPACT_STRINGS", type := .boolean, accessFlags := 24, slot := 1, constantValue := 0 }, { name := "serialPersistentFields", type := (.array (.object "java/io/ObjectStreamField")), accessFlags := 26, slot := 2, constantValue := 0 }, { name := "REPL", type := .char, accessFlags := 26, slot := 3, constantValue := 0 }, { name := "CASE_INSENSITIVE_ORDER", type := (.object "java/util/Comparator"), accessFlags := 25, slot := 4, constantValue := 0 }, { name := "LATIN1", type := .byte, accessFlags := 24, slot := 5, constantValue := 0 }, { name := "UTF16", type := .byte, accessFlags := 24, slot := 6, constantValue := 0 }]
  methods := #[k7m0, k7m1, k7m2, k7m3, k7m4, k7m5, k7m6]
  instanceTypes := #[(.array .byte), .byte, .int, .boolean]
  staticTypes := #[.long, .boolean, (.array (.object "java/io/ObjectStreamField")), .char, (.object "java/util/Comparator"), .byte, .byte]
  resolved := Array.replicate 1451 none
  statics := some 0 }

def pool8 : Array CpInfo := pool [(1, .class_ 2), (0, u "java/lang/String"), (1, .class_ 6), (1, u "java/lang/Object"), (0, u "<init>"), (0, u "()V"), (0, .methodref 1 10), (0, .nameAndType 11 12), (0, u "checkIndex"), (0, u "(II)V"), (1, .class_ 16), (1, u "java/lang/StringLatin1"), (36, u "([BI)C"), (67, u "$assertionsDisabled"), (0, u "Z"), (98, .class_ 223), (1, u "java/lang/StringLatin1$LinesSpliterator"), (28, u "charAt"), (28, u "equals"), (0, u "([B[B)Z"), (107, .class_ 391), (0, u "java/lang/StringLatin1$CharsSpliterator")] 3

def k8m0 : Method := { name := "<init>", desc := "()V", sig := { parameters := [], returnType := none }, accessFlags := 0, code := none }
def k8c1 : Code := { maxStack := 2, maxLocals := 2, code := jdk_43_method_2_code, exceptionTable := #[], attributes := #[] }
def k8m1 : Method := { name := "charAt", desc := "([BI)C", sig := { parameters := [(.array .byte), .int], returnType := some .char }, accessFlags := 9, code := some k8c1 }
def k8c2 : Code := { maxStack := 3, maxLocals := 3, code := jdk_43_method_13_code, exceptionTable := #[], attributes := #[] }
def k8m2 : Method := { name := "equals", desc := "([B[B)Z", sig := { parameters := [(.array .byte), (.array .byte)], returnType := some .boolean }, accessFlags := 9, code := some k8c2 }
/-- java/lang/StringLatin1 -/
def k8 : Class := { plain "java/lang/StringLatin1" (some 0) with
  accessFlags := 48
  interfaces := #[]
  cf := some (fileOf pool8 14 #[.nestMembers #[390, 221]] #[{ accessFlags := 0, nameIndex := 7, descriptorIndex := 8, attributes := #[] }, { accessFlags := 9, nameIndex := 252, descriptorIndex := 53, attributes := #[] }, { accessFlags := 9, nameIndex := 281, descriptorIndex := 282, attributes := #[] }] 48 4 #[] #[{ accessFlags := 4120, nameIndex := 121, descriptorIndex := 122, attributes := #[] }])
  fields := #[{ name := "$assertionsDisabled", type := .boolean, accessFlags := 4120, slot := 0, constantValue := 0 }]
  methods := #[k8m0, k8m1, k8m2]
  instanceTypes := #[]
  staticTypes := #[.boolean]
  resolved := Array.replicate 395 none
  statics := none }

def pool9 : Array CpInfo := pool [(2, .class_ 4), (1, u "java/lang/Object"), (0, u "<init>"), (0, u "()V"), (17, .class_ 26), (1, u "jdk/internal/util/Preconditions"), (6, u "checkIndex"), (21, .class_ 56), (0, u "jdk/internal/util/Preconditions$4"), (57, .class_ 115), (0, u "jdk/internal/util/Preconditions$1"), (7, u "SIOOBE_FORMATTER"), (0, u "Ljava/util/function/BiFunction;"), (0, .class_ 126), (0, u "jdk/internal/util/Preconditions$2"), (3, u "AIOOBE_FORMATTER"), (0, .class_ 132), (0, u "jdk/internal/util/Preconditions$3"), (3, u "IOOBE_FORMATTER"), (41, u "(IILjava/util/function/BiFunction;)I")] 15

def k9m0 : Method := { name := "<init>", desc := "()V", sig := { parameters := [], returnType := none }, accessFlags := 1, code := none }
def k9c1 : Code := { maxStack := 3, maxLocals := 3, code := jdk_41_method_11_code, exceptionTable := #[], attributes := #[] }
def k9m1 : Method := { name := "checkIndex", desc := "(IILjava/util/function/BiFunction;)I", sig := { parameters := [.int, .int, (.object "java/util/function/BiFunction")], returnType := some .int }, accessFlags := 9, code := some k9c1 }
/-- jdk/internal/util/Preconditions -/
def k9 : Class := { plain "jdk/internal/util/Preconditions" (some 0) with
  accessFlags := 33
  interfaces := #[]
  cf := some (fileOf pool9 24 #[.nestMembers #[55, 131, 125, 114]] #[{ accessFlags := 1, nameIndex := 5, descriptorIndex := 6, attributes := #[] }, { accessFlags := 9, nameIndex := 33, descriptorIndex := 178, attributes := #[] }] 33 2 #[] #[{ accessFlags := 25, nameIndex := 123, descriptorIndex := 124, attributes := #[] }, { accessFlags := 25, nameIndex := 130, descriptorIndex := 124, attributes := #[] }, { accessFlags := 25, nameIndex := 136, descriptorIndex := 124, attributes := #[] }])
  fields := #[{ name := "SIOOBE_FORMATTER", type := (.object "java/util/function/BiFunction"), accessFlags := 25, slot := 0, constantValue := 0 }, { name := "AIOOBE_FORMATTER", type := (.object "java/util/function/BiFunction"), accessFlags := 25, slot := 1, constantValue := 0 }, { name := "IOOBE_FORMATTER", type := (.object "java/util/function/BiFunction"), accessFlags := 25, slot := 2, constantValue := 0 }]
  methods := #[k9m0, k9m1]
  instanceTypes := #[]
  staticTypes := #[(.object "java/util/function/BiFunction"), (.object "java/util/function/BiFunction"), (.object "java/util/function/BiFunction")]
  resolved := Array.replicate 194 none
  statics := some 1 }

def pool10 : Array CpInfo := pool [(6, .class_ 8), (1, u "java/lang/Object"), (0, u "<init>"), (0, u "()V"), (0, .methodref 12 13), (0, .class_ 14), (0, .nameAndType 15 16), (0, u "java/lang/StringUTF16"), (0, u "newBytesLength"), (0, u "(I)I"), (3, .integer 1073741823), (23, .fieldref 12 45), (0, .nameAndType 46 47), (0, u "$assertionsDisabled"), (0, u "Z"), (11, .fieldref 12 60), (0, .nameAndType 61 62), (0, u "HI_BYTE_SHIFT"), (0, u "I"), (0, .fieldref 12 64), (0, .nameAndType 65 62), (0, u "LO_BYTE_SHIFT"), (5, .methodref 12 72), (0, .nameAndType 73 74), (0, u "getChar"), (0, u "([BI)C"), (32, .methodref 12 108), (0, .nameAndType 109 110), (0, u "newBytesFor"), (0, u "(I)[B"), (0, .methodref 12 112), (0, .nameAndType 113 114), (0, u "putChar"), (0, u "([BII)V"), (0, .methodref 12 116), (0, .nameAndType 117 118), (0, u "compress"), (0, u "([CI[BII)I"), (0, .methodref 12 120), (0, .nameAndType 121 122), (0, u "toBytes"), (0, u "([CII)[B"), (138, u "coderFromArrayLen"), (0, u "([BI)B"), (106, .class_ 371), (1, u "java/lang/StringUTF16$LinesSpliterator"), (58, u "MAX_LENGTH"), (196, .class_ 628), (0, u "java/lang/StringUTF16$CodePointsSpliterator"), (0, .class_ 630), (0, u "java/lang/StringUTF16$CharsSpliterator")] 4

def k10m0 : Method := { name := "<init>", desc := "()V", sig := { parameters := [], returnType := none }, accessFlags := 0, code := none }
def k10c1 : Code := { maxStack := 1, maxLocals := 1, code := jdk_52_method_2_code, exceptionTable := #[], attributes := #[] }
def k10m1 : Method := { name := "newBytesFor", desc := "(I)[B", sig := { parameters := [.int], returnType := some (.array .byte) }, accessFlags := 9, code := some k10c1 }
def k10c2 : Code := { maxStack := 4, maxLocals := 1, code := jdk_52_method_3_code, exceptionTable := #[], attributes := #[] }
def k10m2 : Method := { name := "newBytesLength", desc := "(I)I", sig := { parameters := [.int], returnType := some .int }, accessFlags := 9, code := some k10c2 }
def k10c3 : Code := { maxStack := 4, maxLocals := 3, code := jdk_52_method_4_code, exceptionTable := #[], attributes := #[] }
def k10m3 : Method := { name := "putChar", desc := "([BII)V", sig := { parameters := [(.array .byte), .int, .int], returnType := none }, accessFlags := 8, code := some k10c3 }
def k10c4 : Code := { maxStack := 3, maxLocals := 2, code := jdk_52_method_5_code, exceptionTable := #[], attributes := #[] }
def k10m4 : Method := { name := "getChar", desc := "([BI)C", sig := { parameters := [(.array .byte), .int], returnType := some .char }, accessFlags := 8, code := some k10c4 }
def k10c5 : Code := { maxStack := 4, maxLocals := 5, code := jdk_52_method_14_code, exceptionTable := #[], attributes := #[] }
def k10m5 : Method := { name := "toBytes", desc := "([CII)[B", sig := { parameters := [(.array .char), .int, .int], returnType := some (.array .byte) }, accessFlags := 9, code := some k10c5 }
def k10c6 : Code := { maxStack := 2, maxLocals := 2, code := jdk_52_method_15_code, exceptionTable := #[], attributes := #[] }
def k10m6 : Method := { name := "coderFromArrayLen", desc := "([BI)B", sig := { parameters := [(.array .byte), .int], returnType := some .byte }, accessFlags := 8, code := some k10c6 }
def k10c7 : Code := { maxStack := 5, maxLocals := 6, code := jdk_52_method_16_code, exceptionTable := #[], attributes := #[] }
def k10m7 : Method := { name := "compress", desc := "([CII)[B", sig := { parameters := [(.array .char), .int, .int], returnType := some (.array .byte) }, accessFlags := 9, code := some k10c7 }
def k10c8 : Code := { maxStack := 3, maxLocals := 7, code := jdk_52_method_21_code, exceptionTable := #[], attributes := #[] }
def k10m8 : Method := { name := "compress", desc := "([CI[BII)I", sig := { parameters := [(.array .char), .int, (.array .byte), .int, .int], returnType := some .int }, accessFlags := 9, code := some k10c8 }
/-- java/lang/StringUTF16 -/
def k10 : Class := { plain "java/lang/StringUTF16" (some 0) with
  accessFlags := 48
  interfaces := #[]
  cf := some (fileOf pool10 12 #[.nestMembers #[627, 629, 369]] #[{ accessFlags := 0, nameIndex := 9, descriptorIndex := 10, attributes := #[] }, { accessFlags := 9, nameIndex := 109, descriptorIndex := 110, attributes := #[] }, { accessFlags := 9, nameIndex := 15, descriptorIndex := 16, attributes := #[] }, { accessFlags := 8, nameIndex := 113, descriptorIndex := 114, attributes := #[] }, { accessFlags := 8, nameIndex := 73, descriptorIndex := 74, attributes := #[] }, { accessFlags := 9, nameIndex := 121, descriptorIndex := 122, attributes := #[] }, { accessFlags := 8, nameIndex := 261, descriptorIndex := 262, attributes := #[] }, { accessFlags := 9, nameIndex := 117, descriptorIndex := 122, attributes := #[] }, { accessFlags := 9, nameIndex := 117, descriptorIndex := 118, attributes := #[] }] 48 6 #[] #[{ accessFlags := 26, nameIndex := 61, descriptorIndex := 62, attributes := #[] }, { accessFlags := 26, nameIndex := 65, descriptorIndex := 62, attributes := #[] }, { accessFlags := 24, nameIndex := 430, descriptorIndex := 62, attributes := #[] }, { accessFlags := 4120, nameIndex := 46, descriptorIndex := 47, attributes := #[] }])
  fields := #[{ name := "HI_BYTE_SHIFT", type := .int, accessFlags := 26, slot := 0, constantValue := 0 }, { name := "LO_BYTE_SHIFT", type := .int, accessFlags := 26, slot := 1, constantValue := 0 }, { name := "MAX_LENGTH", type := .int, accessFlags := 24, slot := 2, constantValue := 0 }, { name := "$assertionsDisabled", type := .boolean, accessFlags := 4120, slot := 3, constantValue := 0 }]
  methods := #[k10m0, k10m1, k10m2, k10m3, k10m4, k10m5, k10m6, k10m7, k10m8]
  instanceTypes := #[]
  staticTypes := #[.int, .int, .int, .boolean]
  resolved := Array.replicate 635 none
  statics := some 2 }

def pool11 : Array CpInfo := pool [(2, .class_ 4), (1, u "java/lang/Enum"), (0, u "name"), (0, u "Ljava/lang/String;"), (2, u "ordinal"), (0, u "I"), (1, .class_ 14), (1, u "java/lang/Object"), (4, u "hash"), (86, .class_ 108), (1, u "java/lang/Enum$EnumDesc"), (2, .class_ 112), (0, u "java/lang/constant/Constable"), (0, .class_ 114), (0, u "java/lang/Comparable"), (0, .class_ 116), (0, u "java/io/Serializable")] 87

/-- java/lang/Enum -/
def k11 : Class := { plain "java/lang/Enum" (some 0) with
  accessFlags := 1057
  interfaces := #[5, 3, 2]
  cf := some (fileOf pool11 2 #[.nestMembers #[106]] #[] 1057 12 #[111, 113, 115] #[{ accessFlags := 18, nameIndex := 5, descriptorIndex := 6, attributes := #[] }, { accessFlags := 18, nameIndex := 9, descriptorIndex := 10, attributes := #[] }, { accessFlags := 2, nameIndex := 19, descriptorIndex := 10, attributes := #[] }])
  fields := #[{ name := "name", type := (.object "java/lang/String"), accessFlags := 18, slot := 0, constantValue := 0 }, { name := "ordinal", type := .int, accessFlags := 18, slot := 1, constantValue := 0 }, { name := "hash", type := .int, accessFlags := 2, slot := 2, constantValue := 0 }]
  methods := #[]
  instanceTypes := #[(.object "java/lang/String"), .int, .int]
  staticTypes := #[]
  resolved := Array.replicate 204 none
  statics := none }

def pool12 : Array CpInfo := pool [(1, .class_ 2), (0, u "com/example/accumulus/accumulus/terms/FixedOption"), (2, u "FIXED_PLUS_II"), (0, u "Lcom/example/accumulus/accumulus/terms/FixedOption;"), (0, .fieldref 1 8), (0, .nameAndType 9 10), (0, u "$VALUES"), (0, u "[Lcom/example/accumulus/accumulus/terms/FixedOption;"), (0, .methodref 12 13), (0, .class_ 10), (0, .nameAndType 14 15), (0, u "clone"), (0, u "()Ljava/lang/Object;"), (1, .class_ 19), (1, u "java/lang/Enum"), (12, .fieldref 1 33), (0, .nameAndType 34 35), (0, u "label"), (0, u "Ljava/lang/String;"), (2, u "title"), (2, u "section"), (0, .methodref 1 43), (0, .nameAndType 44 45), (0, u "values"), (0, u "()[Lcom/example/accumulus/accumulus/terms/FixedOption;"), (0, .methodref 47 48), (0, .class_ 49), (0, .nameAndType 50 51), (0, u "java/lang/String"), (0, u "equals"), (0, u "(Ljava/lang/Object;)Z"), (13, u "(Ljava/lang/String;)Lcom/example/accumulus/accumulus/terms/FixedOption;"), (3, u "withLabel")] 7

def k12c0 : Code := { maxStack := 1, maxLocals := 0, code := prog_68_method_1_code, exceptionTable := #[], attributes := #[] }
def k12m0 : Method := { name := "values", desc := "()[Lcom/example/accumulus/accumulus/terms/FixedOption;", sig := { parameters := [], returnType := some (.array (.object "com/example/accumulus/accumulus/terms/FixedOption")) }, accessFlags := 9, code := some k12c0 }
def k12c1 : Code := { maxStack := 2, maxLocals := 5, code := prog_68_method_4_code, exceptionTable := #[], attributes := #[] }
def k12m1 : Method := { name := "withLabel", desc := "(Ljava/lang/String;)Lcom/example/accumulus/accumulus/terms/FixedOption;", sig := { parameters := [(.object "java/lang/String")], returnType := some (.object "com/example/accumulus/accumulus/terms/FixedOption") }, accessFlags := 9, code := some k12c1 }
/-- com/example/accumulus/accumulus/terms/FixedOption -/
def k12 : Class := { plain "com/example/accumulus/accumulus/terms/FixedOption" (some 11) with
  accessFlags := 16433
  interfaces := #[]
  cf := some (fileOf pool12 1 #[] #[{ accessFlags := 9, nameIndex := 44, descriptorIndex := 45, attributes := #[] }, { accessFlags := 9, nameIndex := 69, descriptorIndex := 65, attributes := #[] }] 16433 17 #[] #[{ accessFlags := 16409, nameIndex := 5, descriptorIndex := 6, attributes := #[] }, { accessFlags := 18, nameIndex := 34, descriptorIndex := 35, attributes := #[] }, { accessFlags := 18, nameIndex := 38, descriptorIndex := 35, attributes := #[] }, { accessFlags := 18, nameIndex := 41, descriptorIndex := 35, attributes := #[] }, { accessFlags := 4122, nameIndex := 9, descriptorIndex := 10, attributes := #[] }])
  fields := #[{ name := "FIXED_PLUS_II", type := (.object "com/example/accumulus/accumulus/terms/FixedOption"), accessFlags := 16409, slot := 0, constantValue := 0 }, { name := "label", type := (.object "java/lang/String"), accessFlags := 18, slot := 3, constantValue := 0 }, { name := "title", type := (.object "java/lang/String"), accessFlags := 18, slot := 4, constantValue := 0 }, { name := "section", type := (.object "java/lang/String"), accessFlags := 18, slot := 5, constantValue := 0 }, { name := "$VALUES", type := (.array (.object "com/example/accumulus/accumulus/terms/FixedOption")), accessFlags := 4122, slot := 1, constantValue := 0 }]
  methods := #[k12m0, k12m1]
  instanceTypes := #[(.object "java/lang/String"), .int, .int, (.object "java/lang/String"), (.object "java/lang/String"), (.object "java/lang/String")]
  staticTypes := #[(.object "com/example/accumulus/accumulus/terms/FixedOption"), (.array (.object "com/example/accumulus/accumulus/terms/FixedOption"))]
  resolved := Array.replicate 77 none
  statics := some 3 }

def pool13 : Array CpInfo := pool [(1, .class_ 2), (0, u "java/lang/Cloneable"), (0, .class_ 4), (0, u "java/lang/Object")] 2

/-- java/lang/Cloneable -/
def k13 : Class := { plain "java/lang/Cloneable" (some 0) with
  accessFlags := 1537
  interfaces := #[]
  cf := some (fileOf pool13 1 #[] #[] 1537 3 #[] #[])
  fields := #[]
  methods := #[]
  instanceTypes := #[]
  staticTypes := #[]
  resolved := Array.replicate 7 none
  statics := none }

def pool14 : Array CpInfo := pool [(9, u "<init>"), (6, .class_ 18), (1, u "java/lang/Object"), (0, u "()V"), (1, .class_ 23), (1, u "jdk/internal/util/ArraysSupport"), (0, u "LOG2_ARRAY_LONG_INDEX_SCALE"), (0, u "I"), (2, u "U"), (0, u "Ljdk/internal/misc/Unsafe;"), (8, u "BIG_ENDIAN"), (0, u "Z"), (8, u "LOG2_BYTE_BIT_SIZE"), (4, u "LOG2_ARRAY_INT_INDEX_SCALE"), (54, u "JLA"), (0, u "Ljdk/internal/access/JavaLangAccess;"), (11, u "LOG2_ARRAY_BOOLEAN_INDEX_SCALE"), (9, u "LOG2_ARRAY_BYTE_INDEX_SCALE"), (5, u "LOG2_ARRAY_CHAR_INDEX_SCALE"), (5, u "LOG2_ARRAY_SHORT_INDEX_SCALE"), (18, u "LOG2_ARRAY_FLOAT_INDEX_SCALE"), (24, u "LOG2_ARRAY_DOUBLE_INDEX_SCALE"), (89, u "T_BOOLEAN"), (2, u "T_CHAR"), (1, u "T_FLOAT"), (1, u "T_DOUBLE"), (1, u "T_BYTE"), (1, u "T_SHORT"), (1, u "T_INT"), (1, u "T_LONG"), (1, u "SOFT_MAX_ARRAY_LENGTH")] 83

def k14m0 : Method := { name := "<init>", desc := "()V", sig := { parameters := [], returnType := none }, accessFlags := 2, code := none }
/-- jdk/internal/util/ArraysSupport -/
def k14 : Class := { plain "jdk/internal/util/ArraysSupport" (some 0) with
  accessFlags := 33
  interfaces := #[]
  cf := some (fileOf pool14 21 #[] #[{ accessFlags := 2, nameIndex := 9, descriptorIndex := 19, attributes := #[] }] 33 16 #[] #[{ accessFlags := 24, nameIndex := 28, descriptorIndex := 29, attributes := #[] }, { accessFlags := 26, nameIndex := 38, descriptorIndex := 39, attributes := #[] }, { accessFlags := 25, nameIndex := 121, descriptorIndex := 25, attributes := #[] }, { accessFlags := 25, nameIndex := 131, descriptorIndex := 25, attributes := #[] }, { accessFlags := 25, nameIndex := 137, descriptorIndex := 25, attributes := #[] }, { accessFlags := 25, nameIndex := 143, descriptorIndex := 25, attributes := #[] }, { accessFlags := 25, nameIndex := 53, descriptorIndex := 25, attributes := #[] }, { accessFlags := 25, nameIndex := 24, descriptorIndex := 25, attributes := #[] }, { accessFlags := 25, nameIndex := 162, descriptorIndex := 25, attributes := #[] }, { accessFlags := 25, nameIndex := 187, descriptorIndex := 25, attributes := #[] }, { accessFlags := 26, nameIndex := 48, descriptorIndex := 25, attributes := #[] }, { accessFlags := 25, nameIndex := 277, descriptorIndex := 25, attributes := #[] }, { accessFlags := 25, nameIndex := 280, descriptorIndex := 25, attributes := #[] }, { accessFlags := 25, nameIndex := 282, descriptorIndex := 25, attributes := #[] }, { accessFlags := 25, nameIndex := 284, descriptorIndex := 25, attributes := #[] }, { accessFlags := 25, nameIndex := 286, descriptorIndex := 25, attributes := #[] }, { accessFlags := 25, nameIndex := 288, descriptorIndex := 25, attributes := #[] }, { accessFlags := 25, nameIndex := 290, descriptorIndex := 25, attributes := #[] }, { accessFlags := 25, nameIndex := 292, descriptorIndex := 25, attributes := #[] }, { accessFlags := 26, nameIndex := 108, descriptorIndex := 109, attributes := #[] }, { accessFlags := 25, nameIndex := 294, descriptorIndex := 25, attributes := #[] }])
  fields := #[{ name := "U", type := (.object "jdk/internal/misc/Unsafe"), accessFlags := 24, slot := 0, constantValue := 0 }, { name := "BIG_ENDIAN", type := .boolean, accessFlags := 26, slot := 1, constantValue := 0 }, { name := "LOG2_ARRAY_BOOLEAN_INDEX_SCALE", type := .int, accessFlags := 25, slot := 2, constantValue := 0 }, { name := "LOG2_ARRAY_BYTE_INDEX_SCALE", type := .int, accessFlags := 25, slot := 3, constantValue := 0 }, { name := "LOG2_ARRAY_CHAR_INDEX_SCALE", type := .int, accessFlags := 25, slot := 4, constantValue := 0 }, { name := "LOG2_ARRAY_SHORT_INDEX_SCALE", type := .int, accessFlags := 25, slot := 5, constantValue := 0 }, { name := "LOG2_ARRAY_INT_INDEX_SCALE", type := .int, accessFlags := 25, slot := 6, constantValue := 0 }, { name := "LOG2_ARRAY_LONG_INDEX_SCALE", type := .int, accessFlags := 25, slot := 7, constantValue := 0 }, { name := "LOG2_ARRAY_FLOAT_INDEX_SCALE", type := .int, accessFlags := 25, slot := 8, constantValue := 0 }, { name := "LOG2_ARRAY_DOUBLE_INDEX_SCALE", type := .int, accessFlags := 25, slot := 9, constantValue := 0 }, { name := "LOG2_BYTE_BIT_SIZE", type := .int, accessFlags := 26, slot := 10, constantValue := 0 }, { name := "T_BOOLEAN", type := .int, accessFlags := 25, slot := 11, constantValue := 0 }, { name := "T_CHAR", type := .int, accessFlags := 25, slot := 12, constantValue := 0 }, { name := "T_FLOAT", type := .int, accessFlags := 25, slot := 13, constantValue := 0 }, { name := "T_DOUBLE", type := .int, accessFlags := 25, slot := 14, constantValue := 0 }, { name := "T_BYTE", type := .int, accessFlags := 25, slot := 15, constantValue := 0 }, { name := "T_SHORT", type := .int, accessFlags := 25, slot := 16, constantValue := 0 }, { name := "T_INT", type := .int, accessFlags := 25, slot := 17, constantValue := 0 }, { name := "T_LONG", type := .int, accessFlags := 25, slot := 18, constantValue := 0 }, { name := "JLA", type := (.object "jdk/internal/access/JavaLangAccess"), accessFlags := 26, slot := 19, constantValue := 0 }, { name := "SOFT_MAX_ARRAY_LENGTH", type := .int, accessFlags := 25, slot := 20, constantValue := 0 }]
  methods := #[k14m0]
  instanceTypes := #[]
  staticTypes := #[(.object "jdk/internal/misc/Unsafe"), .boolean, .int, .int, .int, .int, .int, .int, .int, .int, .int, .int, .int, .int, .int, .int, .int, .int, .int, (.object "jdk/internal/access/JavaLangAccess"), .int]
  resolved := Array.replicate 378 none
  statics := none }

/-- the primitive byte -/
def k15 : Class := { plain "byte" none with kind := .primitive 'B', accessFlags := 0x411 }
/-- [B -/
def k16 : Class := { plain "[B" (some 0) with kind := .array 15 .byte, interfaces := #[13, 2], accessFlags := 1041 }

/-- the primitive char -/
def k17 : Class := { plain "char" none with kind := .primitive 'C', accessFlags := 0x411 }
/-- [C -/
def k18 : Class := { plain "[C" (some 0) with kind := .array 17 .char, interfaces := #[13, 2], accessFlags := 1041 }

/-- the primitive int -/
def k19 : Class := { plain "int" none with kind := .primitive 'I', accessFlags := 0x411 }
/-- [I -/
def k20 : Class := { plain "[I" (some 0) with kind := .array 19 .int, interfaces := #[13, 2], accessFlags := 1041 }

/-- [Lcom/example/accumulus/accumulus/terms/FixedOption; -/
def k21 : Class := { plain "[Lcom/example/accumulus/accumulus/terms/FixedOption;" (some 0) with kind := .array 12 (.object "com/example/accumulus/accumulus/terms/FixedOption"), interfaces := #[13, 2], accessFlags := 1041 }

def heap : Heap := #[{ cls := 7, slots := #[.long 0, .int 1, .null, .int 0, .null, .int 0, .int 0], vm := .statics 7 },
  { cls := 9, slots := #[.null, .null, .null], vm := .statics 9 },
  { cls := 10, slots := #[.int 0, .int 8, .int 0, .int 1], vm := .statics 10 },
  { cls := 12, slots := #[.ref 5, .ref 4], vm := .statics 12 },
  { cls := 21, slots := #[.ref 5], vm := .none },
  { cls := 12, slots := #[.null, .int 0, .int 0, .ref 6, .null, .null], vm := .none },
  { cls := 7, slots := #[.ref 7, .int 0, .int 0, .int 0], vm := .none },
  { cls := 16, slots := #[.int 102, .int 105, .int 120, .int 101, .int 100, .int 45, .int 112, .int 108, .int 117, .int 115, .int 45, .int 105, .int 105], vm := .none }]
def classes : Array Class := #[k0, k1, k2, k3, k4, k5, k6, k7, k8, k9, k10, k11, k12, k13, k14, k15, k16, k17, k18, k19, k20, k21]
def interned : List (Array UInt16 × Addr) := []
def slotsUsed : Nat := 40
def theMethod : MethodId := ⟨1, 1⟩
def args0 : Array Value := #[.int 3, .int 3, .int 3, .int 3]
def aboutOver (below : List Frame) : State where
  vm := { classes := classes, interned := interned.toArray }
  heap := heap
  slotsUsed := slotsUsed
  threads := #[{ frames := .invoking theMethod args0 :: below }]
def below0 : List Frame := [.native { method := ⟨0, 0⟩, args := #[] }]
def about1 : State := aboutOver below0
def p0 : Program := .bare "" "" ""
def e0 : Env := launch0.env 0 0 0
theorem w_frames : about1.frames = Frame.invoking theMethod args0 :: below0 := rfl
set_option maxRecDepth 65536 in
theorem w_args : argsFit about1.vm theMethod args0 = true := by decide +kernel
set_option maxRecDepth 65536 in
theorem w_heap : heapFits about1 = true := by decide +kernel
set_option maxRecDepth 65536 in
theorem w_runnable : about1.curStatus? = some .runnable := by decide +kernel
set_option maxRecDepth 65536 in
theorem w_alone : about1.alone = true := by decide +kernel
set_option maxRecDepth 65536 in
theorem w_named : about1.methodNamed? x = some theMethod := by decide +kernel
set_option maxRecDepth 65536 in
theorem w_hears : about1.hears theMethod below0 = true := by decide +kernel
set_option maxRecDepth 65536 in
theorem w_ripe : about1.ripe theMethod args0 below0 = true := by decide +kernel
theorem w_running : about1.status = .running := rfl
set_option maxRecDepth 65536 in
theorem w_room : about1.hasRoom e0.platform room_1 = true :=
  launch0.hasRoom_least _ room_1 (by decide +kernel) (by decide +kernel) (by decide +kernel) (by decide +kernel) (by decide +kernel) (by decide +kernel)
theorem allAtoms_all (ts : List Jvm.Cond) (a : Array Jvm.Value) (st : Jvm.State) : (allAtoms ts).before a st = ts.all (fun c => c.before a st) := by
  induction ts with
  | nil => rfl
  | cons c t ih =>
    show (Jvm.Cond.and c (allAtoms t)).before a st = _
    rw [Jvm.Cond.before_and, ih, List.all_cons]
def words1 : List Jvm.Cond := Jvm.Cond.code x code maxLocals ret :: tables_1
/-- a 'code' word, met by the world's own term for the bytes: nothing is compared byte by byte -/
theorem code_word {y : MethodName} {bytes : ByteArray} {mx : Nat} {rt : Option FieldType} {a : Array Value} {s : State} {m : MethodId} {meth : Method} {c : Code} (h1 : s.methodNamed? y = some m) (h2 : s.vm.method? m = some meth) (h3 : meth.code = some c) (h4 : c.code = bytes)
    (h5 : (c.maxLocals == mx && c.exceptionTable.isEmpty && decide (c.maxStack ≤ mostOperands) && decide (meth.sig.returnType = rt) && !meth.locks && decide (parseMethodDescriptor y.desc = some meth.sig)) = true) : (Jvm.Cond.code y bytes mx rt).before a s = true := by
  simp only [Bool.and_eq_true, beq_iff_eq, Bool.not_eq_true', decide_eq_true_eq] at h5
  obtain ⟨⟨⟨⟨⟨g1, g2⟩, g3⟩, g4⟩, g5⟩, g6⟩ := h5
  simp [Cond.before, Cond.holds, Cond.value, h1, h2, h3, h4, g1, g2, g3, g4, g5, g6]
def isCode : Jvm.Cond → Bool
  | .code _ _ _ _ => true
  | _ => false
theorem all_split {L : List Jvm.Cond} {P : Jvm.Cond → Bool} (h1 : L.all (fun c => isCode c || P c) = true) (h2 : ∀ c ∈ L.filter isCode, P c = true) : L.all P = true := by
  refine List.all_eq_true.mpr fun c hc => ?_
  have h := List.all_eq_true.mp h1 c hc
  rcases Bool.eq_false_or_eq_true (isCode c) with hi | hi
  · exact h2 c (List.mem_filter.mpr ⟨hc, hi⟩)
  · simpa [hi] using h
set_option maxRecDepth 65536 in
theorem w_c0 : (Jvm.Cond.code x code maxLocals ret).before args0 about1 = true := code_word (m := ⟨1, 1⟩) (meth := k1m1) (c := k1c1) (by decide +kernel) rfl rfl rfl (by decide +kernel)
set_option maxRecDepth 65536 in
theorem w_c1 : (Jvm.Cond.code ({ cls := "java/lang/String", name := "charAt", desc := "(I)C" } : Jvm.MethodName) jdk_42_method_56_code (2 : Nat) (Option.some Jvm.ClassFile.FieldType.char)).before args0 about1 = true := code_word (m := ⟨7, 2⟩) (meth := k7m2) (c := k7c2) (by decide +kernel) rfl rfl rfl (by decide +kernel)
set_option maxRecDepth 65536 in
theorem w_c2 : (Jvm.Cond.code ({ cls := "java/lang/String", name := "isLatin1", desc := "()Z" } : Jvm.MethodName) jdk_42_method_154_code (1 : Nat) (Option.some Jvm.ClassFile.FieldType.boolean)).before args0 about1 = true := code_word (m := ⟨7, 5⟩) (meth := k7m5) (c := k7c5) (by decide +kernel) rfl rfl rfl (by decide +kernel)
set_option maxRecDepth 65536 in
theorem w_c3 : (Jvm.Cond.code ({ cls := "java/lang/StringLatin1", name := "charAt", desc := "([BI)C" } : Jvm.MethodName) jdk_43_method_2_code (2 : Nat) (Option.some Jvm.ClassFile.FieldType.char)).before args0 about1 = true := code_word (m := ⟨8, 1⟩) (meth := k8m1) (c := k8c1) (by decide +kernel) rfl rfl rfl (by decide +kernel)
set_option maxRecDepth 65536 in
theorem w_c4 : (Jvm.Cond.code ({ cls := "java/lang/String", name := "checkIndex", desc := "(II)V" } : Jvm.MethodName) jdk_42_method_155_code (2 : Nat) (Option.none : Option Jvm.ClassFile.FieldType)).before args0 about1 = true := code_word (m := ⟨7, 6⟩) (meth := k7m6) (c := k7c6) (by decide +kernel) rfl rfl rfl (by decide +kernel)
set_option maxRecDepth 65536 in
theorem w_c5 : (Jvm.Cond.code ({ cls := "jdk/internal/util/Preconditions", name := "checkIndex", desc := "(IILjava/util/function/BiFunction;)I" } : Jvm.MethodName) jdk_41_method_11_code (3 : Nat) (Option.some Jvm.ClassFile.FieldType.int)).before args0 about1 = true := code_word (m := ⟨9, 1⟩) (meth := k9m1) (c := k9c1) (by decide +kernel) rfl rfl rfl (by decide +kernel)
set_option maxRecDepth 65536 in
theorem w_c6 : (Jvm.Cond.code ({ cls := "java/lang/String", name := "<init>", desc := "([C)V" } : Jvm.MethodName) jdk_42_method_3_code (2 : Nat) (Option.none : Option Jvm.ClassFile.FieldType)).before args0 about1 = true := code_word (m := ⟨7, 1⟩) (meth := k7m1) (c := k7c1) (by decide +kernel) rfl rfl rfl (by decide +kernel)
set_option maxRecDepth 65536 in
theorem w_c7 : (Jvm.Cond.code ({ cls := "java/lang/String", name := "<init>", desc := "([CIILjava/lang/Void;)V" } : Jvm.MethodName) jdk_42_method_149_code (6 : Nat) (Option.none : Option Jvm.ClassFile.FieldType)).before args0 about1 = true := code_word (m := ⟨7, 4⟩) (meth := k7m4) (c := k7c4) (by decide +kernel) rfl rfl rfl (by decide +kernel)
set_option maxRecDepth 65536 in
theorem w_c8 : (Jvm.Cond.code ({ cls := "java/lang/Object", name := "<init>", desc := "()V" } : Jvm.MethodName) object_method_1_code (1 : Nat) (Option.none : Option Jvm.ClassFile.FieldType)).before args0 about1 = true := code_word (m := ⟨0, 0⟩) (meth := k0m0) (c := k0c0) (by decide +kernel) rfl rfl rfl (by decide +kernel)
set_option maxRecDepth 65536 in
theorem w_c9 : (Jvm.Cond.code ({ cls := "java/lang/StringUTF16", name := "compress", desc := "([CII)[B" } : Jvm.MethodName) jdk_52_method_16_code (6 : Nat) (Option.some (Jvm.ClassFile.FieldType.array Jvm.ClassFile.FieldType.byte))).before args0 about1 = true := code_word (m := ⟨10, 7⟩) (meth := k10m7) (c := k10c7) (by decide +kernel) rfl rfl rfl (by decide +kernel)
set_option maxRecDepth 65536 in
theorem w_c10 : (Jvm.Cond.code ({ cls := "java/lang/StringUTF16", name := "compress", desc := "([CI[BII)I" } : Jvm.MethodName) jdk_52_method_21_code (7 : Nat) (Option.some Jvm.ClassFile.FieldType.int)).before args0 about1 = true := code_word (m := ⟨10, 8⟩) (meth := k10m8) (c := k10c8) (by decide +kernel) rfl rfl rfl (by decide +kernel)
set_option maxRecDepth 65536 in
theorem w_c11 : (Jvm.Cond.code ({ cls := "java/lang/StringUTF16", name := "coderFromArrayLen", desc := "([BI)B" } : Jvm.MethodName) jdk_52_method_15_code (2 : Nat) (Option.some Jvm.ClassFile.FieldType.byte)).before args0 about1 = true := code_word (m := ⟨10, 6⟩) (meth := k10m6) (c := k10c6) (by decide +kernel) rfl rfl rfl (by decide +kernel)
set_option maxRecDepth 65536 in
theorem w_c12 : (Jvm.Cond.code ({ cls := "com/example/accumulus/accumulus/terms/FixedOption", name := "withLabel", desc := "(Ljava/lang/String;)Lcom/example/accumulus/accumulus/terms/FixedOption;" } : Jvm.MethodName) prog_68_method_4_code (5 : Nat) (Option.some (Jvm.ClassFile.FieldType.object "com/example/accumulus/accumulus/terms/FixedOption"))).before args0 about1 = true := code_word (m := ⟨12, 1⟩) (meth := k12m1) (c := k12c1) (by decide +kernel) rfl rfl rfl (by decide +kernel)
set_option maxRecDepth 65536 in
theorem w_c13 : (Jvm.Cond.code ({ cls := "com/example/accumulus/accumulus/terms/FixedOption", name := "values", desc := "()[Lcom/example/accumulus/accumulus/terms/FixedOption;" } : Jvm.MethodName) prog_68_method_1_code (0 : Nat) (Option.some (Jvm.ClassFile.FieldType.array (Jvm.ClassFile.FieldType.object "com/example/accumulus/accumulus/terms/FixedOption")))).before args0 about1 = true := code_word (m := ⟨12, 0⟩) (meth := k12m0) (c := k12c0) (by decide +kernel) rfl rfl rfl (by decide +kernel)
set_option maxRecDepth 65536 in
theorem w_c14 : (Jvm.Cond.code ({ cls := "java/lang/String", name := "equals", desc := "(Ljava/lang/Object;)Z" } : Jvm.MethodName) jdk_42_method_66_code (3 : Nat) (Option.some Jvm.ClassFile.FieldType.boolean)).before args0 about1 = true := code_word (m := ⟨7, 3⟩) (meth := k7m3) (c := k7c3) (by decide +kernel) rfl rfl rfl (by decide +kernel)
set_option maxRecDepth 65536 in
theorem w_c15 : (Jvm.Cond.code ({ cls := "java/lang/StringLatin1", name := "equals", desc := "([B[B)Z" } : Jvm.MethodName) jdk_43_method_13_code (3 : Nat) (Option.some Jvm.ClassFile.FieldType.boolean)).before args0 about1 = true := code_word (m := ⟨8, 2⟩) (meth := k8m2) (c := k8c2) (by decide +kernel) rfl rfl rfl (by decide +kernel)
set_option maxRecDepth 65536 in
theorem w_c16 : (Jvm.Cond.code ({ cls := "java/lang/StringUTF16", name := "toBytes", desc := "([CII)[B" } : Jvm.MethodName) jdk_52_method_14_code (5 : Nat) (Option.some (Jvm.ClassFile.FieldType.array Jvm.ClassFile.FieldType.byte))).before args0 about1 = true := code_word (m := ⟨10, 5⟩) (meth := k10m5) (c := k10c5) (by decide +kernel) rfl rfl rfl (by decide +kernel)
set_option maxRecDepth 65536 in
theorem w_c17 : (Jvm.Cond.code ({ cls := "java/lang/StringUTF16", name := "newBytesFor", desc := "(I)[B" } : Jvm.MethodName) jdk_52_method_2_code (1 : Nat) (Option.some (Jvm.ClassFile.FieldType.array Jvm.ClassFile.FieldType.byte))).before args0 about1 = true := code_word (m := ⟨10, 1⟩) (meth := k10m1) (c := k10c1) (by decide +kernel) rfl rfl rfl (by decide +kernel)
set_option maxRecDepth 65536 in
theorem w_c18 : (Jvm.Cond.code ({ cls := "java/lang/StringUTF16", name := "newBytesLength", desc := "(I)I" } : Jvm.MethodName) jdk_52_method_3_code (1 : Nat) (Option.some Jvm.ClassFile.FieldType.int)).before args0 about1 = true := code_word (m := ⟨10, 2⟩) (meth := k10m2) (c := k10c2) (by decide +kernel) rfl rfl rfl (by decide +kernel)
set_option maxRecDepth 65536 in
theorem w_c19 : (Jvm.Cond.code ({ cls := "java/lang/StringUTF16", name := "putChar", desc := "([BII)V" } : Jvm.MethodName) jdk_52_method_4_code (3 : Nat) (Option.none : Option Jvm.ClassFile.FieldType)).before args0 about1 = true := code_word (m := ⟨10, 3⟩) (meth := k10m3) (c := k10c3) (by decide +kernel) rfl rfl rfl (by decide +kernel)
set_option maxRecDepth 65536 in
theorem w_c20 : (Jvm.Cond.code ({ cls := "java/lang/StringUTF16", name := "getChar", desc := "([BI)C" } : Jvm.MethodName) jdk_52_method_5_code (2 : Nat) (Option.some Jvm.ClassFile.FieldType.char)).before args0 about1 = true := code_word (m := ⟨10, 4⟩) (meth := k10m4) (c := k10c4) (by decide +kernel) rfl rfl rfl (by decide +kernel)
def codes1 : List Jvm.Cond := [Jvm.Cond.code x code maxLocals ret, Jvm.Cond.code ({ cls := "java/lang/String", name := "charAt", desc := "(I)C" } : Jvm.MethodName) jdk_42_method_56_code (2 : Nat) (Option.some Jvm.ClassFile.FieldType.char), Jvm.Cond.code ({ cls := "java/lang/String", name := "isLatin1", desc := "()Z" } : Jvm.MethodName) jdk_42_method_154_code (1 : Nat) (Option.some Jvm.ClassFile.FieldType.boolean), Jvm.Cond.code ({ cls := "java/lang/StringLatin1", name := "charAt", desc := "([BI)C" } : Jvm.MethodName) jdk_43_method_2_code (2 : Nat) (Option.some Jvm.ClassFile.FieldType.char), Jvm.Cond.code ({ cls := "java/lang/String", name := "checkIndex", desc := "(II)V" } : Jvm.MethodName) jdk_42_method_155_code (2 : Nat) (Option.none : Option Jvm.ClassFile.FieldType), Jvm.Cond.code ({ cls := "jdk/internal/util/Preconditions", name := "checkIndex", desc := "(IILjava/util/function/BiFunction;)I" } : Jvm.MethodName) jdk_41_method_11_code (3 : Nat) (Option.some Jvm.ClassFile.FieldType.int), Jvm.Cond.code ({ cls := "java/lang/String", name := "<init>", desc := "([C)V" } : Jvm.MethodName) jdk_42_method_3_code (2 : Nat) (Option.none : Option Jvm.ClassFile.FieldType), Jvm.Cond.code ({ cls := "java/lang/String", name := "<init>", desc := "([CIILjava/lang/Void;)V" } : Jvm.MethodName) jdk_42_method_149_code (6 : Nat) (Option.none : Option Jvm.ClassFile.FieldType), Jvm.Cond.code ({ cls := "java/lang/Object", name := "<init>", desc := "()V" } : Jvm.MethodName) object_method_1_code (1 : Nat) (Option.none : Option Jvm.ClassFile.FieldType), Jvm.Cond.code ({ cls := "java/lang/StringUTF16", name := "compress", desc := "([CII)[B" } : Jvm.MethodName) jdk_52_method_16_code (6 : Nat) (Option.some (Jvm.ClassFile.FieldType.array Jvm.ClassFile.FieldType.byte)), Jvm.Cond.code ({ cls := "java/lang/StringUTF16", name := "compress", desc := "([CI[BII)I" } : Jvm.MethodName) jdk_52_method_21_code (7 : Nat) (Option.some Jvm.ClassFile.FieldType.int), Jvm.Cond.code ({ cls := "java/lang/StringUTF16", name := "coderFromArrayLen", desc := "([BI)B" } : Jvm.MethodName) jdk_52_method_15_code (2 : Nat) (Option.some Jvm.ClassFile.FieldType.byte), Jvm.Cond.code ({ cls := "com/example/accumulus/accumulus/terms/FixedOption", name := "withLabel", desc := "(Ljava/lang/String;)Lcom/example/accumulus/accumulus/terms/FixedOption;" } : Jvm.MethodName) prog_68_method_4_code (5 : Nat) (Option.some (Jvm.ClassFile.FieldType.object "com/example/accumulus/accumulus/terms/FixedOption")), Jvm.Cond.code ({ cls := "com/example/accumulus/accumulus/terms/FixedOption", name := "values", desc := "()[Lcom/example/accumulus/accumulus/terms/FixedOption;" } : Jvm.MethodName) prog_68_method_1_code (0 : Nat) (Option.some (Jvm.ClassFile.FieldType.array (Jvm.ClassFile.FieldType.object "com/example/accumulus/accumulus/terms/FixedOption"))), Jvm.Cond.code ({ cls := "java/lang/String", name := "equals", desc := "(Ljava/lang/Object;)Z" } : Jvm.MethodName) jdk_42_method_66_code (3 : Nat) (Option.some Jvm.ClassFile.FieldType.boolean), Jvm.Cond.code ({ cls := "java/lang/StringLatin1", name := "equals", desc := "([B[B)Z" } : Jvm.MethodName) jdk_43_method_13_code (3 : Nat) (Option.some Jvm.ClassFile.FieldType.boolean), Jvm.Cond.code ({ cls := "java/lang/StringUTF16", name := "toBytes", desc := "([CII)[B" } : Jvm.MethodName) jdk_52_method_14_code (5 : Nat) (Option.some (Jvm.ClassFile.FieldType.array Jvm.ClassFile.FieldType.byte)), Jvm.Cond.code ({ cls := "java/lang/StringUTF16", name := "newBytesFor", desc := "(I)[B" } : Jvm.MethodName) jdk_52_method_2_code (1 : Nat) (Option.some (Jvm.ClassFile.FieldType.array Jvm.ClassFile.FieldType.byte)), Jvm.Cond.code ({ cls := "java/lang/StringUTF16", name := "newBytesLength", desc := "(I)I" } : Jvm.MethodName) jdk_52_method_3_code (1 : Nat) (Option.some Jvm.ClassFile.FieldType.int), Jvm.Cond.code ({ cls := "java/lang/StringUTF16", name := "putChar", desc := "([BII)V" } : Jvm.MethodName) jdk_52_method_4_code (3 : Nat) (Option.none : Option Jvm.ClassFile.FieldType), Jvm.Cond.code ({ cls := "java/lang/StringUTF16", name := "getChar", desc := "([BI)C" } : Jvm.MethodName) jdk_52_method_5_code (2 : Nat) (Option.some Jvm.ClassFile.FieldType.char)]
set_option maxRecDepth 65536 in
theorem codes_eq : words1.filter isCode = codes1 := rfl
theorem w_codes : ∀ c ∈ words1.filter isCode, c.before args0 about1 = true := by
  rw [codes_eq]
  intro c hc
  simp only [codes1, List.mem_cons, List.not_mem_nil, or_false] at hc
  rcases hc with rfl | rfl | rfl | rfl | rfl | rfl | rfl | rfl | rfl | rfl | rfl | rfl | rfl | rfl | rfl | rfl | rfl | rfl | rfl | rfl | rfl
  · exact w_c0
  · exact w_c1
  · exact w_c2
  · exact w_c3
  · exact w_c4
  · exact w_c5
  · exact w_c6
  · exact w_c7
  · exact w_c8
  · exact w_c9
  · exact w_c10
  · exact w_c11
  · exact w_c12
  · exact w_c13
  · exact w_c14
  · exact w_c15
  · exact w_c16
  · exact w_c17
  · exact w_c18
  · exact w_c19
  · exact w_c20
set_option maxRecDepth 65536 in
theorem w_t1 : (words1.take 24).all (fun c => isCode c || c.before args0 about1) = true := by decide +kernel
set_option maxRecDepth 65536 in
theorem w_t2 : ((words1.drop 24).take 24).all (fun c => isCode c || c.before args0 about1) = true := by decide +kernel
set_option maxRecDepth 65536 in
theorem w_t3 : (((words1.drop 24).drop 24).take 24).all (fun c => isCode c || c.before args0 about1) = true := by decide +kernel
set_option maxRecDepth 65536 in
theorem w_t4 : ((((words1.drop 24).drop 24).drop 24).take 24).all (fun c => isCode c || c.before args0 about1) = true := by decide +kernel
set_option maxRecDepth 65536 in
theorem w_t5 : ((((words1.drop 24).drop 24).drop 24).drop 24).all (fun c => isCode c || c.before args0 about1) = true := by decide +kernel
theorem w_tables : (allAtoms (Jvm.Cond.code x code maxLocals ret :: tables_1)).before args0 about1 = true := by
  rw [allAtoms_all]
  show words1.all (fun c => c.before args0 about1) = true
  refine all_split ?_ w_codes
  rw [← List.take_append_drop 24 words1, List.all_append, w_t1, ← List.take_append_drop 24 (words1.drop 24), List.all_append, w_t2, ← List.take_append_drop 24 ((words1.drop 24).drop 24), List.all_append, w_t3, ← List.take_append_drop 24 (((words1.drop 24).drop 24).drop 24), List.all_append, w_t4, w_t5]
  rfl
set_option maxRecDepth 65536 in
theorem w_rest : rest_1_c.before args0 about1 = true := by decide +kernel
set_option maxRecDepth 65536 in
theorem w_case : (Jvm.Cond.and given_1 narrow_1).before args0 about1 = true := by decide +kernel
set_option maxRecDepth 65536 in
theorem w_consts : constsHeld consts_1 about1 := Jvm.Lit.constsHeldB_iff.mp (by decide +kernel)
theorem w_applies : (headSpec (Jvm.Cond.code x code maxLocals ret :: tables_1) room_1).applies x e0.platform about1 = true :=
  (Spec.applies_iff w_frames).mpr ⟨w_running, w_runnable, w_alone, w_named, w_hears, w_ripe, w_room, w_tables⟩
theorem atStart : AtStart classFile x code maxLocals ret World_1 tables_1 room_1 Calls_1 rest_1 Pre_1 launch0 p0 e0 about1 theMethod args0 below0 :=
  ⟨lists_1, trivial, launch0.admits_env _ _ _, launch0.least_env, fairChoices_fair.cas, fairChoices_fair.clock, w_frames, w_args, w_heap, w_applies, ⟨w_consts, trivial⟩, w_rest, w_case⟩
end start1
theorem witness_1 : WitnessClaimed_1 := ⟨start1.p0, start1.e0, start1.about1, start1.theMethod, start1.args0, start1.below0, start1.atStart⟩
end Jvm.Pilot.@@N@@
