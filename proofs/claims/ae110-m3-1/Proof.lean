import JvmDerived
import JvmDerived.Pilot.@@N@@Statement
import JvmDerived.Pilot.@@N@@Code
set_option linter.unusedVariables false
set_option linter.unusedSimpArgs false
namespace Jvm.OwnW
open Sem ClassFile Op Lib Jvm.Stand Jvm.Free Jvm.LawKit Jvm.RoadKit
section A
variable {p : Program} {l : Launch} {e : Env} {R : Room} {s : State} {m : MethodId} {args : Array Value} {below : List Frame} {meth : Method} {c : Code} {T : State} {locs : List Loc} {cells slots : Nat} {Z : State} {a0 : Array Value} {h : Heap}
/-- the walk standing at T with the frame g comes to an end that says Q; F: the frame's word on that end -/
def Wp (p : Program) (e : Env) (below : List Frame) (Q : Option Value → State → List Loc → Prop) (F : Outcome → State → List Loc → Prop) (T : State) (g : JFrame) : Prop :=
  ∃ (t : State) (v : Option Value) (L : List Loc), Steps p.tables e below (T.setTop g) t ∧ t.status = .running ∧ Ended t below (.returned v) ∧ Q v t L ∧ F (.returned v) t L
variable {Q : Option Value → State → List Loc → Prop} {F : Outcome → State → List Loc → Prop}
theorem Wp.st {T' : State} {g g' : JFrame} (h : ∀ target, Steps p.tables e below (T'.setTop g') target → Steps p.tables e below (T.setTop g) target) (k : Wp p e below Q F T' g') : Wp p e below Q F T g := by
  obtain ⟨t, v, L, h1, h2⟩ := k
  exact ⟨t, v, L, h _ h1, h2⟩
theorem Wp.tr {T' : State} {g g' : JFrame} (h : Steps p.tables e below (T.setTop g) (T'.setTop g')) (k : Wp p e below Q F T' g') : Wp p e below Q F T g := Wp.st (fun _ q => h.trans q) k
abbrev NF (s : State) (C S : Nat) : Outcome → State → List Loc → Prop := fun o t L => FrameEnd s o t L C S
abbrev WF (s : State) (C S : Nat) : Outcome → State → List Loc → Prop := fun o t L => ReturnedEndW s o t L C S
/-- a body's contract: narrow -/
abbrev Ctr (l : Launch) (Z : State) (y : MethodName) (bytes : ByteArray) (maxL : Nat) (ret : Option FieldType) (ws : List Jvm.Cond) (rm : Room) (as' : Array Value) (h0 : Heap) (Q : Option Value → Heap → List Loc → Prop) : Prop :=
  MetFree l y (head1 (Jvm.Cond.code y bytes maxL ret :: ws) rm) (fun a U => a = as' ∧ Z.Warmed39 U.vm ∧ U.heap = h0) (fun _ _ _ _ _ => True) (fun _ U o U' => ∃ v L, o = .returned v ∧ Q v U'.heap L ∧ FrameEnd U o U' L rm.cells rm.slots)
theorem Ctr.intro {y : MethodName} {bytes : ByteArray} {maxL : Nat} {ret : Option FieldType} {ws : List Jvm.Cond} {rm : Room} {as' : Array Value} {h0 : Heap} {Q : Option Value → Heap → List Loc → Prop} {Ls : MethodId → Array Slot} (hn : plainFor y = true) (hef : ∀ m, entryFrame m as' maxL = mkF m 0 (Ls m) [])
    (body : ∀ (p : Program) (e : Env) (s : State) (m : MethodId) (below : List Frame) (meth : Method) (c : Code) (s₁ : State), p.tables.exec = Jvm.exec → c.code = bytes → c.maxLocals = maxL → meth.sig.returnType = ret → meth.locks = false → Z.Warmed39 s.vm → s.vm.findClass y.cls = some m.cls → meth.name = y.name → s.heap = h0 → Stand p l e rm s m as' below meth c s₁ [] 0 0 → s₁.heap = h0 →
      Wp p e below (fun v t L => Q v t.heap L) (NF s rm.cells rm.slots) s₁ (mkF m 0 (Ls m) [])) : Ctr l Z y bytes maxL ret ws rm as' h0 Q := by
  refine MetFree.of_bodySF hn hisR ?_
  intro p e s m args below meth c s₁ Bd hml0 hP hK
  obtain ⟨rfl, hZ, hh⟩ := hP
  obtain ⟨t, v, L, h1, h2, h3, h4, h5⟩ := body p e s m below meth c s₁ Bd.exec Bd.bytes hml0 Bd.returns Bd.notSynchronized hZ (findClass_of_methodNamed Bd.named) (name_of_methodNamed Bd.named Bd.method).1 hh (Stand.of_body Bd) (by rw [← hh, Bd.state]; rfl)
  exact ⟨t, _, castTop (hef m) h1, h2, h3, v, L, rfl, h4, h5⟩
/-- what pays a call -/
abbrev Pay (l : Launch) (R : Room) (p : Program) (e : Env) (below : List Frame) (s : State) (args : Array Value) (y : MethodName) (len W : Nat) (as' : Array Value) (h : Heap) (kc ks : Nat) (Q : Option Value → Heap → List Loc → Prop) : Prop :=
  Back l R p e below s args y len W (fun A a => a = as' ∧ A.U.heap = h ∧ A.cells + kc ≤ R.cells ∧ A.slots + ks ≤ R.slots) (fun A _ v B => ∃ L, Q v B.U.heap L ∧ B.locs = A.locs ++ L ∧ B.cells = A.cells + kc ∧ B.slots = A.slots + ks)
theorem more (X : Stand p l e R s m args below meth c T locs cells slots) {cells' slots' : Nat} (h1 : cells ≤ cells') (h2 : slots ≤ slots') : Stand p l e R s m args below meth c T locs cells' slots' := X.more h1 h2
theorem catR {v : Value} (h : v.isRef = true) : v.category = 1 := by cases v <;> first | rfl | (cases h; done)
/-- a char; a Latin-1 char -/
def Chr (z : Int32) : Prop := ¬ z < 0 ∧ ¬ (65535 : Int32) < z
def Lat (z : Int32) : Prop := ¬ z < 0 ∧ ¬ (255 : Int32) < z
theorem Lat.chr {z : Int32} (h : Lat z) : Chr z := ⟨h.1, fun q => h.2 (by rw [Int32.lt_iff_toInt_lt] at q ⊢; have e1 : (65535 : Int32).toInt = 65535 := rfl; have e2 : (255 : Int32).toInt = 255 := rfl; omega)⟩
theorem toInt_of_toNat {z : Int32} (h : z.toBitVec.toNat < 2147483648) : z.toInt = (z.toBitVec.toNat : Int) := by
  show z.toBitVec.toInt = _
  rw [BitVec.toInt_eq_toNat_cond, if_pos (by omega)]
theorem toNat_of_toInt {z : Int32} (h : 0 ≤ z.toInt) : z.toInt = (z.toBitVec.toNat : Int) ∧ z.toBitVec.toNat < 2147483648 := by
  have hl := z.toBitVec.isLt
  change 0 ≤ z.toBitVec.toInt at h
  show z.toBitVec.toInt = _ ∧ _
  rw [BitVec.toInt_eq_toNat_cond] at h ⊢
  split at h <;> rename_i q
  · rw [if_pos q]; exact ⟨rfl, by omega⟩
  · omega
theorem mask_rng (x m : Int32) (h : 0 ≤ m.toInt) : 0 ≤ (x &&& m).toInt ∧ (x &&& m).toInt ≤ m.toInt := by
  obtain ⟨e, hm⟩ := toNat_of_toInt h
  have q : (x &&& m).toBitVec.toNat ≤ m.toBitVec.toNat := by
    rw [Int32.toBitVec_and, BitVec.toNat_and]; exact Nat.and_le_right
  rw [toInt_of_toNat (Nat.lt_of_le_of_lt q hm), e]
  omega
theorem i2c_toInt (x : Int32) : (x.toUInt32.toUInt16.toUInt32.toInt32).toInt = ((x.toBitVec.toNat % 65536 : Nat) : Int) := by
  have e : (x.toUInt32.toUInt16.toUInt32.toInt32).toBitVec = (x.toBitVec.setWidth 16).setWidth 32 := rfl
  have e2 : (x.toUInt32.toUInt16.toUInt32.toInt32).toBitVec.toNat = x.toBitVec.toNat % 65536 := by
    rw [e, BitVec.toNat_setWidth, BitVec.toNat_setWidth]; omega
  rw [toInt_of_toNat (by rw [e2]; omega), e2]
theorem chr_i2c {v x : Int32} (h : v = x.toUInt32.toUInt16.toUInt32.toInt32) : Chr v := by subst h; exact rng_char (fits_nar_char x)
theorem Chr.rng {z : Int32} (h : Chr z) : 0 ≤ z.toInt ∧ z.toInt ≤ 65535 := by
  obtain ⟨h1, h2⟩ := h
  rw [Int32.lt_iff_toInt_lt] at h1 h2
  have e1 : (65535 : Int32).toInt = 65535 := rfl
  have e2 : (0 : Int32).toInt = 0 := rfl
  omega
theorem Lat.rng {z : Int32} (h : Lat z) : 0 ≤ z.toInt ∧ z.toInt ≤ 255 := by
  obtain ⟨h1, h2⟩ := h
  rw [Int32.lt_iff_toInt_lt] at h1 h2
  have e1 : (255 : Int32).toInt = 255 := rfl
  have e2 : (0 : Int32).toInt = 0 := rfl
  omega
theorem Lat.of {z : Int32} (h : 0 ≤ z.toInt ∧ z.toInt ≤ 255) : Lat z := by
  constructor <;> rw [Int32.lt_iff_toInt_lt]
  · have e2 : (0 : Int32).toInt = 0 := rfl
    omega
  · have e1 : (255 : Int32).toInt = 255 := rfl
    omega
theorem Chr.of {z : Int32} (h : 0 ≤ z.toInt ∧ z.toInt ≤ 65535) : Chr z := by
  constructor <;> rw [Int32.lt_iff_toInt_lt]
  · have e2 : (0 : Int32).toInt = 0 := rfl
    omega
  · have e1 : (65535 : Int32).toInt = 65535 := rfl
    omega
theorem i2c_id {z : Int32} (h : Chr z) : z.toUInt32.toUInt16.toUInt32.toInt32 = z := by
  obtain ⟨h1, h2⟩ := h.rng
  obtain ⟨e, q⟩ := toNat_of_toInt h1
  apply Int32.toInt_inj.mp
  rw [i2c_toInt, e]
  omega
theorem narC {z : Int32} (h : Chr z) : nar .char z = z := i2c_id h
theorem lat255 {v x : Int32} (h : v = (x &&& 255).toUInt32.toUInt16.toUInt32.toInt32) : Lat v := by
  have r := mask_rng x 255 (by decide)
  have e1 : (255 : Int32).toInt = 255 := rfl
  rw [i2c_id (Chr.of (by omega))] at h
  subst h
  exact Lat.of (by omega)
theorem eq255 {v x : Int32} (h : v = (x &&& 255).toUInt32.toUInt16.toUInt32.toInt32) : v = x &&& 255 := by
  have r := mask_rng x 255 (by decide)
  have e1 : (255 : Int32).toInt = 255 := rfl
  rw [i2c_id (Chr.of (by omega))] at h
  exact h
theorem latNil : ∀ c ∈ ([] : List Int32), ¬ c < 0 ∧ ¬ (255 : Int32) < c := fun _ q => nomatch q
theorem latCons {x : Int32} {L : List Int32} (h : Lat x) (k : ∀ c ∈ L, ¬ c < 0 ∧ ¬ (255 : Int32) < c) : ∀ c ∈ x :: L, ¬ c < 0 ∧ ¬ (255 : Int32) < c := fun c hc => (List.mem_cons.mp hc).elim (fun e => e ▸ h) (k c)
theorem chrAll {L : List Int32} (k : ∀ c ∈ L, ¬ c < 0 ∧ ¬ (255 : Int32) < c) : ∀ c ∈ L, ¬ c < 0 ∧ ¬ (65535 : Int32) < c := fun c hc => Lat.chr (k c hc)
theorem storeV {l l' : Array Slot} {i : Nat} {v : Value} {o : Slot} (hr : v.isRef = true) (hold : l[i]? = some o) (ho : One o) (e : l.setIfInBounds i (.val v) = l') : storeLocals l i v = some l' := e ▸ XS.store1 hold ho (catR hr)
theorem stoV {Z : State} {h : Heap} {a y : Addr} {k : ClassId} {ty : FieldType} {z : Int32} {vs : List Value} {dv : Value} {C : String} (A : Arv Z h a k ty z vs dv) (O : Ovr Z k C) (I : Ins Z h y C true) : Sto Z h a (.ref y) := by
  obtain ⟨c, Ar, q, -⟩ := A
  exact Sto.ofV Ar q O I
theorem fitR {ty : FieldType} {v : Value} (ht : ty.isReference = true) (hv : v.isRef = true) : fits ty v = true := by
  cases ty <;> first | (cases ht; done) | (cases v <;> first | rfl | (cases hv; done))
theorem narR {t : FieldType} {w : Value} (ht : t.isReference = true) : narrow t w = w := by cases t <;> first | rfl | (cases ht; done)
/-- every place written lies in an object of ws or in a new cell -/
def Fk (n : Nat) (ws : List Addr) (L : List Loc) : Prop := ∀ y ∈ L, y.base ∈ ws ∨ n ≤ y.base
theorem Fk.nil (n : Nat) (ws : List Addr) : Fk n ws [] := fun _ q => nomatch q
theorem Fk.snoc {n : Nat} {ws : List Addr} {L : List Loc} {a : Addr} {i : Nat} (N : Fk n ws L) (q : a ∈ ws ∨ n ≤ a) : Fk n ws (L ++ [⟨a, i⟩]) := fun y hy => (List.mem_append.mp hy).elim (N y) fun z => by cases List.mem_singleton.mp z; exact q
theorem Fk.app {n n' : Nat} {ws ws' : List Addr} {L L' : List Loc} (N : Fk n ws L) (N' : Fk n' ws' L') (hn : n ≤ n') (q : ∀ x ∈ ws', x ∈ ws ∨ n ≤ x) : Fk n ws (L ++ L') := fun y hy => (List.mem_append.mp hy).elim (N y) fun z => (N' y z).elim (q _) fun r => Or.inr (Nat.le_trans hn r)
theorem Fk.of_fr {n : Nat} {ws : List Addr} {L : List Loc} (N : Fr n L) : Fk n ws L := fun y hy => Or.inr (N y hy)
theorem Fk.fr {n : Nat} {L : List Loc} (N : Fk n [] L) : Fr n L := fun y hy => (N y hy).elim (fun z => nomatch z) id
theorem oldLe {Z : State} {n : Nat} {h : Heap} (O : Old Z n h) : n ≤ h.size := O.1 ▸ O.2.1
theorem NSr {Z : State} {a0 : Array Value} {O K : String} {n : Nat} (w : (Cond.noSuperclass O).before a0 Z = true) (wk : (Cond.instantiable K n).before a0 Z = true) (hn : O ≠ K) : NS Z O K := by
  obtain ⟨c, k, h1, h2, h3, -, -⟩ := Cond.noSuperclass_spec w
  obtain ⟨t, kt, g1, g2, -⟩ := Cond.instantiable_spec wk
  refine ⟨c, t, h1, g1, fun fuel => ?_⟩
  have ne := ids_ne h1 g1 hn
  cases fuel with
  | zero => rfl
  | succ f => simp [Vm.isSubclassAux, ne, h2, h3]
theorem NSno {Z : State} {a0 : Array Value} {C S K : String} {n : Nat} (w : (Cond.superclass C S).before a0 Z = true) (wk : (Cond.instantiable K n).before a0 Z = true) (N : NS Z C K) (hn : C ≠ K) : ∃ c t, Z.vm.findClass C = some c ∧ Z.vm.findClass K = some t ∧ Z.vm.assignable c t = false := by
  obtain ⟨c, t, h0, g0, n3⟩ := N
  obtain ⟨p, k, kp, h1, h2, h3, h4, h5, -, h7⟩ := Cond.superclass_spec h0 w
  obtain ⟨t', kt, g1, g2, g3, g4, -⟩ := Cond.instantiable_spec wk
  cases g0.symm.trans g1
  have ne := ids_ne h0 g0 hn
  have gi : kt.isInterface = false := by
    rw [Bool.or_eq_false_iff] at g4; exact g4.1
  refine ⟨c, t, h0, g0, ?_⟩
  show Z.vm.assignableAux (255 + 1) c t = false
  simp [Vm.assignableAux, ne, h2, g2, h5, g3, gi, Vm.isSubclass, n3]
theorem fieldI {args : Array Value} {s : State} {t : Term} {z : Int32} (h : (Cond.eq t (.int z)).value args s none s [] = some true) : t.eval args s none [] s = some (.int z) := by
  have q := Cond.eq_int (Cond.before_iff.mpr h) rfl
  exact q
theorem keepMore {h h' : Heap} {ws ws' : List Addr} (K : Keep h h' ws) (q : ∀ x ∈ ws, x ∈ ws') : Keep h h' ws' := ⟨K.1, fun x c hx hn => K.2.1 x c hx fun z => hn (q x z), K.2.2⟩
theorem mod3 {i : Int32} {x : Int32} (h : i = x % 3) (hx : 0 ≤ x.toInt) : i = 0 ∨ i = 1 ∨ i = 2 := by
  have r := (c_irem x 3 3 rfl).1 hx
  subst h
  have : (x % 3).toInt = 0 ∨ (x % 3).toInt = 1 ∨ (x % 3).toInt = 2 := by omega
  rcases this with q | q | q
  · exact Or.inl (Int32.toInt_inj.mp q)
  · exact Or.inr (Or.inl (Int32.toInt_inj.mp q))
  · exact Or.inr (Or.inr (Int32.toInt_inj.mp q))
end A
namespace W
section B
variable {p : Program} {l : Launch} {e : Env} {R : Room} {s : State} {m : MethodId} {args : Array Value} {below : List Frame} {meth : Method} {c : Code} {T : State} {locs : List Loc} {cells slots : Nat} {Z : State} {a0 : Array Value} {h : Heap} {Q : Option Value → State → List Loc → Prop} {F : Outcome → State → List Loc → Prop} {pc q : Nat} {Ls : Array Slot} {st : List Value}
theorem iload (X : Stand p l e R s m args below meth c T locs cells slots) (hx : p.tables.exec = Jvm.exec) {k : Nat} {v : Int32} (hd : decode c.code pc = .ok (.iload k, 2)) (hq : pc + 2 = q) (hl : Ls[k]? = some (.val (.int v))) (k : Wp p e below Q F T (mkF m q Ls ((.int v) :: st))) : Wp p e below Q F T (mkF m pc Ls st) := by
  subst hq
  exact Wp.st (fun _ z => XS.iload X.here hx rfl hd hl z) k
theorem iloadN (X : Stand p l e R s m args below meth c T locs cells slots) (hx : p.tables.exec = Jvm.exec) {k : Fin 4} {v : Int32} (hd : decode c.code pc = .ok (.iload_n k, 1)) (hq : pc + 1 = q) (hl : Ls[k.val]? = some (.val (.int v))) (k : Wp p e below Q F T (mkF m q Ls ((.int v) :: st))) : Wp p e below Q F T (mkF m pc Ls st) := by
  subst hq
  exact Wp.st (fun _ z => XS.iloadN X.here hx rfl hd hl z) k
theorem lload (X : Stand p l e R s m args below meth c T locs cells slots) (hx : p.tables.exec = Jvm.exec) {k : Nat} {v : Int64} (hd : decode c.code pc = .ok (.lload k, 2)) (hq : pc + 2 = q) (hl : Ls[k]? = some (.val (.long v))) (k : Wp p e below Q F T (mkF m q Ls ((.long v) :: st))) : Wp p e below Q F T (mkF m pc Ls st) := by
  subst hq
  exact Wp.st (fun _ z => XS.lload X.here hx rfl hd hl z) k
theorem lloadN (X : Stand p l e R s m args below meth c T locs cells slots) (hx : p.tables.exec = Jvm.exec) {k : Fin 4} {v : Int64} (hd : decode c.code pc = .ok (.lload_n k, 1)) (hq : pc + 1 = q) (hl : Ls[k.val]? = some (.val (.long v))) (k : Wp p e below Q F T (mkF m q Ls ((.long v) :: st))) : Wp p e below Q F T (mkF m pc Ls st) := by
  subst hq
  exact Wp.st (fun _ z => XS.lloadN X.here hx rfl hd hl z) k
theorem aload (X : Stand p l e R s m args below meth c T locs cells slots) (hx : p.tables.exec = Jvm.exec) {k : Nat} {v : Value} (hd : decode c.code pc = .ok (.aload k, 2)) (hq : pc + 2 = q) (hl : Ls[k]? = some (.val (v))) (hv : v.isRef = true) (k : Wp p e below Q F T (mkF m q Ls ((v) :: st))) : Wp p e below Q F T (mkF m pc Ls st) := by
  subst hq
  exact Wp.st (fun _ z => XS.aload X.here hx rfl hd hl hv z) k
theorem aloadN (X : Stand p l e R s m args below meth c T locs cells slots) (hx : p.tables.exec = Jvm.exec) {k : Fin 4} {v : Value} (hd : decode c.code pc = .ok (.aload_n k, 1)) (hq : pc + 1 = q) (hl : Ls[k.val]? = some (.val (v))) (hv : v.isRef = true) (k : Wp p e below Q F T (mkF m q Ls ((v) :: st))) : Wp p e below Q F T (mkF m pc Ls st) := by
  subst hq
  exact Wp.st (fun _ z => XS.aloadN X.here hx rfl hd hl hv z) k
theorem istore (X : Stand p l e R s m args below meth c T locs cells slots) (hx : p.tables.exec = Jvm.exec) {k : Nat} {v : Int32} {Ls' : Array Slot} (hd : decode c.code pc = .ok (.istore k, 2)) (hq : pc + 2 = q) (hl : storeLocals Ls k (.int v) = some Ls') (k : Wp p e below Q F T (mkF m q Ls' st)) : Wp p e below Q F T (mkF m pc Ls ((.int v) :: st)) := by
  subst hq
  exact Wp.st (fun _ z => XS.istore X.here hx rfl hd rfl hl z) k
theorem istoreN (X : Stand p l e R s m args below meth c T locs cells slots) (hx : p.tables.exec = Jvm.exec) {k : Fin 4} {v : Int32} {Ls' : Array Slot} (hd : decode c.code pc = .ok (.istore_n k, 1)) (hq : pc + 1 = q) (hl : storeLocals Ls k.val (.int v) = some Ls') (k : Wp p e below Q F T (mkF m q Ls' st)) : Wp p e below Q F T (mkF m pc Ls ((.int v) :: st)) := by
  subst hq
  exact Wp.st (fun _ z => XS.istoreN X.here hx rfl hd rfl hl z) k
theorem lstore (X : Stand p l e R s m args below meth c T locs cells slots) (hx : p.tables.exec = Jvm.exec) {k : Nat} {v : Int64} {Ls' : Array Slot} (hd : decode c.code pc = .ok (.lstore k, 2)) (hq : pc + 2 = q) (hl : storeLocals Ls k (.long v) = some Ls') (k : Wp p e below Q F T (mkF m q Ls' st)) : Wp p e below Q F T (mkF m pc Ls ((.long v) :: st)) := by
  subst hq
  exact Wp.st (fun _ z => XS.lstore X.here hx rfl hd rfl hl z) k
theorem lstoreN (X : Stand p l e R s m args below meth c T locs cells slots) (hx : p.tables.exec = Jvm.exec) {k : Fin 4} {v : Int64} {Ls' : Array Slot} (hd : decode c.code pc = .ok (.lstore_n k, 1)) (hq : pc + 1 = q) (hl : storeLocals Ls k.val (.long v) = some Ls') (k : Wp p e below Q F T (mkF m q Ls' st)) : Wp p e below Q F T (mkF m pc Ls ((.long v) :: st)) := by
  subst hq
  exact Wp.st (fun _ z => XS.lstoreN X.here hx rfl hd rfl hl z) k
theorem astore (X : Stand p l e R s m args below meth c T locs cells slots) (hx : p.tables.exec = Jvm.exec) {k : Nat} {v : Value} {Ls' : Array Slot} (hd : decode c.code pc = .ok (.astore k, 2)) (hq : pc + 2 = q) (hv : v.isRef = true) (hl : storeLocals Ls k (v) = some Ls') (k : Wp p e below Q F T (mkF m q Ls' st)) : Wp p e below Q F T (mkF m pc Ls ((v) :: st)) := by
  subst hq
  exact Wp.st (fun _ z => XS.astore X.here hx rfl hd rfl hv hl z) k
theorem astoreN (X : Stand p l e R s m args below meth c T locs cells slots) (hx : p.tables.exec = Jvm.exec) {k : Fin 4} {v : Value} {Ls' : Array Slot} (hd : decode c.code pc = .ok (.astore_n k, 1)) (hq : pc + 1 = q) (hv : v.isRef = true) (hl : storeLocals Ls k.val (v) = some Ls') (k : Wp p e below Q F T (mkF m q Ls' st)) : Wp p e below Q F T (mkF m pc Ls ((v) :: st)) := by
  subst hq
  exact Wp.st (fun _ z => XS.astoreN X.here hx rfl hd rfl hv hl z) k
theorem istoreA (X : Stand p l e R s m args below meth c T locs cells slots) (hx : p.tables.exec = Jvm.exec) {k : Nat} {v : Int32} {Ls' : Int32 → Array Slot} (hd : decode c.code pc = .ok (.istore k, 2)) (hq : pc + 2 = q) (hl : ∀ v : Int32, storeLocals Ls k (.int v) = some (Ls' v)) (k : ∀ z : Int32, z = v → Wp p e below Q F T (mkF m q (Ls' z) st)) : Wp p e below Q F T (mkF m pc Ls ((.int v) :: st)) := by
  subst hq
  exact Wp.st (fun _ z => XS.istore X.here hx rfl hd rfl (hl _) z) (k _ rfl)
theorem istoreNA (X : Stand p l e R s m args below meth c T locs cells slots) (hx : p.tables.exec = Jvm.exec) {k : Fin 4} {v : Int32} {Ls' : Int32 → Array Slot} (hd : decode c.code pc = .ok (.istore_n k, 1)) (hq : pc + 1 = q) (hl : ∀ v : Int32, storeLocals Ls k.val (.int v) = some (Ls' v)) (k : ∀ z : Int32, z = v → Wp p e below Q F T (mkF m q (Ls' z) st)) : Wp p e below Q F T (mkF m pc Ls ((.int v) :: st)) := by
  subst hq
  exact Wp.st (fun _ z => XS.istoreN X.here hx rfl hd rfl (hl _) z) (k _ rfl)
theorem lstoreA (X : Stand p l e R s m args below meth c T locs cells slots) (hx : p.tables.exec = Jvm.exec) {k : Nat} {v : Int64} {Ls' : Int64 → Array Slot} (hd : decode c.code pc = .ok (.lstore k, 2)) (hq : pc + 2 = q) (hl : ∀ v : Int64, storeLocals Ls k (.long v) = some (Ls' v)) (k : ∀ z : Int64, z = v → Wp p e below Q F T (mkF m q (Ls' z) st)) : Wp p e below Q F T (mkF m pc Ls ((.long v) :: st)) := by
  subst hq
  exact Wp.st (fun _ z => XS.lstore X.here hx rfl hd rfl (hl _) z) (k _ rfl)
theorem lstoreNA (X : Stand p l e R s m args below meth c T locs cells slots) (hx : p.tables.exec = Jvm.exec) {k : Fin 4} {v : Int64} {Ls' : Int64 → Array Slot} (hd : decode c.code pc = .ok (.lstore_n k, 1)) (hq : pc + 1 = q) (hl : ∀ v : Int64, storeLocals Ls k.val (.long v) = some (Ls' v)) (k : ∀ z : Int64, z = v → Wp p e below Q F T (mkF m q (Ls' z) st)) : Wp p e below Q F T (mkF m pc Ls ((.long v) :: st)) := by
  subst hq
  exact Wp.st (fun _ z => XS.lstoreN X.here hx rfl hd rfl (hl _) z) (k _ rfl)
theorem iconst (X : Stand p l e R s m args below meth c T locs cells slots) (hx : p.tables.exec = Jvm.exec) {i : Int} {v : Int32} (hd : decode c.code pc = .ok (.iconst i, 1)) (hq : pc + 1 = q) (hv : Int32.ofInt i = v) (k : Wp p e below Q F T (mkF m q Ls (.int v :: st))) : Wp p e below Q F T (mkF m pc Ls st) := by
  subst hq
  exact Wp.st (fun _ z => by subst hv; exact XS.iconst X.here hx rfl hd z) k
theorem bipush (X : Stand p l e R s m args below meth c T locs cells slots) (hx : p.tables.exec = Jvm.exec) {i : Int} {v : Int32} (hd : decode c.code pc = .ok (.bipush i, 2)) (hq : pc + 2 = q) (hv : (Int8.ofInt i).toInt32 = v) (k : Wp p e below Q F T (mkF m q Ls (.int v :: st))) : Wp p e below Q F T (mkF m pc Ls st) := by
  subst hq
  exact Wp.st (fun _ z => by subst hv; exact XS.bipush X.here hx rfl hd z) k
theorem sipush (X : Stand p l e R s m args below meth c T locs cells slots) (hx : p.tables.exec = Jvm.exec) {i : Int} {v : Int32} (hd : decode c.code pc = .ok (.sipush i, 3)) (hq : pc + 3 = q) (hv : (Int16.ofInt i).toInt32 = v) (k : Wp p e below Q F T (mkF m q Ls (.int v :: st))) : Wp p e below Q F T (mkF m pc Ls st) := by
  subst hq
  exact Wp.st (fun _ z => by subst hv; exact XS.sipush X.here hx rfl hd z) k
theorem aconstNull (X : Stand p l e R s m args below meth c T locs cells slots) (hx : p.tables.exec = Jvm.exec)  (hd : decode c.code pc = .ok (.aconst_null, 1)) (hq : pc + 1 = q) (k : Wp p e below Q F T (mkF m q Ls (.null :: st))) : Wp p e below Q F T (mkF m pc Ls st) := by
  subst hq
  exact Wp.st (fun _ z => XS.aconstNull X.here hx rfl hd z) k
theorem iadd (X : Stand p l e R s m args below meth c T locs cells slots) (hx : p.tables.exec = Jvm.exec) {x y : Int32} (hd : decode c.code pc = .ok (.iadd, 1)) (hq : pc + 1 = q) (k : Wp p e below Q F T (mkF m q Ls (.int (x + y) :: st))) : Wp p e below Q F T (mkF m pc Ls (.int y :: .int x :: st)) := by
  subst hq
  exact Wp.st (fun _ z => XS.iadd X.here hx rfl hd rfl z) k
theorem isub (X : Stand p l e R s m args below meth c T locs cells slots) (hx : p.tables.exec = Jvm.exec) {x y : Int32} (hd : decode c.code pc = .ok (.isub, 1)) (hq : pc + 1 = q) (k : Wp p e below Q F T (mkF m q Ls (.int (x - y) :: st))) : Wp p e below Q F T (mkF m pc Ls (.int y :: .int x :: st)) := by
  subst hq
  exact Wp.st (fun _ z => XS.isub X.here hx rfl hd rfl z) k
theorem imul (X : Stand p l e R s m args below meth c T locs cells slots) (hx : p.tables.exec = Jvm.exec) {x y : Int32} (hd : decode c.code pc = .ok (.imul, 1)) (hq : pc + 1 = q) (k : Wp p e below Q F T (mkF m q Ls (.int (x * y) :: st))) : Wp p e below Q F T (mkF m pc Ls (.int y :: .int x :: st)) := by
  subst hq
  exact Wp.st (fun _ z => XS.imul X.here hx rfl hd rfl z) k
theorem iand (X : Stand p l e R s m args below meth c T locs cells slots) (hx : p.tables.exec = Jvm.exec) {x y : Int32} (hd : decode c.code pc = .ok (.iand, 1)) (hq : pc + 1 = q) (k : Wp p e below Q F T (mkF m q Ls (.int (x &&& y) :: st))) : Wp p e below Q F T (mkF m pc Ls (.int y :: .int x :: st)) := by
  subst hq
  exact Wp.st (fun _ z => XS.iand X.here hx rfl hd rfl z) k
theorem ior (X : Stand p l e R s m args below meth c T locs cells slots) (hx : p.tables.exec = Jvm.exec) {x y : Int32} (hd : decode c.code pc = .ok (.ior, 1)) (hq : pc + 1 = q) (k : Wp p e below Q F T (mkF m q Ls (.int (x ||| y) :: st))) : Wp p e below Q F T (mkF m pc Ls (.int y :: .int x :: st)) := by
  subst hq
  exact Wp.st (fun _ z => XS.ior X.here hx rfl hd rfl z) k
theorem ixor (X : Stand p l e R s m args below meth c T locs cells slots) (hx : p.tables.exec = Jvm.exec) {x y : Int32} (hd : decode c.code pc = .ok (.ixor, 1)) (hq : pc + 1 = q) (k : Wp p e below Q F T (mkF m q Ls (.int (x ^^^ y) :: st))) : Wp p e below Q F T (mkF m pc Ls (.int y :: .int x :: st)) := by
  subst hq
  exact Wp.st (fun _ z => XS.ixor X.here hx rfl hd rfl z) k
theorem ladd (X : Stand p l e R s m args below meth c T locs cells slots) (hx : p.tables.exec = Jvm.exec) {x y : Int64} (hd : decode c.code pc = .ok (.ladd, 1)) (hq : pc + 1 = q) (k : Wp p e below Q F T (mkF m q Ls (.long (x + y) :: st))) : Wp p e below Q F T (mkF m pc Ls (.long y :: .long x :: st)) := by
  subst hq
  exact Wp.st (fun _ z => XS.ladd X.here hx rfl hd rfl z) k
theorem lsub (X : Stand p l e R s m args below meth c T locs cells slots) (hx : p.tables.exec = Jvm.exec) {x y : Int64} (hd : decode c.code pc = .ok (.lsub, 1)) (hq : pc + 1 = q) (k : Wp p e below Q F T (mkF m q Ls (.long (x - y) :: st))) : Wp p e below Q F T (mkF m pc Ls (.long y :: .long x :: st)) := by
  subst hq
  exact Wp.st (fun _ z => XS.lsub X.here hx rfl hd rfl z) k
theorem lmul (X : Stand p l e R s m args below meth c T locs cells slots) (hx : p.tables.exec = Jvm.exec) {x y : Int64} (hd : decode c.code pc = .ok (.lmul, 1)) (hq : pc + 1 = q) (k : Wp p e below Q F T (mkF m q Ls (.long (x * y) :: st))) : Wp p e below Q F T (mkF m pc Ls (.long y :: .long x :: st)) := by
  subst hq
  exact Wp.st (fun _ z => XS.lmul X.here hx rfl hd rfl z) k
theorem land (X : Stand p l e R s m args below meth c T locs cells slots) (hx : p.tables.exec = Jvm.exec) {x y : Int64} (hd : decode c.code pc = .ok (.land, 1)) (hq : pc + 1 = q) (k : Wp p e below Q F T (mkF m q Ls (.long (x &&& y) :: st))) : Wp p e below Q F T (mkF m pc Ls (.long y :: .long x :: st)) := by
  subst hq
  exact Wp.st (fun _ z => XS.land X.here hx rfl hd rfl z) k
theorem lor (X : Stand p l e R s m args below meth c T locs cells slots) (hx : p.tables.exec = Jvm.exec) {x y : Int64} (hd : decode c.code pc = .ok (.lor, 1)) (hq : pc + 1 = q) (k : Wp p e below Q F T (mkF m q Ls (.long (x ||| y) :: st))) : Wp p e below Q F T (mkF m pc Ls (.long y :: .long x :: st)) := by
  subst hq
  exact Wp.st (fun _ z => XS.lor X.here hx rfl hd rfl z) k
theorem lxor (X : Stand p l e R s m args below meth c T locs cells slots) (hx : p.tables.exec = Jvm.exec) {x y : Int64} (hd : decode c.code pc = .ok (.lxor, 1)) (hq : pc + 1 = q) (k : Wp p e below Q F T (mkF m q Ls (.long (x ^^^ y) :: st))) : Wp p e below Q F T (mkF m pc Ls (.long y :: .long x :: st)) := by
  subst hq
  exact Wp.st (fun _ z => XS.lxor X.here hx rfl hd rfl z) k
theorem ishl (X : Stand p l e R s m args below meth c T locs cells slots) (hx : p.tables.exec = Jvm.exec) {x y : Int32} (hd : decode c.code pc = .ok (.ishl, 1)) (hq : pc + 1 = q) (k : Wp p e below Q F T (mkF m q Ls (.int (x <<< (y &&& 31)) :: st))) : Wp p e below Q F T (mkF m pc Ls (.int y :: .int x :: st)) := by
  subst hq
  exact Wp.st (fun _ z => XS.ishl X.here hx rfl hd rfl z) k
theorem ishr (X : Stand p l e R s m args below meth c T locs cells slots) (hx : p.tables.exec = Jvm.exec) {x y : Int32} (hd : decode c.code pc = .ok (.ishr, 1)) (hq : pc + 1 = q) (k : Wp p e below Q F T (mkF m q Ls (.int (x >>> (y &&& 31)) :: st))) : Wp p e below Q F T (mkF m pc Ls (.int y :: .int x :: st)) := by
  subst hq
  exact Wp.st (fun _ z => XS.ishr X.here hx rfl hd rfl z) k
theorem iushr (X : Stand p l e R s m args below meth c T locs cells slots) (hx : p.tables.exec = Jvm.exec) {x y : Int32} (hd : decode c.code pc = .ok (.iushr, 1)) (hq : pc + 1 = q) (k : Wp p e below Q F T (mkF m q Ls (.int ((x.toUInt32 >>> (y &&& 31).toUInt32).toInt32) :: st))) : Wp p e below Q F T (mkF m pc Ls (.int y :: .int x :: st)) := by
  subst hq
  exact Wp.st (fun _ z => XS.iushr X.here hx rfl hd rfl z) k
theorem lshl (X : Stand p l e R s m args below meth c T locs cells slots) (hx : p.tables.exec = Jvm.exec) {x : Int64} {y : Int32} (hd : decode c.code pc = .ok (.lshl, 1)) (hq : pc + 1 = q) (k : Wp p e below Q F T (mkF m q Ls (.long (x <<< (y &&& 0x3f).toInt64) :: st))) : Wp p e below Q F T (mkF m pc Ls (.int y :: .long x :: st)) := by
  subst hq
  exact Wp.st (fun _ z => XS.lshl X.here hx rfl hd rfl z) k
theorem lshr (X : Stand p l e R s m args below meth c T locs cells slots) (hx : p.tables.exec = Jvm.exec) {x : Int64} {y : Int32} (hd : decode c.code pc = .ok (.lshr, 1)) (hq : pc + 1 = q) (k : Wp p e below Q F T (mkF m q Ls (.long (x >>> (y &&& 0x3f).toInt64) :: st))) : Wp p e below Q F T (mkF m pc Ls (.int y :: .long x :: st)) := by
  subst hq
  exact Wp.st (fun _ z => XS.lshr X.here hx rfl hd rfl z) k
theorem lushr (X : Stand p l e R s m args below meth c T locs cells slots) (hx : p.tables.exec = Jvm.exec) {x : Int64} {y : Int32} (hd : decode c.code pc = .ok (.lushr, 1)) (hq : pc + 1 = q) (k : Wp p e below Q F T (mkF m q Ls (.long ((x.toUInt64 >>> (y &&& 0x3f).toInt64.toUInt64).toInt64) :: st))) : Wp p e below Q F T (mkF m pc Ls (.int y :: .long x :: st)) := by
  subst hq
  exact Wp.st (fun _ z => XS.lushr X.here hx rfl hd rfl z) k
theorem idiv (X : Stand p l e R s m args below meth c T locs cells slots) (hx : p.tables.exec = Jvm.exec) {x y : Int32} (hd : decode c.code pc = .ok (.idiv, 1)) (hq : pc + 1 = q) (hy : y ≠ 0) (k : Wp p e below Q F T (mkF m q Ls (.int (x / y) :: st))) : Wp p e below Q F T (mkF m pc Ls (.int y :: .int x :: st)) := by
  subst hq
  exact Wp.st (fun _ z => XS.idiv X.here hx rfl hd rfl hy z) k
theorem irem (X : Stand p l e R s m args below meth c T locs cells slots) (hx : p.tables.exec = Jvm.exec) {x y : Int32} (hd : decode c.code pc = .ok (.irem, 1)) (hq : pc + 1 = q) (hy : y ≠ 0) (k : Wp p e below Q F T (mkF m q Ls (.int (x % y) :: st))) : Wp p e below Q F T (mkF m pc Ls (.int y :: .int x :: st)) := by
  subst hq
  exact Wp.st (fun _ z => iremM X hx rfl hd rfl hy z) k
theorem ldiv (X : Stand p l e R s m args below meth c T locs cells slots) (hx : p.tables.exec = Jvm.exec) {x y : Int64} (hd : decode c.code pc = .ok (.ldiv, 1)) (hq : pc + 1 = q) (hy : y ≠ 0) (k : Wp p e below Q F T (mkF m q Ls (.long (x / y) :: st))) : Wp p e below Q F T (mkF m pc Ls (.long y :: .long x :: st)) := by
  subst hq
  exact Wp.st (fun _ z => XS.ldiv X.here hx rfl hd rfl hy z) k
theorem lrem (X : Stand p l e R s m args below meth c T locs cells slots) (hx : p.tables.exec = Jvm.exec) {x y : Int64} (hd : decode c.code pc = .ok (.lrem, 1)) (hq : pc + 1 = q) (hy : y ≠ 0) (k : Wp p e below Q F T (mkF m q Ls (.long (x - (x / y) * y) :: st))) : Wp p e below Q F T (mkF m pc Ls (.long y :: .long x :: st)) := by
  subst hq
  exact Wp.st (fun _ z => XS.lrem X.here hx rfl hd rfl hy z) k
theorem ineg (X : Stand p l e R s m args below meth c T locs cells slots) (hx : p.tables.exec = Jvm.exec) {x : Int32} (hd : decode c.code pc = .ok (.ineg, 1)) (hq : pc + 1 = q) (k : Wp p e below Q F T (mkF m q Ls (.int (-x) :: st))) : Wp p e below Q F T (mkF m pc Ls (.int x :: st)) := by
  subst hq
  exact Wp.st (fun _ z => XS.ineg X.here hx rfl hd rfl z) k
theorem lneg (X : Stand p l e R s m args below meth c T locs cells slots) (hx : p.tables.exec = Jvm.exec) {x : Int64} (hd : decode c.code pc = .ok (.lneg, 1)) (hq : pc + 1 = q) (k : Wp p e below Q F T (mkF m q Ls (.long (-x) :: st))) : Wp p e below Q F T (mkF m pc Ls (.long x :: st)) := by
  subst hq
  exact Wp.st (fun _ z => XS.lneg X.here hx rfl hd rfl z) k
theorem i2l (X : Stand p l e R s m args below meth c T locs cells slots) (hx : p.tables.exec = Jvm.exec) {x : Int32} (hd : decode c.code pc = .ok (.i2l, 1)) (hq : pc + 1 = q) (k : Wp p e below Q F T (mkF m q Ls (.long x.toInt64 :: st))) : Wp p e below Q F T (mkF m pc Ls (.int x :: st)) := by
  subst hq
  exact Wp.st (fun _ z => XS.i2l X.here hx rfl hd rfl z) k
theorem l2i (X : Stand p l e R s m args below meth c T locs cells slots) (hx : p.tables.exec = Jvm.exec) {x : Int64} (hd : decode c.code pc = .ok (.l2i, 1)) (hq : pc + 1 = q) (k : Wp p e below Q F T (mkF m q Ls (.int x.toInt32 :: st))) : Wp p e below Q F T (mkF m pc Ls (.long x :: st)) := by
  subst hq
  exact Wp.st (fun _ z => XS.l2i X.here hx rfl hd rfl z) k
theorem i2b (X : Stand p l e R s m args below meth c T locs cells slots) (hx : p.tables.exec = Jvm.exec) {x : Int32} (hd : decode c.code pc = .ok (.i2b, 1)) (hq : pc + 1 = q) (k : ∀ v : Int32, v = x.toInt8.toInt32 → Wp p e below Q F T (mkF m q Ls (.int v :: st))) : Wp p e below Q F T (mkF m pc Ls (.int x :: st)) := by
  subst hq
  exact Wp.st (fun _ z => XS.i2b X.here hx rfl hd rfl z) (k _ rfl)
theorem i2c (X : Stand p l e R s m args below meth c T locs cells slots) (hx : p.tables.exec = Jvm.exec) {x : Int32} (hd : decode c.code pc = .ok (.i2c, 1)) (hq : pc + 1 = q) (k : ∀ v : Int32, v = x.toUInt32.toUInt16.toUInt32.toInt32 → Wp p e below Q F T (mkF m q Ls (.int v :: st))) : Wp p e below Q F T (mkF m pc Ls (.int x :: st)) := by
  subst hq
  exact Wp.st (fun _ z => XS.i2c X.here hx rfl hd rfl z) (k _ rfl)
theorem i2s (X : Stand p l e R s m args below meth c T locs cells slots) (hx : p.tables.exec = Jvm.exec) {x : Int32} (hd : decode c.code pc = .ok (.i2s, 1)) (hq : pc + 1 = q) (k : ∀ v : Int32, v = x.toInt16.toInt32 → Wp p e below Q F T (mkF m q Ls (.int v :: st))) : Wp p e below Q F T (mkF m pc Ls (.int x :: st)) := by
  subst hq
  exact Wp.st (fun _ z => XS.i2s X.here hx rfl hd rfl z) (k _ rfl)
theorem lconst (X : Stand p l e R s m args below meth c T locs cells slots) (hx : p.tables.exec = Jvm.exec) {k : Fin 2} {v : Int64} (hd : decode c.code pc = .ok (.lconst k, 1)) (hq : pc + 1 = q) (hv : Int64.ofNat k = v) (k : Wp p e below Q F T (mkF m q Ls (.long v :: st))) : Wp p e below Q F T (mkF m pc Ls st) := by
  subst hq
  exact Wp.st (fun _ z => by subst hv; exact XS.lconst X.here hx rfl hd z) k
theorem lcmp (X : Stand p l e R s m args below meth c T locs cells slots) (hx : p.tables.exec = Jvm.exec) {x y : Int64} (hd : decode c.code pc = .ok (.lcmp, 1)) (hq : pc + 1 = q) (k : Wp p e below Q F T (mkF m q Ls (.int (lcmpW x y) :: st))) : Wp p e below Q F T (mkF m pc Ls (.long y :: .long x :: st)) := by
  subst hq
  exact Wp.st (fun _ z => XS.lcmp X.here hx rfl hd rfl z) k
theorem dup (X : Stand p l e R s m args below meth c T locs cells slots) (hx : p.tables.exec = Jvm.exec) {x : Value} (hd : decode c.code pc = .ok (.dup, 1)) (hq : pc + 1 = q) (hc : x.category = 1) (k : Wp p e below Q F T (mkF m q Ls (x :: x :: st))) : Wp p e below Q F T (mkF m pc Ls (x :: st)) := by
  subst hq
  exact Wp.st (fun _ z => XS.dup X.here hx rfl hd rfl hc z) k
theorem pop (X : Stand p l e R s m args below meth c T locs cells slots) (hx : p.tables.exec = Jvm.exec) {x : Value} (hd : decode c.code pc = .ok (.pop, 1)) (hq : pc + 1 = q) (hc : x.category = 1) (k : Wp p e below Q F T (mkF m q Ls st)) : Wp p e below Q F T (mkF m pc Ls (x :: st)) := by
  subst hq
  exact Wp.st (fun _ z => XS.pop X.here hx rfl hd rfl hc z) k
theorem dupX1 (X : Stand p l e R s m args below meth c T locs cells slots) (hx : p.tables.exec = Jvm.exec) {x y : Value} (hd : decode c.code pc = .ok (.dup_x1, 1)) (hq : pc + 1 = q) (hc : x.category = 1) (hc' : y.category = 1) (k : Wp p e below Q F T (mkF m q Ls (x :: y :: x :: st))) : Wp p e below Q F T (mkF m pc Ls (x :: y :: st)) := by
  subst hq
  exact Wp.st (fun _ z => XS.dupX1 X.here hx rfl hd rfl hc hc' z) k
theorem dup2 (X : Stand p l e R s m args below meth c T locs cells slots) (hx : p.tables.exec = Jvm.exec) {x y : Value} (hd : decode c.code pc = .ok (.dup2, 1)) (hq : pc + 1 = q) (hc : x.category = 1) (hc' : y.category = 1) (k : Wp p e below Q F T (mkF m q Ls (x :: y :: x :: y :: st))) : Wp p e below Q F T (mkF m pc Ls (x :: y :: st)) := by
  subst hq
  exact Wp.st (fun _ z => Jvm.Free.XT.dup2 X.here hx rfl hd rfl hc hc' z) k
theorem dup2L (X : Stand p l e R s m args below meth c T locs cells slots) (hx : p.tables.exec = Jvm.exec) {x : Int64} (hd : decode c.code pc = .ok (.dup2, 1)) (hq : pc + 1 = q) (k : Wp p e below Q F T (mkF m q Ls (.long x :: .long x :: st))) : Wp p e below Q F T (mkF m pc Ls (.long x :: st)) := by
  subst hq
  exact Wp.st (fun _ z => Jvm.Free.XT.dup2L X.here hx rfl hd rfl z) k
theorem iinc (X : Stand p l e R s m args below meth c T locs cells slots) (hx : p.tables.exec = Jvm.exec) {k : Nat} {cst : Int} {v : Int32} {Ls' : Array Slot} (hd : decode c.code pc = .ok (.iinc k cst, 3)) (hq : pc + 3 = q) (hl : Ls[k]? = some (.val (.int v))) (hl' : storeLocals Ls k (.int (v + Int32.ofInt cst)) = some Ls') (k : Wp p e below Q F T (mkF m q Ls' st)) : Wp p e below Q F T (mkF m pc Ls st) := by
  subst hq
  exact Wp.st (fun _ z => XS.iinc X.here hx rfl hd hl hl' z) k
theorem goto (X : Stand p l e R s m args below meth c T locs cells slots) (hx : p.tables.exec = Jvm.exec) {o : Int}  (hd : decode c.code pc = .ok (.goto o, 3)) (ho : 0 ≤ (pc : Int) + o) (hq : ((pc : Int) + o).toNat = q) (k : Wp p e below Q F T (mkF m q Ls st)) : Wp p e below Q F T (mkF m pc Ls st) := Wp.st (fun _ z => XS.goto X.here hx rfl rfl hd ho hq z) k
theorem ifYes (X : Stand p l e R s m args below meth c T locs cells slots) (hx : p.tables.exec = Jvm.exec) {o : Int} {cd : ClassFile.Cond} {x : Int32} (hd : decode c.code pc = .ok (.ifCond cd o, 3)) (ho : 0 ≤ (pc : Int) + o) (hq : ((pc : Int) + o).toNat = q) (hc : ifCond.holds cd x = true) (k : Wp p e below Q F T (mkF m q Ls st)) : Wp p e below Q F T (mkF m pc Ls (.int x :: st)) := Wp.st (fun _ z => XS.ifYes X.here hx rfl rfl hd rfl hc ho hq z) k
theorem icmpYes (X : Stand p l e R s m args below meth c T locs cells slots) (hx : p.tables.exec = Jvm.exec) {o : Int} {cd : ClassFile.Cond} {x y : Int32} (hd : decode c.code pc = .ok (.if_icmp cd o, 3)) (ho : 0 ≤ (pc : Int) + o) (hq : ((pc : Int) + o).toNat = q) (hc : if_icmp.holds cd x y = true) (k : Wp p e below Q F T (mkF m q Ls st)) : Wp p e below Q F T (mkF m pc Ls (.int y :: .int x :: st)) := Wp.st (fun _ z => XS.icmpYes X.here hx rfl rfl hd rfl hc ho hq z) k
theorem ifnullYes (X : Stand p l e R s m args below meth c T locs cells slots) (hx : p.tables.exec = Jvm.exec) {o : Int}  (hd : decode c.code pc = .ok (.ifnull o, 3)) (ho : 0 ≤ (pc : Int) + o) (hq : ((pc : Int) + o).toNat = q) (k : Wp p e below Q F T (mkF m q Ls st)) : Wp p e below Q F T (mkF m pc Ls (.null :: st)) := Wp.st (fun _ z => XS.ifnullYes X.here hx rfl rfl hd rfl ho hq z) k
theorem ifnonnullYes (X : Stand p l e R s m args below meth c T locs cells slots) (hx : p.tables.exec = Jvm.exec) {o : Int} {b : Addr} (hd : decode c.code pc = .ok (.ifnonnull o, 3)) (ho : 0 ≤ (pc : Int) + o) (hq : ((pc : Int) + o).toNat = q) (k : Wp p e below Q F T (mkF m q Ls st)) : Wp p e below Q F T (mkF m pc Ls (.ref b :: st)) := Wp.st (fun _ z => XS.ifnonnullYes X.here hx rfl rfl hd rfl ho hq z) k
theorem ifNo (X : Stand p l e R s m args below meth c T locs cells slots) (hx : p.tables.exec = Jvm.exec) {cd : ClassFile.Cond} {o : Int} {x : Int32} (hd : decode c.code pc = .ok (.ifCond cd o, 3)) (hq : pc + 3 = q) (hc : ifCond.holds cd x = false) (k : Wp p e below Q F T (mkF m q Ls st)) : Wp p e below Q F T (mkF m pc Ls (.int x :: st)) := by
  subst hq
  exact Wp.st (fun _ z => XS.ifNo X.here hx rfl hd rfl hc z) k
theorem icmpNo (X : Stand p l e R s m args below meth c T locs cells slots) (hx : p.tables.exec = Jvm.exec) {cd : ClassFile.Cond} {o : Int} {x y : Int32} (hd : decode c.code pc = .ok (.if_icmp cd o, 3)) (hq : pc + 3 = q) (hc : if_icmp.holds cd x y = false) (k : Wp p e below Q F T (mkF m q Ls st)) : Wp p e below Q F T (mkF m pc Ls (.int y :: .int x :: st)) := by
  subst hq
  exact Wp.st (fun _ z => XS.icmpNo X.here hx rfl hd rfl hc z) k
theorem ifnullNo (X : Stand p l e R s m args below meth c T locs cells slots) (hx : p.tables.exec = Jvm.exec) {o : Int} {b : Addr} (hd : decode c.code pc = .ok (.ifnull o, 3)) (hq : pc + 3 = q) (k : Wp p e below Q F T (mkF m q Ls st)) : Wp p e below Q F T (mkF m pc Ls (.ref b :: st)) := by
  subst hq
  exact Wp.st (fun _ z => XS.ifnullNo X.here hx rfl hd rfl z) k
theorem ifnonnullNo (X : Stand p l e R s m args below meth c T locs cells slots) (hx : p.tables.exec = Jvm.exec) {o : Int} (hd : decode c.code pc = .ok (.ifnonnull o, 3)) (hq : pc + 3 = q) (k : Wp p e below Q F T (mkF m q Ls st)) : Wp p e below Q F T (mkF m pc Ls (.null :: st)) := by
  subst hq
  exact Wp.st (fun _ z => XS.ifnonnullNo X.here hx rfl hd rfl z) k
theorem acmpEq (X : Stand p l e R s m args below meth c T locs cells slots) (hx : p.tables.exec = Jvm.exec) {cd : ACond} {x y : Value} {o : Int} (hd : decode c.code pc = .ok (.if_acmp cd o, 3)) (h1 : x.isRef = true) (h2 : y.isRef = true) (he : x = y) (ho : 0 ≤ (pc : Int) + o) (hq : q = if acV cd true = true then ((pc : Int) + o).toNat else pc + 3) (k : Wp p e below Q F T (mkF m q Ls st)) : Wp p e below Q F T (mkF m pc Ls (y :: x :: st)) :=
  Wp.st (fun _ z => Jvm.RoadKit.acmp (same := true) X hx rfl h1 h2 rfl hd rfl (decide_eq_true he) ho hq z) k
theorem acmpNe (X : Stand p l e R s m args below meth c T locs cells slots) (hx : p.tables.exec = Jvm.exec) {cd : ACond} {x y : Value} {o : Int} (hd : decode c.code pc = .ok (.if_acmp cd o, 3)) (h1 : x.isRef = true) (h2 : y.isRef = true) (he : ¬ x = y) (ho : 0 ≤ (pc : Int) + o) (hq : q = if acV cd false = true then ((pc : Int) + o).toNat else pc + 3) (k : Wp p e below Q F T (mkF m q Ls st)) : Wp p e below Q F T (mkF m pc Ls (y :: x :: st)) :=
  Wp.st (fun _ z => Jvm.RoadKit.acmp (same := false) X hx rfl h1 h2 rfl hd rfl (decide_eq_false he) ho hq z) k
theorem new (X : Stand p l e R s m args below meth c T locs cells slots) (hx : p.tables.exec = Jvm.exec) (hZ : Z.Warmed39 s.vm) {own C : String} {index n : Nat} (hown : s.vm.findClass own = some m.cls) (w : (Cond.classLink own index C).before a0 Z = true) (wi : (Cond.instantiable C n).before a0 Z = true) (wz : (Cond.initialized C).before a0 Z = true) (eT : T.heap = h) (hd : decode c.code pc = .ok (.new index, 3)) (hq : pc + 3 = q) (hc : cells + 1 ≤ R.cells) (hl : slots + n ≤ R.slots)
    (k : ∀ (T' : State) (h' : Heap) (a : Addr), h.size = a → Stand p l e R s m args below meth c T' locs (cells + 1) (slots + n) → T'.heap = h' → Ext h h' → Exa Z h' a C → (∀ {O nm d : String} {ty : FieldType}, Laid Z a0 C O nm d → parseFieldDescriptor d = some ty → Fld Z h' a O nm d (defaultValue ty)) → Wp p e below Q F T' (mkF m q Ls (.ref a :: st))) : Wp p e below Q F T (mkF m pc Ls st) := by
  subst hq
  obtain ⟨T', h', X', e', E, A, D, -, st'⟩ := newO X hx hZ hown w wi wz eT (g := mkF m pc Ls st) rfl hd hc hl
  exact Wp.st st' (k T' h' _ rfl X' e' E A D)
theorem newarray (X : Stand p l e R s m args below meth c T locs cells slots) (hx : p.tables.exec = Jvm.exec) (hZ : Z.Warmed39 s.vm) {aty : ArrayType} (w : (Cond.arrayClass (newarray.typeOf aty)).before a0 Z = true) (eT : T.heap = h) {n : Int32} (hd : decode c.code pc = .ok (.newarray aty, 2)) (hq : pc + 2 = q) (hn : ¬ n < 0) (cap : Nat) (hcap : n.toNatClampNeg ≤ cap) (hb : cap * 8 ≤ 536870912) (hc : cells + 1 ≤ R.cells) (hl : slots + cap ≤ R.slots)
    (k : ∀ (T' : State) (h' : Heap) (a : Addr) (kA : ClassId), h.size = a → Stand p l e R s m args below meth c T' locs (cells + 1) (slots + cap) → T'.heap = h' → Ext h h' → Arv Z h' a kA (newarray.typeOf aty) n [] (defaultValue (newarray.typeOf aty)) → Wp p e below Q F T' (mkF m q Ls (.ref a :: st))) : Wp p e below Q F T (mkF m pc Ls (.int n :: st)) := by
  subst hq
  obtain ⟨T', h', kA, X', e', E, A, st'⟩ := newP X hx hZ w eT (g := mkF m pc Ls (.int n :: st)) rfl hd rfl hn hcap hb hc hl
  exact Wp.st st' (k T' h' _ kA rfl X' e' E (Arv.new A hn))
theorem anewarray (X : Stand p l e R s m args below meth c T locs cells slots) (hx : p.tables.exec = Jvm.exec) (hZ : Z.Warmed39 s.vm) {own C : String} {index : Nat} (hown : s.vm.findClass own = some m.cls) (w1 : (Cond.classLink own index C).before a0 Z = true) (w2 : (Cond.arrayOver (.object C)).before a0 Z = true) (eT : T.heap = h) {n : Int32} (hd : decode c.code pc = .ok (.anewarray index, 3)) (hq : pc + 3 = q) (hn : ¬ n < 0) (cap : Nat) (hcap : n.toNatClampNeg ≤ cap) (hb : cap * 8 ≤ 536870912) (hc : cells + 1 ≤ R.cells) (hl : slots + cap ≤ R.slots)
    (k : ∀ (T' : State) (h' : Heap) (a : Addr) (kA : ClassId), h.size = a → Stand p l e R s m args below meth c T' locs (cells + 1) (slots + cap) → T'.heap = h' → Ext h h' → Arv Z h' a kA (.object C) n [] .null → Ovr Z kA C → Wp p e below Q F T' (mkF m q Ls (.ref a :: st))) : Wp p e below Q F T (mkF m pc Ls (.int n :: st)) := by
  subst hq
  obtain ⟨T', h', kA, X', e', E, A, O, st'⟩ := newR X hx hZ hown w1 w2 eT (g := mkF m pc Ls (.int n :: st)) rfl hd rfl hn hcap hb hc hl
  exact Wp.st st' (k T' h' _ kA rfl X' e' E (Arv.new A hn) O)
theorem getfield (X : Stand p l e R s m args below meth c T locs cells slots) (hx : p.tables.exec = Jvm.exec) (hZ : Z.Warmed39 s.vm) {own R0 O n d host : String} {index : Nat} (hown : s.vm.findClass own = some m.cls) (w : (Cond.fieldLink own index R0 n d).before a0 Z = true ∨ (Cond.fieldLinkNest own index R0 n d host).before a0 Z = true) (via : Via Z R0 O n d) (eT : T.heap = h) {a : Addr} {v : Value} (hF : Fld Z h a O n d v) (hd : decode c.code pc = .ok (.getfield index, 3)) (hq : pc + 3 = q)
    (k : ∀ (T' : State), Stand p l e R s m args below meth c T' locs cells slots → T'.heap = h → Wp p e below Q F T' (mkF m q Ls (v :: st))) : Wp p e below Q F T (mkF m pc Ls (.ref a :: st)) := by
  subst hq
  obtain ⟨T', X', e', st'⟩ := getF X hx hZ hown w via eT hF (g := mkF m pc Ls (.ref a :: st)) rfl rfl hd
  exact Wp.st st' (k T' X' e')
theorem getstatic (X : Stand p l e R s m args below meth c T locs cells slots) (hx : p.tables.exec = Jvm.exec) (hZ : Z.Warmed39 s.vm) {own R0 O n d host : String} {index : Nat} (hown : s.vm.findClass own = some m.cls) (w : (Cond.fieldLink own index R0 n d).before a0 Z = true ∨ (Cond.fieldLinkNest own index R0 n d host).before a0 Z = true) (via : Via Z R0 O n d) (eT : T.heap = h) {v : Value} (hF : Sta Z h O n d v) (hd : decode c.code pc = .ok (.getstatic index, 3)) (hq : pc + 3 = q)
    (k : ∀ (T' : State), Stand p l e R s m args below meth c T' locs cells slots → T'.heap = h → Wp p e below Q F T' (mkF m q Ls (v :: st))) : Wp p e below Q F T (mkF m pc Ls st) := by
  subst hq
  obtain ⟨T', X', e', st'⟩ := getS2 X hx hZ hown w via eT hF (g := mkF m pc Ls st) rfl hd
  exact Wp.st st' (k T' X' e')
theorem putfield (X : Stand p l e R s m args below meth c T locs cells slots) (hx : p.tables.exec = Jvm.exec) (hZ : Z.Warmed39 s.vm) {own R0 O n d host C : String} {index kk : Nat} {ty : FieldType} (hown : s.vm.findClass own = some m.cls) (w : (Cond.fieldLink own index R0 n d).before a0 Z = true ∨ (Cond.fieldLinkNest own index R0 n d host).before a0 Z = true) (via : Via Z R0 O n d) (eT : T.heap = h) {a : Addr} {v old : Value} (hF : Fld Z h a O n d old) (hE : Exa Z h a C) (hL : (Cond.lays C O n d).before a0 Z = true ∨ ((Cond.laysFinal C O n d).before a0 Z = true ∧ own = O ∧ meth.name = "<init>")) (wi : (Cond.instantiable C kk).before a0 Z = true)
    (hty : parseFieldDescriptor d = some ty) (hn : narrow ty v = v) (hf : fits ty v = true) (hd : decode c.code pc = .ok (.putfield index, 3)) (hq : pc + 3 = q)
    (k : ∀ (T' : State) (h' : Heap) (L' : List Loc), (∀ n0 ws, Fk n0 ws locs → (a ∈ ws ∨ n0 ≤ a) → Fk n0 ws L') → Stand p l e R s m args below meth c T' L' cells slots → T'.heap = h' → Wr h h' a (Jvm.RoadKit.slotOf Z O n d) v → Fld Z h' a O n d v → Wp p e below Q F T' (mkF m q Ls st)) : Wp p e below Q F T (mkF m pc Ls (v :: .ref a :: st)) := by
  subst hq
  obtain ⟨T', h', X', e', W, st'⟩ := putF X hx hZ hown w via eT hF hE hL wi hty hn hf (g := mkF m pc Ls (v :: .ref a :: st)) rfl rfl hd
  exact Wp.st st' (k T' h' _ (fun n0 ws N g => Fk.snoc N g) X' e' W (hF.same W))
theorem putfieldN (X : Stand p l e R s m args below meth c T locs cells slots) (hx : p.tables.exec = Jvm.exec) (hZ : Z.Warmed39 s.vm) {own R0 O n d C : String} {index kk : Nat} {ty : FieldType} (hown : s.vm.findClass own = some m.cls) (w : (Cond.fieldLink own index R0 n d).before a0 Z = true) (via : Via Z R0 O n d) (eT : T.heap = h) {a : Addr} {v v' old : Value} (hF : Fld Z h a O n d old) (hE : Exa Z h a C) (hL : (Cond.lays C O n d).before a0 Z = true ∨ ((Cond.laysFinal C O n d).before a0 Z = true ∧ own = O ∧ meth.name = "<init>")) (wi : (Cond.instantiable C kk).before a0 Z = true)
    (hty : parseFieldDescriptor d = some ty) (hn : narrow ty v = v') (hf : fits ty v' = true) (hd : decode c.code pc = .ok (.putfield index, 3)) (hq : pc + 3 = q)
    (k : ∀ (T' : State) (h' : Heap) (L' : List Loc), (∀ n0 ws, Fk n0 ws locs → (a ∈ ws ∨ n0 ≤ a) → Fk n0 ws L') → Stand p l e R s m args below meth c T' L' cells slots → T'.heap = h' → Wr h h' a (Jvm.RoadKit.slotOf Z O n d) v' → Fld Z h' a O n d v' → Wp p e below Q F T' (mkF m q Ls st)) : Wp p e below Q F T (mkF m pc Ls (v :: .ref a :: st)) := by
  subst hq
  obtain ⟨T', h', X', e', W, st'⟩ := putFN X hx hZ hown w via eT hF hE hL wi hty hn hf (g := mkF m pc Ls (v :: .ref a :: st)) rfl rfl hd
  exact Wp.st st' (k T' h' _ (fun n0 ws N g => Fk.snoc N g) X' e' W (hF.same W))
theorem objinit (X : Stand p l e R s m args below meth c T locs cells slots) (hx : p.tables.exec = Jvm.exec) (hZ : Z.Warmed39 s.vm) {own : String} {idx : Nat} (hown : s.vm.findClass own = some m.cls) (w1 : (Cond.methodLink own idx Lib.objectInit).before a0 Z = true) (w2 : (Cond.instanceMethod Lib.objectInit).before a0 Z = true)
    (w3 : (Cond.code Lib.objectInit ⟨#[0xb1]⟩ 1 none).before a0 Z = true) (eT : T.heap = h) (hsize : Ls.size = c.maxLocals) {a : Addr} (hd : decode c.code pc = .ok (.invokespecial idx, 3)) (hq : pc + 3 = q) (hf : 1 ≤ R.frames) (W : Nat) (hW : (st.map fun v => v.category).sum ≤ W) (hl : W + 12 ≤ R.locals)
    (k : ∀ (T' : State), Stand p l e R s m args below meth c T' locs cells slots → T'.heap = h → Wp p e below Q F T' (mkF m q Ls st)) : Wp p e below Q F T (mkF m pc Ls (.ref a :: st)) := by
  subst hq
  obtain ⟨T', X', e', st'⟩ := initO X hx hZ hown w1 w2 w3 eT (g := mkF m pc Ls (.ref a :: st)) rfl hsize rfl hd hf (W := W) (by show 2 * 0 + _ ≤ _; omega) hl
  exact Wp.st st' (k T' X' e')
theorem castY (X : Stand p l e R s m args below meth c T locs cells slots) (hx : p.tables.exec = Jvm.exec) (hZ : Z.Warmed39 s.vm) {own K : String} {index : Nat} (hown : s.vm.findClass own = some m.cls) (w : (Cond.classLink own index K).before a0 Z = true) (eT : T.heap = h) {a : Addr} (hI : Ins Z h a K true) (hd : decode c.code pc = .ok (.checkcast index, 3)) (hq : pc + 3 = q)
    (k : ∀ (T' : State), Stand p l e R s m args below meth c T' locs cells slots → T'.heap = h → Wp p e below Q F T' (mkF m q Ls (.ref a :: st))) : Wp p e below Q F T (mkF m pc Ls (.ref a :: st)) := by
  subst hq
  obtain ⟨T', X', e', st'⟩ := Jvm.RoadKit.castY X hx hZ hown w eT hI (g := mkF m pc Ls (.ref a :: st)) rfl rfl hd
  exact Wp.st st' (k T' X' e')
theorem instY (X : Stand p l e R s m args below meth c T locs cells slots) (hx : p.tables.exec = Jvm.exec) (hZ : Z.Warmed39 s.vm) {own K : String} {index : Nat} (hown : s.vm.findClass own = some m.cls) (w : (Cond.classLink own index K).before a0 Z = true) (eT : T.heap = h) {a : Addr} (hI : Ins Z h a K true) (hd : decode c.code pc = .ok (.instanceof index, 3)) (hq : pc + 3 = q)
    (k : ∀ (T' : State), Stand p l e R s m args below meth c T' locs cells slots → T'.heap = h → Wp p e below Q F T' (mkF m q Ls (.int 1 :: st))) : Wp p e below Q F T (mkF m pc Ls (.ref a :: st)) := by
  subst hq
  obtain ⟨T', X', e', st'⟩ := Jvm.RoadKit.instY X hx hZ hown w eT hI (g := mkF m pc Ls (.ref a :: st)) rfl rfl hd
  exact Wp.st st' (k T' X' e')
theorem instNo (X : Stand p l e R s m args below meth c T locs cells slots) (hx : p.tables.exec = Jvm.exec) (hZ : Z.Warmed39 s.vm) {own K C : String} {index : Nat} (hown : s.vm.findClass own = some m.cls) (w : (Cond.classLink own index K).before a0 Z = true) (eT : T.heap = h) {a : Addr} (hE : Exa Z h a C) (hF : ∃ c t, Z.vm.findClass C = some c ∧ Z.vm.findClass K = some t ∧ Z.vm.assignable c t = false) (hd : decode c.code pc = .ok (.instanceof index, 3)) (hq : pc + 3 = q)
    (k : ∀ (T' : State), Stand p l e R s m args below meth c T' locs cells slots → T'.heap = h → Wp p e below Q F T' (mkF m q Ls (.int 0 :: st))) : Wp p e below Q F T (mkF m pc Ls (.ref a :: st)) := by
  subst hq
  obtain ⟨T', X', e', st'⟩ := Jvm.RoadKit.instNo X hx hZ hown w eT hE hF (g := mkF m pc Ls (.ref a :: st)) rfl rfl hd
  exact Wp.st st' (k T' X' e')
theorem castNull (X : Stand p l e R s m args below meth c T locs cells slots) (hx : p.tables.exec = Jvm.exec) {index : Nat} (hd : decode c.code pc = .ok (.checkcast index, 3)) (hq : pc + 3 = q) (k : Wp p e below Q F T (mkF m q Ls (.null :: st))) : Wp p e below Q F T (mkF m pc Ls (.null :: st)) := by
  subst hq
  exact Wp.st (X.checkcastNull hx (g := mkF m pc Ls (.null :: st)) rfl rfl hd) k
theorem instNull (X : Stand p l e R s m args below meth c T locs cells slots) (hx : p.tables.exec = Jvm.exec) {index : Nat} (hd : decode c.code pc = .ok (.instanceof index, 3)) (hq : pc + 3 = q) (k : Wp p e below Q F T (mkF m q Ls (.int 0 :: st))) : Wp p e below Q F T (mkF m pc Ls (.null :: st)) := by
  subst hq
  exact Wp.st (X.instanceofNull hx (g := mkF m pc Ls (.null :: st)) rfl rfl hd) k
/-- arrays -/
theorem arraylength (X : Stand p l e R s m args below meth c T locs cells slots) (hx : p.tables.exec = Jvm.exec) (hZ : Z.Warmed39 s.vm) (eT : T.heap = h) {a : Addr} {kA : ClassId} {ty : FieldType} {n : Int32} {vs : List Value} {dv : Value} (hA : Arv Z h a kA ty n vs dv) (hd : decode c.code pc = .ok (.arraylength, 1)) (hq : pc + 1 = q) (k : Wp p e below Q F T (mkF m q Ls (.int n :: st))) : Wp p e below Q F T (mkF m pc Ls (.ref a :: st)) := by
  subst hq
  obtain ⟨cl, Ar, -, S, M, -, -⟩ := hA
  refine Wp.st (X.arraylength hx (by rw [eT]; exact Ar.1) (State.isArrayOf_alike hZ.alike Ar.2.1) (g := mkF m pc Ls (.ref a :: st)) rfl rfl hd) ?_
  rw [len_of S M]; exact k
theorem setCore {Z : State} {h h' : Heap} {a : Addr} {cl : Cell} {kA : ClassId} {ty : FieldType} {n j : Int32} {vs : List Value} {dv v : Value} (Ar : Arr Z h a cl ty) (q1 : cl.cls = kA) (S : cl.slots.size = n.toNatClampNeg) (M : ¬ n < 0) (H : Has cl vs dv) (G : ∀ i, i < cl.slots.size → fits ty (vs.getD i dv) = true) (hv : fits ty v = true) (W : Wr h h' a j.toNatClampNeg v) (hj : j.toNatClampNeg < vs.length) : Arv Z h' a kA ty n (vs.set j.toNatClampNeg v) dv :=
  Arv.set Ar q1 S M H G hv W _ rfl hj
theorem caload (X : Stand p l e R s m args below meth c T locs cells slots) (hx : p.tables.exec = Jvm.exec) (hZ : Z.Warmed39 s.vm) (eT : T.heap = h) {a : Addr} {kA : ClassId} {n j : Int32} {vs : List Value} {dv : Value} {v : Int32} (hA : Arv Z h a kA .char n vs dv) (hj0 : ¬ j < 0) (hjn : j < n) (hv : vs.getD j.toNatClampNeg dv = .int v) (hd : decode c.code pc = .ok (.caload, 1)) (hq : pc + 1 = q) (k : Wp p e below Q F T (mkF m q Ls ((.int v) :: st))) : Wp p e below Q F T (mkF m pc Ls (.int j :: .ref a :: st)) := by
  subst hq
  obtain ⟨cl, Ar, -, S, M, H, -⟩ := hA
  have hin := inb_of S ⟨hj0, hjn⟩
  exact Wp.st (X.caload hx (j := j) (v := .int v) (by rw [eT]; exact Ar.1) (State.isArrayOf_alike hZ.alike Ar.2.1) Ar.2.2 hin (H.at hin hv) (g := mkF m pc Ls (.int j :: .ref a :: st)) rfl rfl hd) k
theorem iaload (X : Stand p l e R s m args below meth c T locs cells slots) (hx : p.tables.exec = Jvm.exec) (hZ : Z.Warmed39 s.vm) (eT : T.heap = h) {a : Addr} {kA : ClassId} {n j : Int32} {vs : List Value} {dv : Value} {v : Int32} (hA : Arv Z h a kA .int n vs dv) (hj0 : ¬ j < 0) (hjn : j < n) (hv : vs.getD j.toNatClampNeg dv = .int v) (hd : decode c.code pc = .ok (.iaload, 1)) (hq : pc + 1 = q) (k : Wp p e below Q F T (mkF m q Ls ((.int v) :: st))) : Wp p e below Q F T (mkF m pc Ls (.int j :: .ref a :: st)) := by
  subst hq
  obtain ⟨cl, Ar, -, S, M, H, -⟩ := hA
  have hin := inb_of S ⟨hj0, hjn⟩
  exact Wp.st (X.iaload hx (j := j) (v := .int v) (by rw [eT]; exact Ar.1) (State.isArrayOf_alike hZ.alike Ar.2.1) Ar.2.2 hin (H.at hin hv) (g := mkF m pc Ls (.int j :: .ref a :: st)) rfl rfl hd) k
theorem saload (X : Stand p l e R s m args below meth c T locs cells slots) (hx : p.tables.exec = Jvm.exec) (hZ : Z.Warmed39 s.vm) (eT : T.heap = h) {a : Addr} {kA : ClassId} {n j : Int32} {vs : List Value} {dv : Value} {v : Int32} (hA : Arv Z h a kA .short n vs dv) (hj0 : ¬ j < 0) (hjn : j < n) (hv : vs.getD j.toNatClampNeg dv = .int v) (hd : decode c.code pc = .ok (.saload, 1)) (hq : pc + 1 = q) (k : Wp p e below Q F T (mkF m q Ls ((.int v) :: st))) : Wp p e below Q F T (mkF m pc Ls (.int j :: .ref a :: st)) := by
  subst hq
  obtain ⟨cl, Ar, -, S, M, H, -⟩ := hA
  have hin := inb_of S ⟨hj0, hjn⟩
  exact Wp.st (X.saload hx (j := j) (v := .int v) (by rw [eT]; exact Ar.1) (State.isArrayOf_alike hZ.alike Ar.2.1) Ar.2.2 hin (H.at hin hv) (g := mkF m pc Ls (.int j :: .ref a :: st)) rfl rfl hd) k
theorem laload (X : Stand p l e R s m args below meth c T locs cells slots) (hx : p.tables.exec = Jvm.exec) (hZ : Z.Warmed39 s.vm) (eT : T.heap = h) {a : Addr} {kA : ClassId} {n j : Int32} {vs : List Value} {dv : Value} {v : Int64} (hA : Arv Z h a kA .long n vs dv) (hj0 : ¬ j < 0) (hjn : j < n) (hv : vs.getD j.toNatClampNeg dv = .long v) (hd : decode c.code pc = .ok (.laload, 1)) (hq : pc + 1 = q) (k : Wp p e below Q F T (mkF m q Ls ((.long v) :: st))) : Wp p e below Q F T (mkF m pc Ls (.int j :: .ref a :: st)) := by
  subst hq
  obtain ⟨cl, Ar, -, S, M, H, -⟩ := hA
  have hin := inb_of S ⟨hj0, hjn⟩
  exact Wp.st (X.laload hx (j := j) (v := .long v) (by rw [eT]; exact Ar.1) (State.isArrayOf_alike hZ.alike Ar.2.1) Ar.2.2 hin (H.at hin hv) (g := mkF m pc Ls (.int j :: .ref a :: st)) rfl rfl hd) k
theorem baload (X : Stand p l e R s m args below meth c T locs cells slots) (hx : p.tables.exec = Jvm.exec) (hZ : Z.Warmed39 s.vm) (eT : T.heap = h) {a : Addr} {kA : ClassId} {n j : Int32} {vs : List Value} {dv : Value} {v : Int32} (hA : Arv Z h a kA .byte n vs dv) (hj0 : ¬ j < 0) (hjn : j < n) (hv : vs.getD j.toNatClampNeg dv = .int v) (hd : decode c.code pc = .ok (.baload, 1)) (hq : pc + 1 = q) (k : Wp p e below Q F T (mkF m q Ls ((.int v) :: st))) : Wp p e below Q F T (mkF m pc Ls (.int j :: .ref a :: st)) := by
  subst hq
  obtain ⟨cl, Ar, -, S, M, H, -⟩ := hA
  have hin := inb_of S ⟨hj0, hjn⟩
  exact Wp.st (X.baloadBytes hx (j := j) (v := .int v) (by rw [eT]; exact Ar.1) (State.isArrayOf_alike hZ.alike Ar.2.1) Ar.2.2 hin (H.at hin hv) (g := mkF m pc Ls (.int j :: .ref a :: st)) rfl rfl hd) k
theorem aaload (X : Stand p l e R s m args below meth c T locs cells slots) (hx : p.tables.exec = Jvm.exec) (hZ : Z.Warmed39 s.vm) (eT : T.heap = h) {a : Addr} {kA : ClassId} {n j : Int32} {vs : List Value} {dv : Value} {v : Value} {C : FieldType} (hA : Arv Z h a kA C n vs dv) (hj0 : ¬ j < 0) (hjn : j < n) (hv : vs.getD j.toNatClampNeg dv = v) (hC : C.isReference = true) (hd : decode c.code pc = .ok (.aaload, 1)) (hq : pc + 1 = q) (k : Wp p e below Q F T (mkF m q Ls ((v) :: st))) : Wp p e below Q F T (mkF m pc Ls (.int j :: .ref a :: st)) := by
  subst hq
  obtain ⟨cl, Ar, -, S, M, H, -⟩ := hA
  have hin := inb_of S ⟨hj0, hjn⟩
  exact Wp.st (X.aaload hx (j := j) (v := v) (by rw [eT]; exact Ar.1) (State.isArrayOf_alike hZ.alike Ar.2.1) hC Ar.2.2 hin (H.at hin hv) (g := mkF m pc Ls (.int j :: .ref a :: st)) rfl rfl hd) k
theorem castore (X : Stand p l e R s m args below meth c T locs cells slots) (hx : p.tables.exec = Jvm.exec) (hZ : Z.Warmed39 s.vm) (eT : T.heap = h) {a : Addr} {kA : ClassId} {n j : Int32} {vs : List Value} {dv : Value} {v : Int32} (hA : Arv Z h a kA .char n vs dv) (hj0 : ¬ j < 0) (hjn : j < n) (i : Nat) (hi : j.toNatClampNeg = i) (hlen : i < vs.length) {w : Int32} (hw : (nar .char v) = w) (hd : decode c.code pc = .ok (.castore, 1)) (hq : pc + 1 = q)
    (k : ∀ (T' : State) (h' : Heap) (L' : List Loc), (∀ n0 ws, Fk n0 ws locs → (a ∈ ws ∨ n0 ≤ a) → Fk n0 ws L') → Stand p l e R s m args below meth c T' L' cells slots → T'.heap = h' → Wr h h' a i (.int w) → Arv Z h' a kA .char n (vs.set i (.int w)) dv → Wp p e below Q F T' (mkF m q Ls st)) : Wp p e below Q F T (mkF m pc Ls ((.int v) :: .int j :: .ref a :: st)) := by
  subst hq hi hw
  obtain ⟨cl, Ar, q1, S, M, H, G⟩ := hA
  obtain ⟨T', h', X', e', W, st'⟩ := stC X hx hZ eT Ar (j := j) (inb_of S ⟨hj0, hjn⟩) (g := mkF m pc Ls ((.int v) :: .int j :: .ref a :: st)) rfl rfl hd
  exact Wp.st st' (k T' h' _ (fun n0 ws N g => Fk.snoc N g) X' e' W (setCore Ar q1 S M H G (fits_nar_char _) W hlen))
theorem iastore (X : Stand p l e R s m args below meth c T locs cells slots) (hx : p.tables.exec = Jvm.exec) (hZ : Z.Warmed39 s.vm) (eT : T.heap = h) {a : Addr} {kA : ClassId} {n j : Int32} {vs : List Value} {dv : Value} {v : Int32} (hA : Arv Z h a kA .int n vs dv) (hj0 : ¬ j < 0) (hjn : j < n) (i : Nat) (hi : j.toNatClampNeg = i) (hlen : i < vs.length) {w : Int32} (hw : (v) = w) (hd : decode c.code pc = .ok (.iastore, 1)) (hq : pc + 1 = q)
    (k : ∀ (T' : State) (h' : Heap) (L' : List Loc), (∀ n0 ws, Fk n0 ws locs → (a ∈ ws ∨ n0 ≤ a) → Fk n0 ws L') → Stand p l e R s m args below meth c T' L' cells slots → T'.heap = h' → Wr h h' a i (.int w) → Arv Z h' a kA .int n (vs.set i (.int w)) dv → Wp p e below Q F T' (mkF m q Ls st)) : Wp p e below Q F T (mkF m pc Ls ((.int v) :: .int j :: .ref a :: st)) := by
  subst hq hi hw
  obtain ⟨cl, Ar, q1, S, M, H, G⟩ := hA
  obtain ⟨T', h', X', e', W, st'⟩ := stI X hx hZ eT Ar (j := j) (inb_of S ⟨hj0, hjn⟩) (g := mkF m pc Ls ((.int v) :: .int j :: .ref a :: st)) rfl rfl hd
  exact Wp.st st' (k T' h' _ (fun n0 ws N g => Fk.snoc N g) X' e' W (setCore Ar q1 S M H G rfl W hlen))
theorem bastore (X : Stand p l e R s m args below meth c T locs cells slots) (hx : p.tables.exec = Jvm.exec) (hZ : Z.Warmed39 s.vm) (eT : T.heap = h) {a : Addr} {kA : ClassId} {n j : Int32} {vs : List Value} {dv : Value} {v : Int32} (hA : Arv Z h a kA .byte n vs dv) (hj0 : ¬ j < 0) (hjn : j < n) (i : Nat) (hi : j.toNatClampNeg = i) (hlen : i < vs.length) {w : Int32} (hw : (nar .byte v) = w) (hd : decode c.code pc = .ok (.bastore, 1)) (hq : pc + 1 = q)
    (k : ∀ (T' : State) (h' : Heap) (L' : List Loc), (∀ n0 ws, Fk n0 ws locs → (a ∈ ws ∨ n0 ≤ a) → Fk n0 ws L') → Stand p l e R s m args below meth c T' L' cells slots → T'.heap = h' → Wr h h' a i (.int w) → Arv Z h' a kA .byte n (vs.set i (.int w)) dv → Wp p e below Q F T' (mkF m q Ls st)) : Wp p e below Q F T (mkF m pc Ls ((.int v) :: .int j :: .ref a :: st)) := by
  subst hq hi hw
  obtain ⟨cl, Ar, q1, S, M, H, G⟩ := hA
  obtain ⟨T', h', X', e', W, st'⟩ := stB X hx hZ eT Ar (j := j) (inb_of S ⟨hj0, hjn⟩) (g := mkF m pc Ls ((.int v) :: .int j :: .ref a :: st)) rfl rfl hd
  exact Wp.st st' (k T' h' _ (fun n0 ws N g => Fk.snoc N g) X' e' W (setCore Ar q1 S M H G (fits_nar_byte _) W hlen))
theorem lastore (X : Stand p l e R s m args below meth c T locs cells slots) (hx : p.tables.exec = Jvm.exec) (hZ : Z.Warmed39 s.vm) (eT : T.heap = h) {a : Addr} {kA : ClassId} {n j : Int32} {vs : List Value} {dv : Value} {v : Int64} (hA : Arv Z h a kA .long n vs dv) (hj0 : ¬ j < 0) (hjn : j < n) (i : Nat) (hi : j.toNatClampNeg = i) (hlen : i < vs.length) {w : Int64} (hw : (v) = w) (hd : decode c.code pc = .ok (.lastore, 1)) (hq : pc + 1 = q)
    (k : ∀ (T' : State) (h' : Heap) (L' : List Loc), (∀ n0 ws, Fk n0 ws locs → (a ∈ ws ∨ n0 ≤ a) → Fk n0 ws L') → Stand p l e R s m args below meth c T' L' cells slots → T'.heap = h' → Wr h h' a i (.long w) → Arv Z h' a kA .long n (vs.set i (.long w)) dv → Wp p e below Q F T' (mkF m q Ls st)) : Wp p e below Q F T (mkF m pc Ls ((.long v) :: .int j :: .ref a :: st)) := by
  subst hq hi hw
  obtain ⟨cl, Ar, q1, S, M, H, G⟩ := hA
  obtain ⟨T', h', X', e', W, st'⟩ := stJ X hx hZ eT Ar (j := j) (inb_of S ⟨hj0, hjn⟩) (g := mkF m pc Ls ((.long v) :: .int j :: .ref a :: st)) rfl rfl hd
  exact Wp.st st' (k T' h' _ (fun n0 ws N g => Fk.snoc N g) X' e' W (setCore Ar q1 S M H G rfl W hlen))
theorem aastore (X : Stand p l e R s m args below meth c T locs cells slots) (hx : p.tables.exec = Jvm.exec) (hZ : Z.Warmed39 s.vm) (eT : T.heap = h) {a : Addr} {kA : ClassId} {n j : Int32} {vs : List Value} {dv : Value} {v : Value} {ty : FieldType} (hA : Arv Z h a kA ty n vs dv) (hty : ty.isReference = true) (hf : fits ty v = true) (hS : Sto Z h a v) (hj0 : ¬ j < 0) (hjn : j < n) (i : Nat) (hi : j.toNatClampNeg = i) (hlen : i < vs.length) (hd : decode c.code pc = .ok (.aastore, 1)) (hq : pc + 1 = q)
    (k : ∀ (T' : State) (h' : Heap) (L' : List Loc), (∀ n0 ws, Fk n0 ws locs → (a ∈ ws ∨ n0 ≤ a) → Fk n0 ws L') → Stand p l e R s m args below meth c T' L' cells slots → T'.heap = h' → Wr h h' a i v → Arv Z h' a kA ty n (vs.set i v) dv → Wp p e below Q F T' (mkF m q Ls st)) : Wp p e below Q F T (mkF m pc Ls (v :: .int j :: .ref a :: st)) := by
  subst hq hi
  obtain ⟨cl, Ar, q1, S, M, H, G⟩ := hA
  obtain ⟨T', h', X', e', W, st'⟩ := stR X hx hZ eT Ar (j := j) (inb_of S ⟨hj0, hjn⟩) hty hS (g := mkF m pc Ls (v :: .int j :: .ref a :: st)) rfl rfl hd
  exact Wp.st st' (k T' h' _ (fun n0 ws N g => Fk.snoc N g) X' e' W (setCore Ar q1 S M H G hf W hlen))
/-- calls: what comes back, in the continuation -/
abbrev Go (p : Program) (l : Launch) (e : Env) (R : Room) (s : State) (m : MethodId) (args : Array Value) (below : List Frame) (meth : Method) (c : Code) (locs : List Loc) (cells slots : Nat) (Q : Option Value → State → List Loc → Prop) (F : Outcome → State → List Loc → Prop) (q : Nat) (Ls : Array Slot) (rest : List Value) (kc ks : Nat) (Qc : Option Value → Heap → List Loc → Prop) : Prop :=
  ∀ (T' : State) (h' : Heap) (v : Option Value) (L : List Loc), Stand p l e R s m args below meth c T' (locs ++ L) (cells + kc) (slots + ks) → T'.heap = h' → Qc v h' L → Wp p e below Q F T' (mkF m q Ls (v.toList ++ rest))
theorem callS (X : Stand p l e R s m args below meth c T locs cells slots) (hx : p.tables.exec = Jvm.exec) (hZ : Z.Warmed39 s.vm) {own : String} {index : Nat} {y : MethodName} {bytes : ByteArray} {maxL : Nat} {ret : Option FieldType} (hown : s.vm.findClass own = some m.cls) (w1 : (Cond.methodLink own index y).before a0 Z = true) (w2 : (Cond.static y).before a0 Z = true) (w3 : (Cond.initialized y.cls).before a0 Z = true) (w4 : (Cond.code y bytes maxL ret).before a0 Z = true)
    (hy : y.cls ≠ "java/lang/invoke/MethodHandle" ∧ y.cls ≠ "java/lang/invoke/VarHandle") {W : Nat} {as' : List Value} {kc ks : Nat} {Qc : Option Value → Heap → List Loc → Prop} (hK : Pay l R p e below s args y 3 W as'.toArray h kc ks Qc) (eT : T.heap = h) (hsize : Ls.size = c.maxLocals) {rest : List Value} (hlen : ∀ sig, parseMethodDescriptor y.desc = some sig → as'.length = sig.parameters.length)
    (hstack : st = as'.reverse ++ rest) (hW : (rest.map fun v => v.category).sum ≤ W) (hd : decode c.code pc = .ok (.invokestatic index, 3)) (hq : pc + 3 = q) (hc : cells + kc ≤ R.cells) (hs : slots + ks ≤ R.slots)
    (k : Go p l e R s m args below meth c locs cells slots Q F q Ls rest kc ks Qc) : Wp p e below Q F T (mkF m pc Ls st) := by
  subst hq
  obtain ⟨v, vm₁, ⟨T', L', k', n'⟩, -, X', ⟨L, hQ, r1, r2, r3⟩, st'⟩ := Jvm.LawKit.callS X hx (y := y) hown (mvT hZ w1) (mvT hZ w2) (mvT hZ w3) (mvT hZ w4) hy hK (g := mkF m pc Ls st) rfl hsize hlen hstack (by show 2 * 0 + _ ≤ _; omega) hd (fun _ _ => ⟨rfl, eT, hc, hs⟩)
  dsimp only [Pt.U, Pt.locs, Pt.cells, Pt.slots] at X' r1 r2 r3 st' hQ
  subst r1 r2 r3
  exact Wp.st st' (k T' _ v L X' rfl hQ)
theorem callI (X : Stand p l e R s m args below meth c T locs cells slots) (hx : p.tables.exec = Jvm.exec) (hZ : Z.Warmed39 s.vm) {own : String} {index : Nat} {y : MethodName} {bytes : ByteArray} {maxL : Nat} (hy1 : y.name = "<init>") (hown : s.vm.findClass own = some m.cls) (w1 : (Cond.methodLink own index y).before a0 Z = true) (w2 : (Cond.instanceMethod y).before a0 Z = true) (w4 : (Cond.code y bytes maxL none).before a0 Z = true)
    (hy : y.cls ≠ "java/lang/invoke/MethodHandle" ∧ y.cls ≠ "java/lang/invoke/VarHandle") {W : Nat} {a : Addr} {as' : List Value} {kc ks : Nat} {Qc : Option Value → Heap → List Loc → Prop} (hK : Pay l R p e below s args y 3 W (.ref a :: as').toArray h kc ks Qc) (eT : T.heap = h) (hsize : Ls.size = c.maxLocals) {rest : List Value} (hlen : ∀ sig, parseMethodDescriptor y.desc = some sig → as'.length = sig.parameters.length)
    (hstack : st = as'.reverse ++ .ref a :: rest) (hW : (rest.map fun v => v.category).sum ≤ W) (hd : decode c.code pc = .ok (.invokespecial index, 3)) (hq : pc + 3 = q) (hc : cells + kc ≤ R.cells) (hs : slots + ks ≤ R.slots)
    (k : Go p l e R s m args below meth c locs cells slots Q F q Ls rest kc ks Qc) : Wp p e below Q F T (mkF m pc Ls st) := by
  subst hq
  obtain ⟨v, vm₁, ⟨T', L', k', n'⟩, -, X', ⟨L, hQ, r1, r2, r3⟩, st'⟩ := X.specialBack hx (y := y) hy1 hown (mvT hZ w1) (mvT hZ w2) (mvT hZ w4) hy hK (g := mkF m pc Ls st) rfl hsize (Steps.refl _) hlen hstack (by show 2 * 0 + _ ≤ _; omega) hd (fun _ _ => ⟨rfl, eT, hc, hs⟩)
  dsimp only [Pt.U, Pt.locs, Pt.cells, Pt.slots] at X' r1 r2 r3 st' hQ
  subst r1 r2 r3
  exact Wp.tr st' (k T' _ v L X' rfl hQ)
theorem callV (X : Stand p l e R s m args below meth c T locs cells slots) (hx : p.tables.exec = Jvm.exec) (hZ : Z.Warmed39 s.vm) {own C : String} {index : Nat} {y z : MethodName} (hown : s.vm.findClass own = some m.cls) (w1 : (Cond.methodLink own index y).before a0 Z = true) (w2 : (Cond.declares y).before a0 Z = true) (hnf : NotFace s y) (w3 : (Cond.selects C y z).before a0 Z = true) (w4 : (Cond.instanceMethod z).before a0 Z = true)
    (hy : y.cls ≠ "java/lang/invoke/MethodHandle" ∧ y.cls ≠ "java/lang/invoke/VarHandle") {W : Nat} {a : Addr} {as' : List Value} {kc ks : Nat} {Qc : Option Value → Heap → List Loc → Prop} (hK : Pay l R p e below s args z 3 W (.ref a :: as').toArray h kc ks Qc) (eT : T.heap = h) (hE : Exa Z h a C) (hsize : Ls.size = c.maxLocals) {rest : List Value} (hlen : ∀ sig, parseMethodDescriptor y.desc = some sig → as'.length = sig.parameters.length)
    (hstack : st = as'.reverse ++ .ref a :: rest) (hW : (rest.map fun v => v.category).sum ≤ W) (hd : decode c.code pc = .ok (.invokevirtual index, 3)) (hq : pc + 3 = q) (hc : cells + kc ≤ R.cells) (hs : slots + ks ≤ R.slots)
    (k : Go p l e R s m args below meth c locs cells slots Q F q Ls rest kc ks Qc) : Wp p e below Q F T (mkF m pc Ls st) := by
  subst hq
  obtain ⟨cq, kq, qa, qb, qc⟩ := isOf hZ eT hE
  obtain ⟨v, vm₁, ⟨T', L', k', n'⟩, -, X', ⟨L, hQ, r1, r2, r3⟩, st'⟩ := X.virtualBack hx (y := y) (z := z) hown (mvT hZ w1) (mvT hZ w2) hnf (mvT hZ w3) (mvT hZ w4) hy hK qa qc (g := mkF m pc Ls st) rfl hsize (Steps.refl _) hlen hstack (by show 2 * 0 + _ ≤ _; omega) hd (fun _ _ => ⟨rfl, eT, hc, hs⟩)
  dsimp only [Pt.U, Pt.locs, Pt.cells, Pt.slots] at X' r1 r2 r3 st' hQ
  subst r1 r2 r3
  exact Wp.tr st' (k T' _ v L X' rfl hQ)
theorem callP (X : Stand p l e R s m args below meth c T locs cells slots) (hx : p.tables.exec = Jvm.exec) (hZ : Z.Warmed39 s.vm) {own C : String} {index : Nat} {y : MethodName} {bytes : ByteArray} {maxL : Nat} {ret : Option FieldType} (hown : s.vm.findClass own = some m.cls) (w1 : (Cond.methodLink own index y).before a0 Z = true) (w2 : (Cond.instanceMethod y).before a0 Z = true) (w3 : (Cond.selects y.cls y y).before a0 Z = true) (w5 : (Cond.privateMethod y).before a0 Z = true) (w4 : (Cond.code y bytes maxL ret).before a0 Z = true)
    (hy : y.cls ≠ "java/lang/invoke/MethodHandle" ∧ y.cls ≠ "java/lang/invoke/VarHandle") {W : Nat} {a : Addr} {as' : List Value} {kc ks : Nat} {Qc : Option Value → Heap → List Loc → Prop} (hK : Pay l R p e below s args y 3 W (.ref a :: as').toArray h kc ks Qc) (eT : T.heap = h) (hE : Exa Z h a C) (hsize : Ls.size = c.maxLocals) {rest : List Value} (hlen : ∀ sig, parseMethodDescriptor y.desc = some sig → as'.length = sig.parameters.length)
    (hstack : st = as'.reverse ++ .ref a :: rest) (hW : (rest.map fun v => v.category).sum ≤ W) (hd : decode c.code pc = .ok (.invokevirtual index, 3)) (hq : pc + 3 = q) (hc : cells + kc ≤ R.cells) (hs : slots + ks ≤ R.slots)
    (k : Go p l e R s m args below meth c locs cells slots Q F q Ls rest kc ks Qc) : Wp p e below Q F T (mkF m pc Ls st) := by
  subst hq
  obtain ⟨cq, q1, q2⟩ := hE.cell
  obtain ⟨v, vm₁, ⟨T', L', k', n'⟩, -, X', ⟨L, hQ, r1, r2, r3⟩, st'⟩ := X.privateBack hx (y := y) hown (mvT hZ w1) (mvT hZ w2) (mvT hZ w3) (Cond.privateMethod_at (mvP hZ w5 (args := #[]))) (mvT hZ w4) hy hK (g := mkF m pc Ls st) rfl hsize (Steps.refl _) (a := a) (by rw [eT]; exact q1) q2 hlen hstack (by show 2 * 0 + _ ≤ _; omega) hd (fun _ _ => ⟨rfl, eT, hc, hs⟩)
  dsimp only [Pt.U, Pt.locs, Pt.cells, Pt.slots] at X' r1 r2 r3 st' hQ
  subst r1 r2 r3
  exact Wp.tr st' (k T' _ v L X' rfl hQ)
theorem callF (X : Stand p l e R s m args below meth c T locs cells slots) (hx : p.tables.exec = Jvm.exec) (hZ : Z.Warmed39 s.vm) {own C : String} {index count : Nat} {y z : MethodName} (hown : s.vm.findClass own = some m.cls) (w1 : (Cond.methodLink own index y).before a0 Z = true) (w2 : (Cond.declares y).before a0 Z = true) (wf : (Cond.interfaceMethod y.cls y.cls y.name y.desc).before args s = true) (w3 : (Cond.selects C y z).before a0 Z = true) (w4 : (Cond.instanceMethod z).before a0 Z = true) (w5 : (Cond.publicMethod z).before a0 Z = true) (w6 : (Cond.unhidden C y.name y.desc).before a0 Z = true) (w7 : (Cond.castable C y.cls).before a0 Z = true)
    (hy : y.cls ≠ "java/lang/invoke/MethodHandle" ∧ y.cls ≠ "java/lang/invoke/VarHandle") {W : Nat} {a : Addr} {as' : List Value} {kc ks : Nat} {Qc : Option Value → Heap → List Loc → Prop} (hK : Pay l R p e below s args z 5 W (.ref a :: as').toArray h kc ks Qc) (eT : T.heap = h) (hE : Exa Z h a C) (hsize : Ls.size = c.maxLocals) {rest : List Value} (hlen : ∀ sig, parseMethodDescriptor y.desc = some sig → as'.length = sig.parameters.length)
    (hstack : st = as'.reverse ++ .ref a :: rest) (hW : (rest.map fun v => v.category).sum ≤ W) (hd : decode c.code pc = .ok (.invokeinterface index count, 5)) (hq : pc + 5 = q) (hc : cells + kc ≤ R.cells) (hs : slots + ks ≤ R.slots)
    (k : Go p l e R s m args below meth c locs cells slots Q F q Ls rest kc ks Qc) : Wp p e below Q F T (mkF m pc Ls st) := by
  subst hq
  obtain ⟨cq, kq, qa, qb, qc⟩ := isOf hZ eT hE
  obtain ⟨v, vm₁, ⟨T', L', k', n'⟩, -, X', ⟨L, hQ, r1, r2, r3⟩, st'⟩ := X.interfaceBack hx (xi := y) (y := z) hown (mvT hZ w1) (mvT hZ w2) wf (mvT hZ w3) (mvT hZ w4) (mvT hZ w5) (mvT hZ w6) (mvT hZ w7) hy hK qa qb qc (g := mkF m pc Ls st) rfl hsize (Steps.refl _) hlen hstack (by show 2 * 0 + _ ≤ _; omega) hd (fun _ _ => ⟨rfl, eT, hc, hs⟩)
  dsimp only [Pt.U, Pt.locs, Pt.cells, Pt.slots] at X' r1 r2 r3 st' hQ
  subst r1 r2 r3
  exact Wp.tr st' (k T' _ v L X' rfl hQ)

/-- ends, narrow: the body's own frame at the leave -/
theorem retI' (X : Stand p l e R s m args below meth c T locs cells slots) (hx : p.tables.exec = Jvm.exec) (hlk : meth.locks = false) (hr : meth.sig.returnType = some .int) {z : Int32} (hd : decode c.code pc = .ok (.ireturn, 1)) {C S : Nat} (hC : cells ≤ C) (hS : slots ≤ S) {Qc : Option Value → Heap → List Loc → Prop} (eT : T.heap = h) (k : Qc (some (.int z)) h locs) : Wp p e below (fun v t L => Qc v t.heap L) (NF s C S) T (mkF m pc Ls (.int z :: st)) := by
  obtain ⟨fs, h1, h2, h3, hW, hs⟩ := X.leave (v := some (.int z)) (fun h => by rw [hr] at h; cases h)
  refine ⟨_, _, _, ?_, h2, h3, (by subst eT; exact k), ⟨_, rfl⟩, hW, hs.mono hC hS⟩
  exact retOut X hx hr rfl (Or.inl ⟨rfl, Or.inl rfl, _, rfl⟩) hd h1
theorem retZ' (X : Stand p l e R s m args below meth c T locs cells slots) (hx : p.tables.exec = Jvm.exec) (hlk : meth.locks = false) {t : FieldType} (hr : meth.sig.returnType = some t) (ht : t = .boolean ∨ t = .byte ∨ t = .char ∨ t = .short) {z : Int32} (hd : decode c.code pc = .ok (.ireturn, 1)) {C S : Nat} (hC : cells ≤ C) (hS : slots ≤ S) {Qc : Option Value → Heap → List Loc → Prop} (eT : T.heap = h) (k : Qc (some (.int (nar t z))) h locs) : Wp p e below (fun v t L => Qc v t.heap L) (NF s C S) T (mkF m pc Ls (.int z :: st)) := by
  obtain ⟨fs, h1, h2, h3, hW, hs⟩ := X.leave (v := some (.int (nar t z))) (fun h => by rw [hr] at h; cases h)
  refine ⟨_, _, _, ?_, h2, h3, (by subst eT; exact k), ⟨_, rfl⟩, hW, hs.mono hC hS⟩
  exact retN X hx (t := t) hr ht hd h1
theorem retJ' (X : Stand p l e R s m args below meth c T locs cells slots) (hx : p.tables.exec = Jvm.exec) (hlk : meth.locks = false) (hr : meth.sig.returnType = some .long) {z : Int64} (hd : decode c.code pc = .ok (.lreturn, 1)) {C S : Nat} (hC : cells ≤ C) (hS : slots ≤ S) {Qc : Option Value → Heap → List Loc → Prop} (eT : T.heap = h) (k : Qc (some (.long z)) h locs) : Wp p e below (fun v t L => Qc v t.heap L) (NF s C S) T (mkF m pc Ls (.long z :: st)) := by
  obtain ⟨fs, h1, h2, h3, hW, hs⟩ := X.leave (v := some (.long z)) (fun h => by rw [hr] at h; cases h)
  refine ⟨_, _, _, ?_, h2, h3, (by subst eT; exact k), ⟨_, rfl⟩, hW, hs.mono hC hS⟩
  exact retOut X hx hr rfl (Or.inr (Or.inl ⟨rfl, rfl, _, rfl⟩)) hd h1
theorem retA' (X : Stand p l e R s m args below meth c T locs cells slots) (hx : p.tables.exec = Jvm.exec) (hlk : meth.locks = false) {t : FieldType} (hr : meth.sig.returnType = some t) (ht : t.isReference = true) {w : Value} (hw : w.isRef = true) (hd : decode c.code pc = .ok (.areturn, 1)) {C S : Nat} (hC : cells ≤ C) (hS : slots ≤ S) {Qc : Option Value → Heap → List Loc → Prop} (eT : T.heap = h) (k : Qc (some w) h locs) : Wp p e below (fun v t L => Qc v t.heap L) (NF s C S) T (mkF m pc Ls (w :: st)) := by
  obtain ⟨fs, h1, h2, h3, hW, hs⟩ := X.leave (v := some w) (fun h => by rw [hr] at h; cases h)
  refine ⟨_, _, _, ?_, h2, h3, (by subst eT; exact k), ⟨_, rfl⟩, hW, hs.mono hC hS⟩
  exact retOut X hx hr (narR ht) (Or.inr (Or.inr (Or.inr (Or.inr ⟨rfl, ht, hw⟩)))) hd h1
theorem ret0' (X : Stand p l e R s m args below meth c T locs cells slots) (hx : p.tables.exec = Jvm.exec) (hlk : meth.locks = false) (hr : meth.sig.returnType = none) (hd : decode c.code pc = .ok (.return_, 1)) {C S : Nat} (hC : cells ≤ C) (hS : slots ≤ S) {Qc : Option Value → Heap → List Loc → Prop} (eT : T.heap = h) (k : Qc none h locs) : Wp p e below (fun v t L => Qc v t.heap L) (NF s C S) T (mkF m pc Ls []) := by
  obtain ⟨fs, h1, h2, h3, hW, hs⟩ := X.leave (v := none) (fun _ => rfl)
  refine ⟨_, _, _, ?_, h2, h3, (by subst eT; exact k), ⟨_, rfl⟩, hW, hs.mono hC hS⟩
  exact X.returnOut hx hr hd h1
end B
end W
end Jvm.OwnW
namespace Jvm.OwnW
open Sem ClassFile Op Lib Jvm.Stand Jvm.Free Jvm.LawKit Jvm.RoadKit
section C
variable {p : Program} {l : Launch} {e : Env} {R : Room} {s : State} {m : MethodId} {args : Array Value} {below : List Frame} {meth : Method} {c : Code} {T : State} {locs : List Loc} {cells slots : Nat} {Z : State} {a0 : Array Value} {h : Heap} {vm0 : Vm}
/-- the constant's entry is booked in the tables vm -/
def LitV (Z : State) (vm : Vm) (own : String) (i : Nat) (a : Addr) : Prop := Lit (Z.setVm vm) own i a
theorem LitV.warm {vm1 : Vm} {own : String} {i : Nat} {a : Addr} (L : LitV Z vm0 own i a) (hW : (s.setVm vm0).Warmed39 vm1) : LitV Z vm1 own i a := by
  have L' : Lit (s.setVm vm0) own i a := L
  have q := Lit.stays L' hW
  exact q
theorem ibWarm {vm1 : Vm} {Ts : List String} (I : IB Z vm0 Ts) (hW : (s.setVm vm0).WarmedH vm1) : IB Z vm1 Ts := by
  obtain ⟨more, e, q⟩ := I
  exact ⟨more, hW.interned_eq.trans e, q⟩
theorem ibMono {Ts Ts' : List String} (I : IB Z vm0 Ts) (q : ∀ t ∈ Ts, t ∈ Ts') : IB Z vm0 Ts' := by
  obtain ⟨more, e, r⟩ := I
  exact ⟨more, e, fun x hx => by obtain ⟨t, h1, h2⟩ := r x hx; exact ⟨t, q t h1, h2⟩⟩
theorem sinceMono {vm1 : Vm} {n n' : Nat} (h : s.Since vm1 n) (q : n ≤ n') : s.Since vm1 n' := ⟨h.1, fun j p a b => ⟨(h.2 j p a b).1, Nat.lt_of_lt_of_le (h.2 j p a b).2 q⟩⟩
/-- a body's contract: wide (it may load String constants) -/
abbrev CtrW (l : Launch) (Z : State) (y : MethodName) (bytes : ByteArray) (maxL : Nat) (ret : Option FieldType) (ws : List Jvm.Cond) (rm : Room) (as' : Array Value) (h0 : Heap) (P : Vm → Prop) (Q : Option Value → Vm → Heap → List Loc → Prop) : Prop :=
  MetFree l y (head1 (Jvm.Cond.code y bytes maxL ret :: ws) rm) (fun a U => a = as' ∧ Z.Warmed39 U.vm ∧ U.heap = h0 ∧ P U.vm) (fun _ _ _ _ _ => True) (fun _ U o U' => ∃ v L, o = .returned v ∧ Q v U'.vm U'.heap L ∧ ReturnedEndW U o U' L rm.cells rm.slots)
theorem CtrW.intro {y : MethodName} {bytes : ByteArray} {maxL : Nat} {ret : Option FieldType} {ws : List Jvm.Cond} {rm : Room} {as' : Array Value} {h0 : Heap} {P : Vm → Prop} {Q : Option Value → Vm → Heap → List Loc → Prop} {Ls : MethodId → Array Slot} (hn : plainFor y = true) (hef : ∀ m, entryFrame m as' maxL = mkF m 0 (Ls m) [])
    (body : ∀ (p : Program) (e : Env) (s : State) (m : MethodId) (below : List Frame) (meth : Method) (c : Code) (s₁ : State) (vm : Vm), p.tables.exec = Jvm.exec → c.code = bytes → c.maxLocals = maxL → meth.sig.returnType = ret → meth.locks = false → Z.Warmed39 vm → vm.findClass y.cls = some m.cls → meth.name = y.name → s.heap = h0 → Stand p l e rm (s.setVm vm) m as' below meth c s₁ [] 0 0 → s₁.heap = h0 → s.Since vm h0.size → P vm →
      Wp p e below (fun v t L => Q v t.vm t.heap L) (WF s rm.cells rm.slots) s₁ (mkF m 0 (Ls m) [])) : CtrW l Z y bytes maxL ret ws rm as' h0 P Q := by
  refine MetFree.of_bodySF hn hisR ?_
  intro p e s m args below meth c s₁ Bd hml0 hP hK
  obtain ⟨rfl, hZ, hh, hPv⟩ := hP
  obtain ⟨t, v, L, h1, h2, h3, h4, h5⟩ := body p e s m below meth c s₁ s.vm Bd.exec Bd.bytes hml0 Bd.returns Bd.notSynchronized hZ (findClass_of_methodNamed Bd.named) (name_of_methodNamed Bd.named Bd.method).1 hh (Stand.of_body Bd) (by rw [← hh, Bd.state]; rfl) ((State.WarmedH.refl s).since _) hPv
  exact ⟨t, _, castTop (hef m) h1, h2, h3, v, L, rfl, h4, h5⟩
abbrev PayW (l : Launch) (R : Room) (p : Program) (e : Env) (below : List Frame) (s : State) (args : Array Value) (y : MethodName) (len W : Nat) (as' : Array Value) (h : Heap) (kc ks : Nat) (Q : Option Value → Vm → Heap → List Loc → Prop) : Prop :=
  BackS l R p e below s args y len W (fun A a => a = as' ∧ A.U.heap = h ∧ A.cells + kc ≤ R.cells ∧ A.slots + ks ≤ R.slots) (fun A _ v B => ∃ L, Q v B.U.vm B.U.heap L ∧ B.locs = A.locs ++ L ∧ B.cells = A.cells + kc ∧ B.slots = A.slots + ks)
theorem payW {y : MethodName} {bytes : ByteArray} {maxL : Nat} {ret : Option FieldType} {rm : Room} {len W : Nat} {as' : Array Value} {P : Vm → Prop} {Q : Option Value → Vm → Heap → List Loc → Prop}
    (hM : CtrW l Z y bytes maxL ret [] rm as' h P Q) (hZ : Z.Warmed39 s.vm) (wc : (Cond.code y bytes maxL ret).before a0 Z = true) (wz : (Cond.initialized y.cls).before a0 Z = true) (hf : rm.frames + 1 ≤ R.frames) (hl : W + (maxL + 11) + rm.locals ≤ R.locals) (hP : ∀ vm, s.WarmedH vm → P vm) :
    PayW l R p e below s args y len W as' h rm.cells rm.slots Q :=
  BackS.of_freeW (bytes := bytes) (maxL := maxL) (ret := ret) (E := fun _ _ o t L k n => k = rm.cells ∧ n = rm.slots ∧ ∃ v, o = .returned v ∧ Q v t.vm t.heap L) hM hf hl
    (fun m meth c A a Y hp => have hU : Z.Warmed39 A.U.vm := wtrans hZ Y.warmed
      ⟨by show (Cond.and _ .tt).before a A.U = true; rw [Cond.before_and, mv hU wc]; rfl, mv hU wc, mv hU wz, hp.2.2.1, hp.2.2.2⟩)
    (fun m meth c A a g mk Y hp => ⟨hp.1, wtrans hZ Y.warmed, hp.2.1, hP _ Y.warmed⟩) (fun _ _ _ _ _ _ _ _ _ => trivial)
    (fun _ _ _ _ ⟨v, L, h1, h2, h3⟩ => ⟨L, _, _, h3, rfl, rfl, v, h1, h2⟩)
    (fun m meth c A a g mk v t L k n Y hp _ _ ⟨e1, e2, v', e3, e4⟩ => by cases e3; subst e1 e2; exact ⟨L, e4, rfl, rfl, rfl⟩)
end C
namespace W
section D
variable {p : Program} {l : Launch} {e : Env} {R : Room} {s : State} {m : MethodId} {args : Array Value} {below : List Frame} {meth : Method} {c : Code} {T : State} {locs : List Loc} {cells slots : Nat} {Z : State} {a0 : Array Value} {h : Heap} {Q : Option Value → State → List Loc → Prop} {F : Outcome → State → List Loc → Prop} {pc q : Nat} {Ls : Array Slot} {st : List Value} {vm0 : Vm}
/-- behind a call that may have interned -/
abbrev GoW (p : Program) (l : Launch) (e : Env) (R : Room) (s : State) (m : MethodId) (args : Array Value) (below : List Frame) (meth : Method) (c : Code) (locs : List Loc) (cells slots : Nat) (Q : Option Value → State → List Loc → Prop) (F : Outcome → State → List Loc → Prop) (q : Nat) (Ls : Array Slot) (rest : List Value) (Z : State) (vm0 : Vm) (own : String) (kc ks : Nat) (Qc : Option Value → Vm → Heap → List Loc → Prop) : Prop :=
  ∀ (T' : State) (h' : Heap) (v : Option Value) (L : List Loc) (vm1 : Vm), Stand p l e R (s.setVm vm1) m args below meth c T' (locs ++ L) (cells + kc) (slots + ks) → T'.heap = h' → s.Since vm1 h'.size → Z.Warmed39 vm1 → vm1.findClass own = some m.cls → (s.setVm vm0).Warmed39 vm1 → Qc v vm1 h' L → Wp p e below Q F T' (mkF m q Ls (v.toList ++ rest))
theorem callSW (X : Stand p l e R (s.setVm vm0) m args below meth c T locs cells slots) (hx : p.tables.exec = Jvm.exec) {k0 : Nat} (hS : s.Since vm0 k0) (hk : k0 ≤ h.size) (hZ : Z.Warmed39 vm0) {own : String} {index : Nat} {y : MethodName} {bytes : ByteArray} {maxL : Nat} {ret : Option FieldType} (hown : vm0.findClass own = some m.cls) (w1 : (Cond.methodLink own index y).before a0 Z = true) (w2 : (Cond.static y).before a0 Z = true) (w3 : (Cond.initialized y.cls).before a0 Z = true) (w4 : (Cond.code y bytes maxL ret).before a0 Z = true)
    (hy : y.cls ≠ "java/lang/invoke/MethodHandle" ∧ y.cls ≠ "java/lang/invoke/VarHandle") {W : Nat} {as' : List Value} {kc ks : Nat} {Qc : Option Value → Vm → Heap → List Loc → Prop} (hK : PayW l R p e below (s.setVm vm0) args y 3 W as'.toArray h kc ks Qc) (eT : T.heap = h) (hsize : Ls.size = c.maxLocals) {rest : List Value} (hlen : ∀ sig, parseMethodDescriptor y.desc = some sig → as'.length = sig.parameters.length)
    (hstack : st = as'.reverse ++ rest) (hW : (rest.map fun v => v.category).sum ≤ W) (hd : decode c.code pc = .ok (.invokestatic index, 3)) (hq : pc + 3 = q) (hc : cells + kc ≤ R.cells) (hs : slots + ks ≤ R.slots)
    (k : GoW p l e R s m args below meth c locs cells slots Q F q Ls rest Z vm0 own kc ks Qc) : Wp p e below Q F T (mkF m pc Ls st) := by
  subst hq
  have hZ' : Z.Warmed39 (s.setVm vm0).vm := hZ
  have hown' : (s.setVm vm0).vm.findClass own = some m.cls := hown
  obtain ⟨v, vm₁, ⟨T', L', k', n'⟩, -, X', h2, g2, ⟨L, hQ, r1, r2, r3⟩, st'⟩ := callSS X hx (y := y) hown' (mvT hZ' w1) (mvT hZ' w2) (mvT hZ' w3) (mvT hZ' w4) hy hK (g := mkF m pc Ls st) rfl hsize hlen hstack (by show 2 * 0 + _ ≤ _; omega) hd (fun _ _ => ⟨rfl, eT, hc, hs⟩)
  dsimp only [Pt.U, Pt.locs, Pt.cells, Pt.slots] at X' r1 r2 r3 st' hQ h2 g2
  subst r1 r2 r3
  obtain ⟨X2, hS2, hZ2, ho2⟩ := rebS hS (by rw [eT]; exact hk : k0 ≤ T.heap.size) X' h2 g2 hZ' hown'
  exact Wp.tr st' (k T' _ v L T'.vm X2 rfl hS2 hZ2 ho2 h2.1 hQ)
theorem callIW (X : Stand p l e R (s.setVm vm0) m args below meth c T locs cells slots) (hx : p.tables.exec = Jvm.exec) {k0 : Nat} (hS : s.Since vm0 k0) (hk : k0 ≤ h.size) (hZ : Z.Warmed39 vm0) {own : String} {index : Nat} {y : MethodName} {bytes : ByteArray} {maxL : Nat} (hy1 : y.name = "<init>") (hown : vm0.findClass own = some m.cls) (w1 : (Cond.methodLink own index y).before a0 Z = true) (w2 : (Cond.instanceMethod y).before a0 Z = true) (w4 : (Cond.code y bytes maxL none).before a0 Z = true)
    (hy : y.cls ≠ "java/lang/invoke/MethodHandle" ∧ y.cls ≠ "java/lang/invoke/VarHandle") {W : Nat} {a : Addr} {as' : List Value} {kc ks : Nat} {Qc : Option Value → Vm → Heap → List Loc → Prop} (hK : PayW l R p e below (s.setVm vm0) args y 3 W (.ref a :: as').toArray h kc ks Qc) (eT : T.heap = h) (hsize : Ls.size = c.maxLocals) {rest : List Value} (hlen : ∀ sig, parseMethodDescriptor y.desc = some sig → as'.length = sig.parameters.length)
    (hstack : st = as'.reverse ++ .ref a :: rest) (hW : (rest.map fun v => v.category).sum ≤ W) (hd : decode c.code pc = .ok (.invokespecial index, 3)) (hq : pc + 3 = q) (hc : cells + kc ≤ R.cells) (hs : slots + ks ≤ R.slots)
    (k : GoW p l e R s m args below meth c locs cells slots Q F q Ls rest Z vm0 own kc ks Qc) : Wp p e below Q F T (mkF m pc Ls st) := by
  subst hq
  have hZ' : Z.Warmed39 (s.setVm vm0).vm := hZ
  have hown' : (s.setVm vm0).vm.findClass own = some m.cls := hown
  obtain ⟨v, vm₁, ⟨T', L', k', n'⟩, -, X', h2, g2, ⟨L, hQ, r1, r2, r3⟩, st'⟩ := X.specialBackS hx (y := y) hy1 hown' (mvT hZ' w1) (mvT hZ' w2) (mvT hZ' w4) hy hK (g := mkF m pc Ls st) rfl hsize (Steps.refl _) hlen hstack (by show 2 * 0 + _ ≤ _; omega) hd (fun _ _ => ⟨rfl, eT, hc, hs⟩)
  dsimp only [Pt.U, Pt.locs, Pt.cells, Pt.slots] at X' r1 r2 r3 st' hQ h2 g2
  subst r1 r2 r3
  obtain ⟨X2, hS2, hZ2, ho2⟩ := rebS hS (by rw [eT]; exact hk : k0 ≤ T.heap.size) X' h2 g2 hZ' hown'
  exact Wp.tr st' (k T' _ v L T'.vm X2 rfl hS2 hZ2 ho2 h2.1 hQ)
theorem callVW (X : Stand p l e R (s.setVm vm0) m args below meth c T locs cells slots) (hx : p.tables.exec = Jvm.exec) {k0 : Nat} (hS : s.Since vm0 k0) (hk : k0 ≤ h.size) (hZ : Z.Warmed39 vm0) {own C : String} {index : Nat} {y z : MethodName} (hown : vm0.findClass own = some m.cls) (w1 : (Cond.methodLink own index y).before a0 Z = true) (w2 : (Cond.declares y).before a0 Z = true) (hnf : NotFace (s.setVm vm0) y) (w3 : (Cond.selects C y z).before a0 Z = true) (w4 : (Cond.instanceMethod z).before a0 Z = true)
    (hy : y.cls ≠ "java/lang/invoke/MethodHandle" ∧ y.cls ≠ "java/lang/invoke/VarHandle") {W : Nat} {a : Addr} {as' : List Value} {kc ks : Nat} {Qc : Option Value → Vm → Heap → List Loc → Prop} (hK : PayW l R p e below (s.setVm vm0) args z 3 W (.ref a :: as').toArray h kc ks Qc) (eT : T.heap = h) (hE : Exa Z h a C) (hsize : Ls.size = c.maxLocals) {rest : List Value} (hlen : ∀ sig, parseMethodDescriptor y.desc = some sig → as'.length = sig.parameters.length)
    (hstack : st = as'.reverse ++ .ref a :: rest) (hW : (rest.map fun v => v.category).sum ≤ W) (hd : decode c.code pc = .ok (.invokevirtual index, 3)) (hq : pc + 3 = q) (hc : cells + kc ≤ R.cells) (hs : slots + ks ≤ R.slots)
    (k : GoW p l e R s m args below meth c locs cells slots Q F q Ls rest Z vm0 own kc ks Qc) : Wp p e below Q F T (mkF m pc Ls st) := by
  subst hq
  have hZ' : Z.Warmed39 (s.setVm vm0).vm := hZ
  have hown' : (s.setVm vm0).vm.findClass own = some m.cls := hown
  obtain ⟨cq, kq, qa, qb, qc⟩ := isOf hZ' eT hE
  obtain ⟨v, vm₁, ⟨T', L', k', n'⟩, -, X', h2, g2, ⟨L, hQ, r1, r2, r3⟩, st'⟩ := X.virtualBackS hx (y := y) (z := z) hown' (mvT hZ' w1) (mvT hZ' w2) hnf (mvT hZ' w3) (mvT hZ' w4) hy hK qa qc (g := mkF m pc Ls st) rfl hsize (Steps.refl _) hlen hstack (by show 2 * 0 + _ ≤ _; omega) hd (fun _ _ => ⟨rfl, eT, hc, hs⟩)
  dsimp only [Pt.U, Pt.locs, Pt.cells, Pt.slots] at X' r1 r2 r3 st' hQ h2 g2
  subst r1 r2 r3
  obtain ⟨X2, hS2, hZ2, ho2⟩ := rebS hS (by rw [eT]; exact hk : k0 ≤ T.heap.size) X' h2 g2 hZ' hown'
  exact Wp.tr st' (k T' _ v L T'.vm X2 rfl hS2 hZ2 ho2 h2.1 hQ)
/-- a String constant, its text not yet loaded since the case's start -/
theorem ldcNew (X : Stand p l e R (s.setVm vm0) m args below meth c T locs cells slots) (hx : p.tables.exec = Jvm.exec) (hZ : Z.Warmed39 vm0) {own text : String} {index : Nat} (hown : vm0.findClass own = some m.cls) (w : (Cond.stringLink own index text).before a0 Z = true) (wS : ∀ a ∈ Bundle.stringAtoms, a.before a0 Z = true) (eT : T.heap = h) {k0 : Nat} (hS : s.Since vm0 k0) (hk : k0 ≤ h.size) (N : Fr s.heap.size locs) (O : Old Z Z.heap.size s.heap) {Ts : List String} (I : IB Z vm0 Ts) (hnot : text ∉ Ts) (hh : Jvm.Lit.constHeld Z own index) (hcw : Jvm.Lit.compactW.before a0 Z = true)
    {vs : List Value} {z : Int32} (ht : (∀ c ∈ text.toList, c.toNat < 256) ∧ text.toList.map (fun c => Value.int (Jvm.Lit.byteI c.toNat.toUInt16)) = vs) (hz : ¬ z < 0) (hl : z.toNatClampNeg = vs.length) (hd : decode c.code pc = .ok (.ldc index, 2)) (hq : pc + 2 = q) (n : Nat) (hn : 4 * text.toList.length ≤ n) (hbig : n ≤ 536870912) (hc : cells + 2 ≤ R.cells) (hl' : slots + (n + 4) ≤ R.slots)
    (k : ∀ (T' : State) (h' : Heap) (a b : Addr) (kb : ClassId) (vm1 : Vm), Stand p l e R (s.setVm vm1) m args below meth c T' locs (cells + 2) (slots + (n + 4)) → T'.heap = h' → Ext h h' → s.Since vm1 h'.size → Z.Warmed39 vm1 → vm1.findClass own = some m.cls → (s.setVm vm0).Warmed39 vm1 → Exa Z h' a "java/lang/String" → Fld Z h' a "java/lang/String" "coder" "B" (.int 0) → Fld Z h' a "java/lang/String" "value" "[B" (.ref b) → Arv Z h' b kb .byte z vs (.int 0) → IB Z vm1 (text :: Ts) → LitV Z vm1 own index a → Wp p e below Q F T' (mkF m q Ls (.ref a :: st))) : Wp p e below Q F T (mkF m pc Ls st) := by
  subst hq
  have h00 : (s.setVm vm0).Since vm0 h.size := (State.WarmedH.refl (s.setVm vm0)).since _
  obtain ⟨a, T', h', k1, b, kb, X', e', E, hS', hk', hZ', ho', A1, A2, A3, A4, -, -, I', L', st'⟩ := ldcSVL (s := s.setVm vm0) (vm0 := vm0) X hx hZ hown w wS eT h00 (Nat.le_refl _) N (fun b cl q => O.2.2 b cl q) I hnot hh hcw ht hz hl (g := mkF m pc Ls st) rfl hd hn hbig hc hl'
  exact Wp.st st' (k T' h' a b kb T'.vm X' e' E (hS.trans (sinceMono hS' hk') (Nat.le_trans hk E.1)) hZ' ho' hS'.1 A1 A2 A3 A4 I' L')
/-- .. loaded already -/
theorem ldcOld (X : Stand p l e R (s.setVm vm0) m args below meth c T locs cells slots) (hx : p.tables.exec = Jvm.exec) (hZ : Z.Warmed39 vm0) {own text : String} {index : Nat} (hown : vm0.findClass own = some m.cls) (w : (Cond.stringLink own index text).before a0 Z = true) {a : Addr} (L : LitV Z vm0 own index a) (hd : decode c.code pc = .ok (.ldc index, 2)) (hq : pc + 2 = q) (k : Wp p e below Q F T (mkF m q Ls (.ref a :: st))) : Wp p e below Q F T (mkF m pc Ls st) := by
  subst hq
  exact Wp.st (ldcAgain X hx hZ hown w (L : Lit (s.setVm vm0) own index a) (g := mkF m pc Ls st) rfl hd) k
/-- .. what it holds doesn't matter -/
theorem ldcAny (X : Stand p l e R (s.setVm vm0) m args below meth c T locs cells slots) (hx : p.tables.exec = Jvm.exec) (hZ : Z.Warmed39 vm0) {own text : String} {index : Nat} (hown : vm0.findClass own = some m.cls) (w : (Cond.stringLink own index text).before a0 Z = true) (wS : ∀ a ∈ Bundle.stringAtoms, a.before a0 Z = true) (eT : T.heap = h) {k0 : Nat} (hS : s.Since vm0 k0) (hk : k0 ≤ h.size) (hd : decode c.code pc = .ok (.ldc index, 2)) (hq : pc + 2 = q) (n : Nat) (hn : 4 * text.toList.length ≤ n) (hbig : n ≤ 536870912) (hc : cells + 2 ≤ R.cells) (hl' : slots + (n + 4) ≤ R.slots)
    (k : ∀ (T' : State) (h' : Heap) (a : Addr) (vm1 : Vm), Stand p l e R (s.setVm vm1) m args below meth c T' locs (cells + 2) (slots + (n + 4)) → T'.heap = h' → Ext h h' → s.Since vm1 h'.size → Z.Warmed39 vm1 → vm1.findClass own = some m.cls → (s.setVm vm0).Warmed39 vm1 → Wp p e below Q F T' (mkF m q Ls (.ref a :: st))) : Wp p e below Q F T (mkF m pc Ls st) := by
  subst hq
  have h00 : (s.setVm vm0).Since vm0 h.size := (State.WarmedH.refl (s.setVm vm0)).since _
  obtain ⟨a, T', h', k1, X', e', E, hS', hk', hZ', ho', st'⟩ := ldcS (s := s.setVm vm0) (vm0 := vm0) X hx hZ hown w wS eT h00 (Nat.le_refl _) (g := mkF m pc Ls st) rfl hd hn hbig hc hl'
  exact Wp.st st' (k T' h' a T'.vm X' e' E (hS.trans (sinceMono hS' hk') (Nat.le_trans hk E.1)) hZ' ho' hS'.1)
/-- ends, wide -/
theorem retIW (X : Stand p l e R (s.setVm vm0) m args below meth c T locs cells slots) (hx : p.tables.exec = Jvm.exec) {k0 : Nat} (hS : s.Since vm0 k0) (hk : k0 ≤ h.size) (hlk : meth.locks = false) (hr : meth.sig.returnType = some .int) {z : Int32} (hd : decode c.code pc = .ok (.ireturn, 1)) {C S : Nat} (hC : cells ≤ C) (hSl : slots ≤ S) {Qc : Option Value → Vm → Heap → List Loc → Prop} (eT : T.heap = h) (k : ∀ vm, (s.setVm vm0).WarmedH vm → Qc (some (.int z)) vm h locs) : Wp p e below (fun v t L => Qc v t.vm t.heap L) (WF s C S) T (mkF m pc Ls (.int z :: st)) := by
  obtain ⟨fs, h1, h2, h3, hs⟩ := X.leaveW hS (by rw [eT]; exact hk) (v := some (.int z)) (fun h => by rw [hr] at h; cases h)
  refine ⟨_, _, _, ?_, h2, h3, (by subst eT; exact k _ X.warmed), hs.1, hs.2.1, hs.2.2.1, hs.2.2.2.mono hC hSl⟩
  exact retOut X hx hr rfl (Or.inl ⟨rfl, Or.inl rfl, _, rfl⟩) hd h1
theorem retZW (X : Stand p l e R (s.setVm vm0) m args below meth c T locs cells slots) (hx : p.tables.exec = Jvm.exec) {k0 : Nat} (hS : s.Since vm0 k0) (hk : k0 ≤ h.size) (hlk : meth.locks = false) {t : FieldType} (hr : meth.sig.returnType = some t) (ht : t = .boolean ∨ t = .byte ∨ t = .char ∨ t = .short) {z : Int32} (hd : decode c.code pc = .ok (.ireturn, 1)) {C S : Nat} (hC : cells ≤ C) (hSl : slots ≤ S) {Qc : Option Value → Vm → Heap → List Loc → Prop} (eT : T.heap = h) (k : ∀ vm, (s.setVm vm0).WarmedH vm → Qc (some (.int (nar t z))) vm h locs) : Wp p e below (fun v t L => Qc v t.vm t.heap L) (WF s C S) T (mkF m pc Ls (.int z :: st)) := by
  obtain ⟨fs, h1, h2, h3, hs⟩ := X.leaveW hS (by rw [eT]; exact hk) (v := some (.int (nar t z))) (fun h => by rw [hr] at h; cases h)
  refine ⟨_, _, _, ?_, h2, h3, (by subst eT; exact k _ X.warmed), hs.1, hs.2.1, hs.2.2.1, hs.2.2.2.mono hC hSl⟩
  exact retN X hx (t := t) hr ht hd h1
theorem retAW (X : Stand p l e R (s.setVm vm0) m args below meth c T locs cells slots) (hx : p.tables.exec = Jvm.exec) {k0 : Nat} (hS : s.Since vm0 k0) (hk : k0 ≤ h.size) (hlk : meth.locks = false) {t : FieldType} (hr : meth.sig.returnType = some t) (ht : t.isReference = true) {w : Value} (hw : w.isRef = true) (hd : decode c.code pc = .ok (.areturn, 1)) {C S : Nat} (hC : cells ≤ C) (hSl : slots ≤ S) {Qc : Option Value → Vm → Heap → List Loc → Prop} (eT : T.heap = h) (k : ∀ vm, (s.setVm vm0).WarmedH vm → Qc (some w) vm h locs) : Wp p e below (fun v t L => Qc v t.vm t.heap L) (WF s C S) T (mkF m pc Ls (w :: st)) := by
  obtain ⟨fs, h1, h2, h3, hs⟩ := X.leaveW hS (by rw [eT]; exact hk) (v := some w) (fun h => by rw [hr] at h; cases h)
  refine ⟨_, _, _, ?_, h2, h3, (by subst eT; exact k _ X.warmed), hs.1, hs.2.1, hs.2.2.1, hs.2.2.2.mono hC hSl⟩
  exact retOut X hx hr (narR ht) (Or.inr (Or.inr (Or.inr (Or.inr ⟨rfl, ht, hw⟩)))) hd h1
theorem ret0W (X : Stand p l e R (s.setVm vm0) m args below meth c T locs cells slots) (hx : p.tables.exec = Jvm.exec) {k0 : Nat} (hS : s.Since vm0 k0) (hk : k0 ≤ h.size) (hlk : meth.locks = false) (hr : meth.sig.returnType = none) (hd : decode c.code pc = .ok (.return_, 1)) {C S : Nat} (hC : cells ≤ C) (hSl : slots ≤ S) {Qc : Option Value → Vm → Heap → List Loc → Prop} (eT : T.heap = h) (k : ∀ vm, (s.setVm vm0).WarmedH vm → Qc none vm h locs) : Wp p e below (fun v t L => Qc v t.vm t.heap L) (WF s C S) T (mkF m pc Ls []) := by
  obtain ⟨fs, h1, h2, h3, hs⟩ := X.leaveW hS (by rw [eT]; exact hk) (v := none) (fun _ => rfl)
  refine ⟨_, _, _, ?_, h2, h3, (by subst eT; exact k _ X.warmed), hs.1, hs.2.1, hs.2.2.1, hs.2.2.2.mono hC hSl⟩
  exact X.returnOut hx hr hd h1
end D
end W
end Jvm.OwnW
/- laws to paste: Road.backV (cut by pick.py; bodies as the Statement names them) -/
namespace Jvm.Pilot.@@N@@
namespace StrChars
open Jvm Sem ClassFile Op Lib Jvm.Stand Jvm.Free.XT Jvm.Free.ALB Jvm.Free.JM Jvm.Free
open Jvm.Lib.Cold (StaticIs)
/-- a char array whose places are chars -/
def Ch (a : Addr) (A : Cell) (U : State) : Prop := Arr .char a A U ∧ Typed .char A
theorem Ch.mv {a : Addr} {A : Cell} {U U' : State} (h : Ch a A U) (hal : U.vm.Alike U'.vm) (hh : U'.heap = U.heap) : Ch a A U' := ⟨h.1.mv hal hh, h.2⟩
theorem Ch.keep {a : Addr} {A : Cell} {U U' : State} (h : Ch a A U) (hal : U.vm.Alike U'.vm) (hk : U'.heap[a]? = some A) : Ch a A U' := ⟨h.1.keep hal hk, h.2⟩
/-- what place i of a char[]'s cell holds -/
def cv (A : Cell) (i : Nat) : Int32 := match A.slots[i]? with | some (.int x) => x | _ => 0
theorem Ch.get {a : Addr} {A : Cell} {U : State} (h : Ch a A U) {i : Nat} (hi : i < A.slots.size) : A.slots[i]? = some (.int (cv A i)) := by
  have e := Array.getElem?_eq_getElem hi
  have f := h.2 i _ e
  unfold cv; rw [e]
  generalize A.slots[i] = v at f
  cases v <;> simp [fits] at f ⊢
/-- the byte that i2b leaves of a char -/
def lo8 (x : Int32) : Int32 := x.toInt8.toInt32
theorem fits_lo8 (y : Int32) : fits .byte (.int (lo8 y)) = true := by
  have h1 := y.toInt8.le_toInt
  have h2 := y.toInt8.toInt_lt
  simp only [lo8, fits, Bool.and_eq_true, decide_eq_true_eq, Int32.le_iff_toInt_le, Int8.toInt_toInt32, show (-128 : Int32).toInt = -128 from by decide, show (127 : Int32).toInt = 127 from by decide]
  omega
/-- A' is A but that each place j of lo .. hi - 1 holds f j -/
def Laid (A A' : Cell) (lo hi : Nat) (f : Nat → Value) : Prop := A'.cls = A.cls ∧ A'.vm = A.vm ∧ A'.slots.size = A.slots.size ∧ ∀ i, A'.slots[i]? = if lo ≤ i ∧ i < hi then some (f i) else A.slots[i]?
theorem Laid.zero (A : Cell) (lo : Nat) (f : Nat → Value) : Laid A A lo (lo + 0) f := ⟨rfl, rfl, rfl, fun i => by rw [if_neg (by omega)]⟩
theorem Laid.step {A Ak : Cell} {lo k : Nat} {f : Nat → Value} {v : Value} (h : Laid A Ak lo k f) (hlo : lo ≤ k) (hk : k < Ak.slots.size) (hv : v = f k) : Laid A (Ak.setSlot k v) lo (k + 1) f := by
  refine ⟨h.1, h.2.1, by simpa [Cell.setSlot] using h.2.2.1, fun i => ?_⟩
  by_cases e : k = i
  · subst e; rw [Cell.slots_setSlot_self v hk, if_pos (by omega), hv]
  · rw [Cell.slots_setSlot_ne v e, h.2.2.2 i]
    by_cases q : lo ≤ i ∧ i < k
    · rw [if_pos q, if_pos (by omega)]
    · rw [if_neg q, if_neg (by omega)]
def U16 : String := "java/lang/StringUTF16"
namespace Cmp5
def yN : MethodName := ⟨"java/lang/StringUTF16", "compress", "([CI[BII)I"⟩
abbrev yB : ByteArray := jdk_52_method_21_code
theorem d0 : decode yB 0 = .ok (.iconst 0, 1) := by decide +kernel
theorem d1 : decode yB 1 = .ok (.istore 5, 2) := by decide +kernel
theorem d3 : decode yB 3 = .ok (.iload 5, 2) := by decide +kernel
theorem d5 : decode yB 5 = .ok (.iload 4, 2) := by decide +kernel
theorem d7 : decode yB 7 = .ok (.if_icmp (.ge) 37, 3) := by decide +kernel
theorem d10 : decode yB 10 = .ok (.aload_n 0, 1) := by decide +kernel
theorem d11 : decode yB 11 = .ok (.iload_n 1, 1) := by decide +kernel
theorem d12 : decode yB 12 = .ok (.caload, 1) := by decide +kernel
theorem d13 : decode yB 13 = .ok (.istore 6, 2) := by decide +kernel
theorem d15 : decode yB 15 = .ok (.iload 6, 2) := by decide +kernel
theorem d17 : decode yB 17 = .ok (.sipush 255, 3) := by decide +kernel
theorem d20 : decode yB 20 = .ok (.if_icmp (.le) 6, 3) := by decide +kernel
theorem d26 : decode yB 26 = .ok (.aload_n 2, 1) := by decide +kernel
theorem d27 : decode yB 27 = .ok (.iload_n 3, 1) := by decide +kernel
theorem d28 : decode yB 28 = .ok (.iload 6, 2) := by decide +kernel
theorem d30 : decode yB 30 = .ok (.i2b, 1) := by decide +kernel
theorem d31 : decode yB 31 = .ok (.bastore, 1) := by decide +kernel
theorem d32 : decode yB 32 = .ok (.iinc 1 1, 3) := by decide +kernel
theorem d35 : decode yB 35 = .ok (.iinc 3 1, 3) := by decide +kernel
theorem d38 : decode yB 38 = .ok (.iinc 5 1, 3) := by decide +kernel
theorem d41 : decode yB 41 = .ok (.goto (-38), 3) := by decide +kernel
theorem d44 : decode yB 44 = .ok (.iload 4, 2) := by decide +kernel
theorem d46 : decode yB 46 = .ok (.ireturn, 1) := by decide +kernel
def site : List Cond := []
def tab : Cond := tabOf yN yB 7 (some .int) site
def P (b : Addr) (A : Cell) (d : Addr) (B : Cell) (o q len : Nat) (args : Array Value) (s : State) : Prop := args = #[.ref b, .int (Int32.ofNat o), .ref d, .int (Int32.ofNat q), .int (Int32.ofNat len)] ∧ Ch b A s ∧ Arr .byte d B s ∧ b ≠ d ∧ o + len ≤ A.slots.size ∧ q + len ≤ B.slots.size ∧ ∀ i, i < len → ¬ 255 < cv A (o + i)
def E (b : Addr) (A : Cell) (d : Addr) (B : Cell) (o q len : Nat) (r : Option Value) (s u : State) : Prop := r = some (.int (Int32.ofNat len)) ∧ ∃ B', Put d B' s u ∧ Laid B B' q (q + len) (fun j => Value.int (lo8 (cv A (o + (j - q)))))
/-- no char of the range above 255: len; the places written hold each char's low byte -/
theorem law (l : Launch) (b : Addr) (A : Cell) (d : Addr) (B : Cell) (o q len : Nat) : Law l yN 5 5 0 0 yB 7 (some .int) site (P b A d B o q len) (E b A d B o q len) (copyLocs d q len) 0 0 := by
  refine Law.of_walk (plainFor_of_name (by decide +kernel)) (by decide +kernel) (by decide +kernel) (by decide) (fun _ _ h => by rw [h.1]; rfl) (fun _ U U' hal hh h => ⟨h.1, h.2.1.mv hal hh, h.2.2.1.mv hal hh, h.2.2.2⟩) (fun r U U' V V' h1 hal h2 h => ⟨h.1, h.2.elim fun B' q => ⟨B', q.1.mv h1 h2, q.2⟩⟩) ?_
  intro p e s m args below meth c s₁ X0 hexec hbytes hml hret hlk hnm hown hh0 W hP
  obtain ⟨rfl, hA, hB, hne, l1, l2, hp⟩ := hP
  have c1 : Steps p.tables e below (s₁.setTop (entryFrame m #[.ref b, .int (Int32.ofNat o), .ref d, .int (Int32.ofNat q), .int (Int32.ofNat len)] 7)) (s₁.setTop (mkF m 0 #[.val (.ref b), .val (.int (Int32.ofNat o)), .val (.ref d), .val (.int (Int32.ofNat q)), .val (.int (Int32.ofNat len)), .unset, .unset] [])) := entry rfl
  have hA0 := hA.1.mv X0.warmed.alike hh0
  have hB0 := hB.mv X0.warmed.alike hh0
  have a31 := hA.1.2.2.2
  have c2 : Steps p.tables e below (s₁.setTop (entryFrame m #[.ref b, .int (Int32.ofNat o), .ref d, .int (Int32.ofNat q), .int (Int32.ofNat len)] 7)) (s₁.setTop (mkF m 3 #[.val (.ref b), .val (.int (Int32.ofNat o)), .val (.ref d), .val (.int (Int32.ofNat q)), .val (.int (Int32.ofNat len)), .val (.int 0), .unset] [])) := c1.trans (by
    refine iconstV X0.here hexec rfl 0 (hb hbytes d0) (by decide) ?_
    refine XS.istore X0.here hexec rfl (hb hbytes d1) rfl rfl ?_
    exact Steps.refl _)
  have loop : ∀ (r i : Nat), i + r = len → ∀ (z : Slot), (z = .unset ∨ ∃ w, z = .val w ∧ w.category = 1) → ∀ (Tl : State) (Bk : Cell), Stand p l e { frames := 0, locals := 0, cells := 0, slots := 0 } s m #[.ref b, .int (Int32.ofNat o), .ref d, .int (Int32.ofNat q), .int (Int32.ofNat len)] below meth c Tl ([] ++ copyLocs d q i) 0 0 → Put d Bk s₁ Tl → Laid B Bk q (q + i) (fun j => Value.int (lo8 (cv A (o + (j - q))))) →
      Steps p.tables e below (s₁.setTop (entryFrame m #[.ref b, .int (Int32.ofNat o), .ref d, .int (Int32.ofNat q), .int (Int32.ofNat len)] 7)) (Tl.setTop (mkF m 3 #[.val (.ref b), .val (.int (Int32.ofNat (o + i))), .val (.ref d), .val (.int (Int32.ofNat (q + i))), .val (.int (Int32.ofNat len)), .val (.int (Int32.ofNat i)), z] [])) → ∃ (T' : State) (B' : Cell) (z' : Slot), Stand p l e { frames := 0, locals := 0, cells := 0, slots := 0 } s m #[.ref b, .int (Int32.ofNat o), .ref d, .int (Int32.ofNat q), .int (Int32.ofNat len)] below meth c T' ([] ++ copyLocs d q len) 0 0 ∧ Put d B' s₁ T' ∧ Laid B B' q (q + len) (fun j => Value.int (lo8 (cv A (o + (j - q))))) ∧
      Steps p.tables e below (s₁.setTop (entryFrame m #[.ref b, .int (Int32.ofNat o), .ref d, .int (Int32.ofNat q), .int (Int32.ofNat len)] 7)) (T'.setTop (mkF m 3 #[.val (.ref b), .val (.int (Int32.ofNat (o + len))), .val (.ref d), .val (.int (Int32.ofNat (q + len))), .val (.int (Int32.ofNat len)), .val (.int (Int32.ofNat len)), z'] [])) := by
    intro r
    induction r with
    | zero =>
      intro i hi z hz Tl Bk Xl pl fl cl
      have hil : i = len := by omega
      rw [hil] at Xl fl cl
      exact ⟨Tl, Bk, z, Xl, pl, fl, cl⟩
    | succ r ih =>
      intro i hi z hz Tl Bk Xl pl fl cl
      have all := X0.warmed.alike.symm.trans Xl.warmed.alike
      have hAl := hA0.keep all (pl.other hne hA0.1)
      have hBk := hB0.like all pl.1 fl.1 fl.2.1 fl.2.2.1
      have hlt : q + i < Bk.slots.size := by rw [fl.2.2.1]; omega
      have c3 : Steps p.tables e below (s₁.setTop (entryFrame m #[.ref b, .int (Int32.ofNat o), .ref d, .int (Int32.ofNat q), .int (Int32.ofNat len)] 7)) (Tl.setTop (mkF m 12 #[.val (.ref b), .val (.int (Int32.ofNat (o + i))), .val (.ref d), .val (.int (Int32.ofNat (q + i))), .val (.int (Int32.ofNat len)), .val (.int (Int32.ofNat i)), z] [.int (Int32.ofNat (o + i)), .ref b])) := cl.trans (by
        refine XS.iload Xl.here hexec rfl (hb hbytes d3) rfl ?_
        refine XS.iload Xl.here hexec rfl (hb hbytes d5) rfl ?_
        refine XS.icmpNo Xl.here hexec rfl (hb hbytes d7) rfl (ii_ge_f (lt32 (by omega) (by omega))) ?_
        refine XS.aloadN Xl.here hexec rfl (hb hbytes d10) rfl rfl ?_
        refine XS.iloadN Xl.here hexec rfl (hb hbytes d11) rfl ?_
        exact Steps.refl _)
      have c4 : Steps p.tables e below (s₁.setTop (entryFrame m #[.ref b, .int (Int32.ofNat o), .ref d, .int (Int32.ofNat q), .int (Int32.ofNat len)] 7)) (Tl.setTop (mkF m 13 #[.val (.ref b), .val (.int (Int32.ofNat (o + i))), .val (.ref d), .val (.int (Int32.ofNat (q + i))), .val (.int (Int32.ofNat len)), .val (.int (Int32.ofNat i)), z] [.int (cv A (o + i))])) := c3.trans (by
        refine Xl.aget hexec hAl rfl (hA.get (i := o + i) (by omega)) rfl rfl (hb hbytes d12) ?_
        exact Steps.refl _)
      have c5 : Steps p.tables e below (s₁.setTop (entryFrame m #[.ref b, .int (Int32.ofNat o), .ref d, .int (Int32.ofNat q), .int (Int32.ofNat len)] 7)) (Tl.setTop (mkF m 15 #[.val (.ref b), .val (.int (Int32.ofNat (o + i))), .val (.ref d), .val (.int (Int32.ofNat (q + i))), .val (.int (Int32.ofNat len)), .val (.int (Int32.ofNat i)), .val (.int (cv A (o + i)))] [])) := c4.trans (by
        refine XS.istoreS Xl.here hexec rfl (hb hbytes d13) rfl rfl hz ?_
        exact Steps.refl _)
      have c6 : Steps p.tables e below (s₁.setTop (entryFrame m #[.ref b, .int (Int32.ofNat o), .ref d, .int (Int32.ofNat q), .int (Int32.ofNat len)] 7)) (Tl.setTop (mkF m 31 #[.val (.ref b), .val (.int (Int32.ofNat (o + i))), .val (.ref d), .val (.int (Int32.ofNat (q + i))), .val (.int (Int32.ofNat len)), .val (.int (Int32.ofNat i)), .val (.int (cv A (o + i)))] [.int (lo8 (cv A (o + i))), .int (Int32.ofNat (q + i)), .ref d])) := c5.trans (by
        refine XS.iload Xl.here hexec rfl (hb hbytes d15) rfl ?_
        refine sipushV Xl.here hexec rfl 255 (hb hbytes d17) (by decide) ?_
        refine XS.icmpYes Xl.here hexec rfl (pc0 := 20) rfl (hb hbytes d20) rfl (ii_le_t (hp i (by omega))) (by decide) rfl ?_
        refine XS.aloadN Xl.here hexec rfl (hb hbytes d26) rfl rfl ?_
        refine XS.iloadN Xl.here hexec rfl (hb hbytes d27) rfl ?_
        refine XS.iload Xl.here hexec rfl (hb hbytes d28) rfl ?_
        refine i2b Xl.here hexec rfl (hb hbytes d30) rfl ?_
        exact Steps.refl _)
      obtain ⟨T7, X7, p7, st7⟩ := Xl.aput hexec hBk rfl hlt rfl (fits_lo8 (cv A (o + i))) (g := (mkF m 31 #[.val (.ref b), .val (.int (Int32.ofNat (o + i))), .val (.ref d), .val (.int (Int32.ofNat (q + i))), .val (.int (Int32.ofNat len)), .val (.int (Int32.ofNat i)), .val (.int (cv A (o + i)))] [.int (lo8 (cv A (o + i))), .int (Int32.ofNat (q + i)), .ref d])) rfl (rest := []) rfl (hb hbytes d31)
      have c8 : Steps p.tables e below (s₁.setTop (entryFrame m #[.ref b, .int (Int32.ofNat o), .ref d, .int (Int32.ofNat q), .int (Int32.ofNat len)] 7)) (T7.setTop (mkF m 32 #[.val (.ref b), .val (.int (Int32.ofNat (o + i))), .val (.ref d), .val (.int (Int32.ofNat (q + i))), .val (.int (Int32.ofNat len)), .val (.int (Int32.ofNat i)), .val (.int (cv A (o + i)))] [])) := c6.trans (st7 _ (Steps.refl _))
      have c9 : Steps p.tables e below (s₁.setTop (entryFrame m #[.ref b, .int (Int32.ofNat o), .ref d, .int (Int32.ofNat q), .int (Int32.ofNat len)] 7)) (T7.setTop (mkF m 3 #[.val (.ref b), .val (.int (Int32.ofNat (o + i) + 1)), .val (.ref d), .val (.int (Int32.ofNat (q + i) + 1)), .val (.int (Int32.ofNat len)), .val (.int (Int32.ofNat i + 1)), .val (.int (cv A (o + i)))] [])) := c8.trans (by
        refine iincV X7.here hexec rfl 1 (hb hbytes d32) (by decide) rfl rfl ?_
        refine iincV X7.here hexec rfl 1 (hb hbytes d35) (by decide) rfl rfl ?_
        refine iincV X7.here hexec rfl 1 (hb hbytes d38) (by decide) rfl rfl ?_
        refine XS.goto X7.here hexec rfl (pc0 := 41) rfl (hb hbytes d41) (by decide) rfl ?_
        exact Steps.refl _)
      have c10 : Steps p.tables e below (s₁.setTop (entryFrame m #[.ref b, .int (Int32.ofNat o), .ref d, .int (Int32.ofNat q), .int (Int32.ofNat len)] 7)) (T7.setTop (mkF m 3 #[.val (.ref b), .val (.int (Int32.ofNat (o + (i + 1)))), .val (.ref d), .val (.int (Int32.ofNat (q + (i + 1)))), .val (.int (Int32.ofNat len)), .val (.int (Int32.ofNat (i + 1))), .val (.int (cv A (o + i)))] [])) := by
        have := c9
        rw [succ32, succ32, succ32] at this
        exact this
      exact ih (i + 1) (by omega) _ (Or.inr ⟨_, rfl, rfl⟩) T7 _ (by rw [copyLocs_step, ← List.append_assoc]; exact X7) (pl.trans p7) (fl.step (by omega) hlt (by simp)) c10
  obtain ⟨T9, B9, z9, X9, p9, f9, g9⟩ := loop len 0 (by omega) .unset (Or.inl rfl) s₁ B (by simpa [copyLocs] using X0) ⟨hB0.1, fun _ _ => rfl, rfl⟩ (Laid.zero _ _ _) c2
  have c11 : Steps p.tables e below (s₁.setTop (entryFrame m #[.ref b, .int (Int32.ofNat o), .ref d, .int (Int32.ofNat q), .int (Int32.ofNat len)] 7)) (T9.setTop (mkF m 46 #[.val (.ref b), .val (.int (Int32.ofNat (o + len))), .val (.ref d), .val (.int (Int32.ofNat (q + len))), .val (.int (Int32.ofNat len)), .val (.int (Int32.ofNat len)), z9] [.int (Int32.ofNat len)])) := g9.trans (by
    refine XS.iload X9.here hexec rfl (hb hbytes d3) rfl ?_
    refine XS.iload X9.here hexec rfl (hb hbytes d5) rfl ?_
    refine XS.icmpYes X9.here hexec rfl (pc0 := 7) rfl (hb hbytes d7) rfl (ii_ge_t (nlt32 (by omega) (Nat.le_refl _))) (by decide) rfl ?_
    refine XS.iload X9.here hexec rfl (hb hbytes d44) rfl ?_
    exact Steps.refl _)
  exact ⟨T9, some (.int (Int32.ofNat len)), _, _, _, X9, by simp, rfl, rfl, (fun h => by cases h), ⟨rfl, B9, p9.from hh0, f9⟩, fun fs hl => c11.trans (X9.ireturnOut hexec hret rfl (Or.inl rfl) (hb hbytes d46) hl)⟩
end Cmp5
namespace Cmp3
def yN : MethodName := ⟨"java/lang/StringUTF16", "compress", "([CII)[B"⟩
abbrev yB : ByteArray := jdk_52_method_16_code
theorem d0 : decode yB 0 = .ok (.iload_n 2, 1) := by decide +kernel
theorem d1 : decode yB 1 = .ok (.newarray .byte, 2) := by decide +kernel
theorem d3 : decode yB 3 = .ok (.astore_n 3, 1) := by decide +kernel
theorem d4 : decode yB 4 = .ok (.aload_n 0, 1) := by decide +kernel
theorem d5 : decode yB 5 = .ok (.iload_n 1, 1) := by decide +kernel
theorem d6 : decode yB 6 = .ok (.aload_n 3, 1) := by decide +kernel
theorem d7 : decode yB 7 = .ok (.iconst 0, 1) := by decide +kernel
theorem d8 : decode yB 8 = .ok (.iload_n 2, 1) := by decide +kernel
theorem d9 : decode yB 9 = .ok (.invokestatic 115, 3) := by decide +kernel
theorem d12 : decode yB 12 = .ok (.istore 4, 2) := by decide +kernel
theorem d14 : decode yB 14 = .ok (.iload 4, 2) := by decide +kernel
theorem d16 : decode yB 16 = .ok (.iload_n 2, 1) := by decide +kernel
theorem d17 : decode yB 17 = .ok (.if_icmp (.eq) 40, 3) := by decide +kernel
theorem d57 : decode yB 57 = .ok (.aload_n 3, 1) := by decide +kernel
theorem d58 : decode yB 58 = .ok (.areturn, 1) := by decide +kernel
def site : List Cond := [.arrayClass .byte, Cmp5.tab] ++ staticW U16 115 Cmp5.yN
def tab : Cond := tabOf yN yB 6 (some (.array .byte)) site
def P (b : Addr) (A : Cell) (o len : Nat) (args : Array Value) (s : State) : Prop := args = #[.ref b, .int (Int32.ofNat o), .int (Int32.ofNat len)] ∧ Ch b A s ∧ o + len ≤ A.slots.size ∧ len ≤ 536870912 ∧ ∀ i, i < len → ¬ 255 < cv A (o + i)
def E (b : Addr) (A : Cell) (o len : Nat) (r : Option Value) (s u : State) : Prop := NewArr .byte "[B" len (fun j => .int (lo8 (cv A (o + j)))) r s u ∧ u.heap.size = s.heap.size + 1
/-- no char of the range above 255: a new byte[] of their low bytes -/
theorem law (l : Launch) (b : Addr) (A : Cell) (o len : Nat) : Law l yN 3 3 1 18 yB 6 (some (.array .byte)) site (P b A o len) (E b A o len) [] 1 len := by
  refine Law.of_walk (plainFor_of_name (by decide +kernel)) (by decide +kernel) (by decide +kernel) (by decide) (fun _ _ h => by rw [h.1]; rfl) (fun _ U U' hal hh h => ⟨h.1, h.2.1.mv hal hh, h.2.2⟩) (fun r U U' V V' h1 hal h2 h => ⟨NewArr.mv r U U' V V' h1 hal h2 h.1, by rw [h1, h2]; exact h.2⟩) ?_
  intro p e s m args below meth c s₁ X0 hexec hbytes hml hret hlk hnm hown hh0 W hP
  obtain ⟨rfl, hA, l1, l2, hp⟩ := hP
  have a31 := hA.1.2.2.2
  have c1 : Steps p.tables e below (s₁.setTop (entryFrame m #[.ref b, .int (Int32.ofNat o), .int (Int32.ofNat len)] 6)) (s₁.setTop (mkF m 0 #[.val (.ref b), .val (.int (Int32.ofNat o)), .val (.int (Int32.ofNat len)), .unset, .unset, .unset] [])) := entry rfl
  have c2 : Steps p.tables e below (s₁.setTop (entryFrame m #[.ref b, .int (Int32.ofNat o), .int (Int32.ofNat len)] 6)) (s₁.setTop (mkF m 1 #[.val (.ref b), .val (.int (Int32.ofNat o)), .val (.int (Int32.ofNat len)), .unset, .unset, .unset] [.int (Int32.ofNat len)])) := c1.trans (by
    refine XS.iloadN X0.here hexec rfl (hb hbytes d0) rfl ?_
    exact Steps.refl _)
  obtain ⟨T3, B3, X3, ba3, bs3, bv3, bh3, bf3, st3⟩ := X0.anew hexec (atype := .byte) (wk W (.arrayClass .byte)) rfl (by show len * 1 ≤ _; omega) (by omega) (g := (mkF m 1 #[.val (.ref b), .val (.int (Int32.ofNat o)), .val (.int (Int32.ofNat len)), .unset, .unset, .unset] [.int (Int32.ofNat len)])) rfl (hb hbytes d1) (rest := []) rfl (Nat.le_refl _) (by show 0 + len ≤ len; omega)
  rw [hh0] at ba3 st3
  have kp3 : XT.Kept s T3 := (XT.Kept.of_eq hh0).push bh3
  have hA3 := hA.keep X3.warmed.alike (kp3 _ _ hA.1.1)
  have hne : b ≠ s.heap.size := hA.1.ne
  have c4 : Steps p.tables e below (s₁.setTop (entryFrame m #[.ref b, .int (Int32.ofNat o), .int (Int32.ofNat len)] 6)) (T3.setTop (mkF m 3 #[.val (.ref b), .val (.int (Int32.ofNat o)), .val (.int (Int32.ofNat len)), .unset, .unset, .unset] [.ref s.heap.size])) := c2.trans (st3 _ (Steps.refl _))
  have c5 : Steps p.tables e below (s₁.setTop (entryFrame m #[.ref b, .int (Int32.ofNat o), .int (Int32.ofNat len)] 6)) (T3.setTop (mkF m 9 #[.val (.ref b), .val (.int (Int32.ofNat o)), .val (.int (Int32.ofNat len)), .val (.ref s.heap.size), .unset, .unset] [.int (Int32.ofNat len), .int 0, .ref s.heap.size, .int (Int32.ofNat o), .ref b])) := c4.trans (by
    refine XS.astoreN X3.here hexec rfl (hb hbytes d3) rfl rfl rfl ?_
    refine XS.aloadN X3.here hexec rfl (hb hbytes d4) rfl rfl ?_
    refine XS.iloadN X3.here hexec rfl (hb hbytes d5) rfl ?_
    refine XS.aloadN X3.here hexec rfl (hb hbytes d6) rfl rfl ?_
    refine iconstV X3.here hexec rfl 0 (hb hbytes d7) (by decide) ?_
    refine XS.iloadN X3.here hexec rfl (hb hbytes d8) rfl ?_
    exact Steps.refl _)
  obtain ⟨v6, T6, X6, E6, g6⟩ := X3.callS hexec (Cmp5.law l b A s.heap.size B3 o 0 len) hown (wks W (staticW U16 115 Cmp5.yN)) (wk W Cmp5.tab) (W := 0) (Nat.le_of_ble_eq_true rfl) (Nat.le_of_ble_eq_true rfl) (Nat.le_refl _) (by show 0 + len + 0 ≤ len; omega) (g := (mkF m 9 #[.val (.ref b), .val (.int (Int32.ofNat o)), .val (.int (Int32.ofNat len)), .val (.ref s.heap.size), .unset, .unset] [.int (Int32.ofNat len), .int (Int32.ofNat 0), .ref s.heap.size, .int (Int32.ofNat o), .ref b])) rfl (by rw [hml]; rfl) c5 (argsL := [.ref b, .int (Int32.ofNat o), .ref s.heap.size, .int (Int32.ofNat 0), .int (Int32.ofNat len)]) (rest := []) rfl rfl (by show 2 * 0 + 0 ≤ _; decide) (hb hbytes d9) (⟨rfl, hA3, ba3, hne, l1, by rw [bs3]; simp, hp⟩)
  obtain ⟨rfl, B6, p6, f6⟩ := E6
  have c7 : Steps p.tables e below (s₁.setTop (entryFrame m #[.ref b, .int (Int32.ofNat o), .int (Int32.ofNat len)] 6)) (T6.setTop (mkF m 12 #[.val (.ref b), .val (.int (Int32.ofNat o)), .val (.int (Int32.ofNat len)), .val (.ref s.heap.size), .unset, .unset] [.int (Int32.ofNat len)])) := g6
  have c8 : Steps p.tables e below (s₁.setTop (entryFrame m #[.ref b, .int (Int32.ofNat o), .int (Int32.ofNat len)] 6)) (T6.setTop (mkF m 58 #[.val (.ref b), .val (.int (Int32.ofNat o)), .val (.int (Int32.ofNat len)), .val (.ref s.heap.size), .val (.int (Int32.ofNat len)), .unset] [.ref s.heap.size])) := c7.trans (by
    refine XS.istore X6.here hexec rfl (hb hbytes d12) rfl rfl ?_
    refine XS.iload X6.here hexec rfl (hb hbytes d14) rfl ?_
    refine XS.iloadN X6.here hexec rfl (hb hbytes d16) rfl ?_
    refine XS.icmpYes X6.here hexec rfl (pc0 := 17) rfl (hb hbytes d17) rfl (ii_eq_t rfl) (by decide) rfl ?_
    refine XS.aloadN X6.here hexec rfl (hb hbytes d57) rfl rfl ?_
    exact Steps.refl _)
  have X8 := X6.wide (L' := []) (cells' := 1) (slots' := len) (fun x hx hlt => by
    simp only [List.nil_append, copyLocs, List.mem_map, List.mem_range] at hx
    obtain ⟨i, -, rfl⟩ := hx
    exact absurd hlt (Nat.lt_irrefl _)) (Nat.le_refl _) (by omega)
  exact ⟨T6, some (.ref s.heap.size), _, _, _, X8, rfl, rfl, rfl, (fun h => by cases h), ⟨⟨rfl, B6, ba3.like (X3.warmed.alike.symm.trans X6.warmed.alike) p6.1 f6.1 f6.2.1 f6.2.2.1, f6.2.1.trans bv3, by rw [X6.warmed.alike.findClass, f6.1]; exact bf3, by rw [f6.2.2.1, bs3]; simp, fun j hj => by rw [f6.2.2.2 j, if_pos (by omega)]; rfl, kp3.put p6 (Nat.le_refl _)⟩, by rw [p6.2.2, bh3, hh0]; simp⟩, fun fs hl => c8.trans (X8.areturnOut hexec rfl hret rfl (hb hbytes d58) hl)⟩
end Cmp3
namespace CodL
def yN : MethodName := ⟨"java/lang/StringUTF16", "coderFromArrayLen", "([BI)B"⟩
abbrev yB : ByteArray := jdk_52_method_15_code
theorem d0 : decode yB 0 = .ok (.iload_n 1, 1) := by decide +kernel
theorem d1 : decode yB 1 = .ok (.aload_n 0, 1) := by decide +kernel
theorem d2 : decode yB 2 = .ok (.arraylength, 1) := by decide +kernel
theorem d3 : decode yB 3 = .ok (.isub, 1) := by decide +kernel
theorem d4 : decode yB 4 = .ok (.bipush 31, 2) := by decide +kernel
theorem d6 : decode yB 6 = .ok (.iushr, 1) := by decide +kernel
theorem d7 : decode yB 7 = .ok (.i2b, 1) := by decide +kernel
theorem d8 : decode yB 8 = .ok (.ireturn, 1) := by decide +kernel
def site : List Cond := []
def tab : Cond := tabOf yN yB 2 (some .byte) site
def P (d : Addr) (B : Cell) (args : Array Value) (s : State) : Prop := args = #[.ref d, .int (Int32.ofNat B.slots.size)] ∧ Arr .byte d B s
def E (r : Option Value) (s u : State) : Prop := XT.PureE (some (.int 0)) r s u
/-- an array as long as the number of chars: LATIN1 -/
theorem law (l : Launch) (d : Addr) (B : Cell) : Law l yN 2 2 0 0 yB 2 (some .byte) site (P d B) E [] 0 0 := by
  refine Law.of_walk (plainFor_of_name (by decide +kernel)) (by decide +kernel) (by decide +kernel) (by decide) (fun _ _ h => by rw [h.1]; rfl) (fun _ U U' hal hh h => ⟨h.1, h.2.mv hal hh⟩) (fun r U U' V V' h1 hal h2 h => XT.PureE.mv r U U' V V' h1 hal h2 h) ?_
  intro p e s m args below meth c s₁ X0 hexec hbytes hml hret hlk hnm hown hh0 W hP
  obtain ⟨rfl, hB⟩ := hP
  have hB0 := hB.mv X0.warmed.alike hh0
  have c1 : Steps p.tables e below (s₁.setTop (entryFrame m #[.ref d, .int (Int32.ofNat B.slots.size)] 2)) (s₁.setTop (mkF m 0 #[.val (.ref d), .val (.int (Int32.ofNat B.slots.size))] [])) := entry rfl
  have c2 : Steps p.tables e below (s₁.setTop (entryFrame m #[.ref d, .int (Int32.ofNat B.slots.size)] 2)) (s₁.setTop (mkF m 2 #[.val (.ref d), .val (.int (Int32.ofNat B.slots.size))] [.ref d, .int (Int32.ofNat B.slots.size)])) := c1.trans (by
    refine XS.iloadN X0.here hexec rfl (hb hbytes d0) rfl ?_
    refine XS.aloadN X0.here hexec rfl (hb hbytes d1) rfl rfl ?_
    exact Steps.refl _)
  have c3 : Steps p.tables e below (s₁.setTop (entryFrame m #[.ref d, .int (Int32.ofNat B.slots.size)] 2)) (s₁.setTop (mkF m 8 #[.val (.ref d), .val (.int (Int32.ofNat B.slots.size))] [.int (lo8 (ushr (Int32.ofNat B.slots.size - Int32.ofNat B.slots.size) 31))])) := c2.trans (by
    refine X0.alen hexec hB0 rfl rfl (hb hbytes d2) ?_
    refine XS.isub X0.here hexec rfl (hb hbytes d3) rfl ?_
    refine bipushV X0.here hexec rfl 31 (hb hbytes d4) (by decide) ?_
    refine iushr X0.here hexec rfl (hb hbytes d6) rfl ?_
    refine i2b X0.here hexec rfl (hb hbytes d7) rfl ?_
    exact Steps.refl _)
  have e0 : lo8 (ushr (Int32.ofNat B.slots.size - Int32.ofNat B.slots.size) 31) = 0 := by rw [Int32.sub_self]; decide
  rw [e0] at c3
  exact ⟨s₁, some (.int 0), _, _, _, X0, rfl, rfl, rfl, (fun h => by cases h), ⟨rfl, hh0⟩, fun fs hl => c3.trans (X0.ireturnOut hexec hret rfl (Or.inr (Or.inr (Or.inl rfl))) (hb hbytes d8) hl)⟩
end CodL
/-- the String at a is Latin-1 over a new byte[] (the heap's one new cell): the low bytes of the len chars of A from o on; every cell but a is kept -/
def Got (a : Addr) (D : Cell) (fV fC : Field) (A : Cell) (o len : Nat) (r : Option Value) (s u : State) : Prop := r = none ∧ ∃ D' V : Cell, Blank "java/lang/String" a D' u ∧ Same D D' [fV.slot, fC.slot] ∧ D'.slots[fV.slot]? = some (.ref s.heap.size) ∧ D'.slots[fC.slot]? = some (.int 0) ∧ Arr .byte s.heap.size V u ∧ V.vm = .none ∧ u.vm.findClass "[B" = some V.cls ∧ V.slots.size = len ∧ (∀ j, j < len → V.slots[j]? = some (.int (lo8 (cv A (o + j))))) ∧ (∀ (y : Addr) (c : Cell), y ≠ a → s.heap[y]? = some c → u.heap[y]? = some c) ∧ u.heap.size = s.heap.size + 1
theorem Got.mv {a : Addr} {D A : Cell} {fV fC : Field} {o len : Nat} : ∀ r (U U' V V' : State), U'.heap = U.heap → V.vm.Alike V'.vm → V'.heap = V.heap → Got a D fV fC A o len r U V → Got a D fV fC A o len r U' V' :=
  fun r U U' V V' h1 hal h2 ⟨e0, D', X, a1, a2, a3, a4, a5, a6, a7, a8, a9, a10, a11⟩ => ⟨e0, D', X, a1.mv hal h2, a2, by rw [h1]; exact a3, a4, by rw [h1]; exact a5.mv hal h2, a6, by rw [hal.findClass]; exact a7, a8, a9, by rw [h1, h2]; exact a10, by rw [h1, h2]; exact a11⟩
namespace New4
def yN : MethodName := ⟨"java/lang/String", "<init>", "([CIILjava/lang/Void;)V"⟩
abbrev yB : ByteArray := jdk_42_method_149_code
theorem d0 : decode yB 0 = .ok (.aload_n 0, 1) := by decide +kernel
theorem d1 : decode yB 1 = .ok (.invokespecial 1, 3) := by decide +kernel
theorem d4 : decode yB 4 = .ok (.iload_n 3, 1) := by decide +kernel
theorem d5 : decode yB 5 = .ok (.ifCond (.ne) 22, 3) := by decide +kernel
theorem d27 : decode yB 27 = .ok (.getstatic 38, 3) := by decide +kernel
theorem d30 : decode yB 30 = .ok (.ifCond (.eq) 28, 3) := by decide +kernel
theorem d33 : decode yB 33 = .ok (.aload_n 1, 1) := by decide +kernel
theorem d34 : decode yB 34 = .ok (.iload_n 2, 1) := by decide +kernel
theorem d35 : decode yB 35 = .ok (.iload_n 3, 1) := by decide +kernel
theorem d36 : decode yB 36 = .ok (.invokestatic 177, 3) := by decide +kernel
theorem d39 : decode yB 39 = .ok (.astore 5, 2) := by decide +kernel
theorem d41 : decode yB 41 = .ok (.aload_n 0, 1) := by decide +kernel
theorem d42 : decode yB 42 = .ok (.aload 5, 2) := by decide +kernel
theorem d44 : decode yB 44 = .ok (.iload_n 3, 1) := by decide +kernel
theorem d45 : decode yB 45 = .ok (.invokestatic 47, 3) := by decide +kernel
theorem d48 : decode yB 48 = .ok (.putfield 15, 3) := by decide +kernel
theorem d51 : decode yB 51 = .ok (.aload_n 0, 1) := by decide +kernel
theorem d52 : decode yB 52 = .ok (.aload 5, 2) := by decide +kernel
theorem d54 : decode yB 54 = .ok (.putfield 9, 3) := by decide +kernel
theorem d57 : decode yB 57 = .ok (.return_, 1) := by decide +kernel
def site : List Cond := [.fieldLink "java/lang/String" 38 "java/lang/String" "COMPACT_STRINGS" "Z", Cmp3.tab, CodL.tab, .laysFinal "java/lang/String" "java/lang/String" "value" "[B", .fieldLink "java/lang/String" 9 "java/lang/String" "value" "[B", .laysFinal "java/lang/String" "java/lang/String" "coder" "B", .fieldLink "java/lang/String" 15 "java/lang/String" "coder" "B"] ++ objW "java/lang/String" 1 ++ staticW "java/lang/String" 177 Cmp3.yN ++ staticW "java/lang/String" 47 CodL.yN
def tab : Cond := tabOf yN yB 6 none site
def P (a : Addr) (D : Cell) (fV fC : Field) (b : Addr) (A : Cell) (z : Int32) (o len : Nat) (args : Array Value) (s : State) : Prop := args = #[.ref a, .ref b, .int (Int32.ofNat o), .int (Int32.ofNat len), .null] ∧ Blank "java/lang/String" a D s ∧ Found "java/lang/String" "value" "[B" fV s ∧ Found "java/lang/String" "coder" "B" fC s ∧ Ch b A s ∧ StaticIs s "java/lang/String" "COMPACT_STRINGS" "Z" (.int z) ∧ ¬ z = 0 ∧ 0 < len ∧ o + len ≤ A.slots.size ∧ len ≤ 536870912 ∧ ∀ i, i < len → ¬ 255 < cv A (o + i)
def E (a : Addr) (D : Cell) (fV fC : Field) (A : Cell) (o len : Nat) (r : Option Value) (s u : State) : Prop := Got a D fV fC A o len r s u
/-- len > 0, no char of the range above 255: a Latin-1 String of their low bytes -/
theorem law (l : Launch) (a : Addr) (D : Cell) (fV fC : Field) (b : Addr) (A : Cell) (z : Int32) (o len : Nat) : Law l yN 5 4 2 35 yB 6 none site (P a D fV fC b A z o len) (E a D fV fC A o len) [⟨a, fC.slot⟩, ⟨a, fV.slot⟩] 1 len := by
  refine Law.of_walk (plainFor_of_name (by decide +kernel)) (by decide +kernel) (by decide +kernel) (by decide) (fun _ _ h => by rw [h.1]; rfl) (fun _ U U' hal hh h => ⟨h.1, h.2.1.mv hal hh, h.2.2.1.al hal, h.2.2.2.1.al hal, h.2.2.2.2.1.mv hal hh, h.2.2.2.2.2.1.there hal hh, h.2.2.2.2.2.2⟩) (fun r U U' V V' h1 hal h2 h => Got.mv r U U' V V' h1 hal h2 h) ?_
  intro p e s m args below meth c s₁ X0 hexec hbytes hml hret hlk hnm hown hh0 W hP
  obtain ⟨rfl, hB, f1, f2, hA, s1, hz, l0, l1, l2, hp⟩ := hP
  have a31 := hA.1.2.2.2
  have c1 : Steps p.tables e below (s₁.setTop (entryFrame m #[.ref a, .ref b, .int (Int32.ofNat o), .int (Int32.ofNat len), .null] 6)) (s₁.setTop (mkF m 0 #[.val (.ref a), .val (.ref b), .val (.int (Int32.ofNat o)), .val (.int (Int32.ofNat len)), .val .null, .unset] [])) := entry rfl
  have c2 : Steps p.tables e below (s₁.setTop (entryFrame m #[.ref a, .ref b, .int (Int32.ofNat o), .int (Int32.ofNat len), .null] 6)) (s₁.setTop (mkF m 1 #[.val (.ref a), .val (.ref b), .val (.int (Int32.ofNat o)), .val (.int (Int32.ofNat len)), .val .null, .unset] [.ref a])) := c1.trans (by
    refine XS.aloadN X0.here hexec rfl (hb hbytes d0) rfl rfl ?_
    exact Steps.refl _)
  obtain ⟨T3, X3, q3, st3⟩ := X0.oinit hexec hown (wks W (objW "java/lang/String" 1)) (g := (mkF m 1 #[.val (.ref a), .val (.ref b), .val (.int (Int32.ofNat o)), .val (.int (Int32.ofNat len)), .val .null, .unset] [.ref a])) rfl (by rw [hml]; rfl) (rest := []) rfl (hb hbytes d1) (W := 0) (by show 2 * 0 + 0 ≤ _; decide) (Nat.le_of_ble_eq_true rfl) (Nat.le_of_ble_eq_true rfl)
  have hh3 := q3.trans hh0
  have c4 : Steps p.tables e below (s₁.setTop (entryFrame m #[.ref a, .ref b, .int (Int32.ofNat o), .int (Int32.ofNat len), .null] 6)) (T3.setTop (mkF m 27 #[.val (.ref a), .val (.ref b), .val (.int (Int32.ofNat o)), .val (.int (Int32.ofNat len)), .val .null, .unset] [])) := (c2.trans (st3 _ (Steps.refl _))).trans (by
    refine XS.iloadN X3.here hexec rfl (hb hbytes d4) rfl ?_
    refine XS.ifYes X3.here hexec rfl (pc0 := 5) rfl (hb hbytes d5) rfl (i0_ne_t (nz32 (by omega) l0)) (by decide) rfl ?_
    exact Steps.refl _)
  obtain ⟨T5, X5, q5, st5⟩ := X3.sget hexec hown (wk W (.fieldLink "java/lang/String" 38 "java/lang/String" "COMPACT_STRINGS" "Z")) s1 (fun _ _ h => by rw [hh3]; exact h) (g := (mkF m 27 #[.val (.ref a), .val (.ref b), .val (.int (Int32.ofNat o)), .val (.int (Int32.ofNat len)), .val .null, .unset] [])) rfl (hb hbytes d27)
  have hh5 := q5.trans hh3
  have c6 : Steps p.tables e below (s₁.setTop (entryFrame m #[.ref a, .ref b, .int (Int32.ofNat o), .int (Int32.ofNat len), .null] 6)) (T5.setTop (mkF m 30 #[.val (.ref a), .val (.ref b), .val (.int (Int32.ofNat o)), .val (.int (Int32.ofNat len)), .val .null, .unset] [.int z])) := c4.trans (st5 _ (Steps.refl _))
  have c7 : Steps p.tables e below (s₁.setTop (entryFrame m #[.ref a, .ref b, .int (Int32.ofNat o), .int (Int32.ofNat len), .null] 6)) (T5.setTop (mkF m 36 #[.val (.ref a), .val (.ref b), .val (.int (Int32.ofNat o)), .val (.int (Int32.ofNat len)), .val .null, .unset] [.int (Int32.ofNat len), .int (Int32.ofNat o), .ref b])) := c6.trans (by
    refine XS.ifNo X5.here hexec rfl (hb hbytes d30) rfl (i0_eq_f hz) ?_
    refine XS.aloadN X5.here hexec rfl (hb hbytes d33) rfl rfl ?_
    refine XS.iloadN X5.here hexec rfl (hb hbytes d34) rfl ?_
    refine XS.iloadN X5.here hexec rfl (hb hbytes d35) rfl ?_
    exact Steps.refl _)
  obtain ⟨v8, T8, X8, E8, g8⟩ := X5.callS hexec (Cmp3.law l b A o len) hown (wks W (staticW "java/lang/String" 177 Cmp3.yN)) (wk W Cmp3.tab) (W := 0) (Nat.le_of_ble_eq_true rfl) (Nat.le_of_ble_eq_true rfl) (Nat.le_refl _) (by show 0 + len ≤ len; omega) (g := (mkF m 36 #[.val (.ref a), .val (.ref b), .val (.int (Int32.ofNat o)), .val (.int (Int32.ofNat len)), .val .null, .unset] [.int (Int32.ofNat len), .int (Int32.ofNat o), .ref b])) rfl (by rw [hml]; rfl) c7 (argsL := [.ref b, .int (Int32.ofNat o), .int (Int32.ofNat len)]) (rest := []) rfl rfl (by show 2 * 0 + 0 ≤ _; decide) (hb hbytes d36) (⟨rfl, hA.mv X5.warmed.alike hh5, l1, l2, hp⟩)
  obtain ⟨e8, z8⟩ := E8
  obtain ⟨rfl, N, n1, n2, n3, n4, n5, n6⟩ := NewArr.mv _ T5 s _ _ hh5.symm (Vm.Alike.refl _) rfl e8
  rw [hh5] at z8
  have hB1 := hB.keep X8.warmed.alike (n6 _ _ hB.1)
  have hne : s.heap.size ≠ a := (Nat.ne_of_lt (Array.getElem?_eq_some_iff.mp hB.1).1).symm
  have c9 : Steps p.tables e below (s₁.setTop (entryFrame m #[.ref a, .ref b, .int (Int32.ofNat o), .int (Int32.ofNat len), .null] 6)) (T8.setTop (mkF m 39 #[.val (.ref a), .val (.ref b), .val (.int (Int32.ofNat o)), .val (.int (Int32.ofNat len)), .val .null, .unset] [.ref s.heap.size])) := g8
  have c10 : Steps p.tables e below (s₁.setTop (entryFrame m #[.ref a, .ref b, .int (Int32.ofNat o), .int (Int32.ofNat len), .null] 6)) (T8.setTop (mkF m 45 #[.val (.ref a), .val (.ref b), .val (.int (Int32.ofNat o)), .val (.int (Int32.ofNat len)), .val .null, .val (.ref s.heap.size)] [.int (Int32.ofNat N.slots.size), .ref s.heap.size, .ref a])) := by
    have hc : Steps p.tables e below (s₁.setTop (entryFrame m #[.ref a, .ref b, .int (Int32.ofNat o), .int (Int32.ofNat len), .null] 6)) (T8.setTop (mkF m 45 #[.val (.ref a), .val (.ref b), .val (.int (Int32.ofNat o)), .val (.int (Int32.ofNat len)), .val .null, .val (.ref s.heap.size)] [.int (Int32.ofNat len), .ref s.heap.size, .ref a])) := c9.trans (by
      refine XS.astore X8.here hexec rfl (hb hbytes d39) rfl rfl rfl ?_
      refine XS.aloadN X8.here hexec rfl (hb hbytes d41) rfl rfl ?_
      refine XS.aload X8.here hexec rfl (hb hbytes d42) rfl rfl ?_
      refine XS.iloadN X8.here hexec rfl (hb hbytes d44) rfl ?_
      exact Steps.refl _)
    rw [n4]; exact hc
  obtain ⟨v11, T11, X11, E11, g11⟩ := X8.callS hexec (CodL.law l s.heap.size N) hown (wks W (staticW "java/lang/String" 47 CodL.yN)) (wk W CodL.tab) (W := 1) (Nat.le_of_ble_eq_true rfl) (Nat.le_of_ble_eq_true rfl) (Nat.le_refl _) (by show 0 + len + 0 ≤ len; omega) (g := (mkF m 45 #[.val (.ref a), .val (.ref b), .val (.int (Int32.ofNat o)), .val (.int (Int32.ofNat len)), .val .null, .val (.ref s.heap.size)] [.int (Int32.ofNat N.slots.size), .ref s.heap.size, .ref a])) rfl (by rw [hml]; rfl) c10 (argsL := [.ref s.heap.size, .int (Int32.ofNat N.slots.size)]) (rest := [.ref a]) rfl rfl (by show 2 * 0 + (1 + 0) ≤ _; decide) (hb hbytes d45) (⟨rfl, n1⟩)
  obtain ⟨rfl, q11⟩ := E11
  have hB11 := hB1.mv (X8.warmed.alike.symm.trans X11.warmed.alike) q11
  have c12 : Steps p.tables e below (s₁.setTop (entryFrame m #[.ref a, .ref b, .int (Int32.ofNat o), .int (Int32.ofNat len), .null] 6)) (T11.setTop (mkF m 48 #[.val (.ref a), .val (.ref b), .val (.int (Int32.ofNat o)), .val (.int (Int32.ofNat len)), .val .null, .val (.ref s.heap.size)] [.int 0, .ref a])) := g11
  obtain ⟨T13, X13, p13, bl13, sl13, st13⟩ := X11.finit hexec hown (wk W (.fieldLink "java/lang/String" 15 "java/lang/String" "coder" "B")) (Or.inr ⟨_, (wk W (.laysFinal "java/lang/String" "java/lang/String" "coder" "B"))⟩) (Or.inl ⟨rfl, hnm⟩) f2 (Or.inl rfl) hB11 (t := .byte) (by decide +kernel) rfl (g := (mkF m 48 #[.val (.ref a), .val (.ref b), .val (.int (Int32.ofNat o)), .val (.int (Int32.ofNat len)), .val .null, .val (.ref s.heap.size)] [.int 0, .ref a])) rfl (rest := []) rfl (hb hbytes d48)
  have c14 : Steps p.tables e below (s₁.setTop (entryFrame m #[.ref a, .ref b, .int (Int32.ofNat o), .int (Int32.ofNat len), .null] 6)) (T13.setTop (mkF m 54 #[.val (.ref a), .val (.ref b), .val (.int (Int32.ofNat o)), .val (.int (Int32.ofNat len)), .val .null, .val (.ref s.heap.size)] [.ref s.heap.size, .ref a])) := (c12.trans (st13 _ (Steps.refl _))).trans (by
    refine XS.aloadN X13.here hexec rfl (hb hbytes d51) rfl rfl ?_
    refine XS.aload X13.here hexec rfl (hb hbytes d52) rfl rfl ?_
    exact Steps.refl _)
  obtain ⟨T15, X15, p15, bl15, sl15, st15⟩ := X13.finit hexec hown (wk W (.fieldLink "java/lang/String" 9 "java/lang/String" "value" "[B")) (Or.inr ⟨_, (wk W (.laysFinal "java/lang/String" "java/lang/String" "value" "[B"))⟩) (Or.inl ⟨rfl, hnm⟩) f1 (Or.inl rfl) bl13 (t := (.array .byte)) (by decide +kernel) rfl (g := (mkF m 54 #[.val (.ref a), .val (.ref b), .val (.int (Int32.ofNat o)), .val (.int (Int32.ofNat len)), .val .null, .val (.ref s.heap.size)] [.ref s.heap.size, .ref a])) rfl (rest := []) rfl (hb hbytes d54)
  have c16 : Steps p.tables e below (s₁.setTop (entryFrame m #[.ref a, .ref b, .int (Int32.ofNat o), .int (Int32.ofNat len), .null] 6)) (T15.setTop (mkF m 57 #[.val (.ref a), .val (.ref b), .val (.int (Int32.ofNat o)), .val (.int (Int32.ofNat len)), .val .null, .val (.ref s.heap.size)] [])) := c14.trans (st15 _ (Steps.refl _))
  have ap := apart (Or.inr ⟨_, (wk W (.laysFinal "java/lang/String" "java/lang/String" "value" "[B"))⟩) (Or.inr ⟨_, (wk W (.laysFinal "java/lang/String" "java/lang/String" "coder" "B"))⟩) f1 f2 (t₁ := .array .byte) (t₂ := .byte) (by decide +kernel) (by decide +kernel) (by decide)
  have al := X8.warmed.alike.symm.trans X15.warmed.alike
  have n7 : T11.heap[s.heap.size]? = some N := by rw [q11]; exact n1.1
  exact ⟨T15, none, _, _, _, X15, by simp, rfl, by omega, (fun _ => rfl), ⟨rfl, _, N, bl15, ((Same.refl D _).set _ (by simp)).set _ (by simp), sl15, (Cell.slots_setSlot_ne _ ap).trans sl13, n1.keep al (p15.other hne (p13.other hne n7)), n2, by rw [al.findClass]; exact n3, n4, n5, fun y c h1 h2 => p15.other h1 (p13.other h1 (by rw [q11]; exact n6 y c h2)), by rw [p15.2.2, p13.2.2, q11]; exact z8⟩, fun fs hl => c16.trans (X15.returnOut hexec hret (hb hbytes d57) hl)⟩
end New4
namespace New1
def yN : MethodName := ⟨"java/lang/String", "<init>", "([C)V"⟩
abbrev yB : ByteArray := jdk_42_method_3_code
theorem d0 : decode yB 0 = .ok (.aload_n 0, 1) := by decide +kernel
theorem d1 : decode yB 1 = .ok (.aload_n 1, 1) := by decide +kernel
theorem d2 : decode yB 2 = .ok (.iconst 0, 1) := by decide +kernel
theorem d3 : decode yB 3 = .ok (.aload_n 1, 1) := by decide +kernel
theorem d4 : decode yB 4 = .ok (.arraylength, 1) := by decide +kernel
theorem d5 : decode yB 5 = .ok (.aconst_null, 1) := by decide +kernel
theorem d6 : decode yB 6 = .ok (.invokespecial 27, 3) := by decide +kernel
theorem d9 : decode yB 9 = .ok (.return_, 1) := by decide +kernel
def site : List Cond := [New4.tab] ++ initW "java/lang/String" 27 New4.yN
def tab : Cond := tabOf yN yB 2 none site
def P (a : Addr) (D : Cell) (fV fC : Field) (b : Addr) (A : Cell) (z : Int32) (args : Array Value) (s : State) : Prop := args = #[.ref a, .ref b] ∧ Blank "java/lang/String" a D s ∧ Found "java/lang/String" "value" "[B" fV s ∧ Found "java/lang/String" "coder" "B" fC s ∧ Ch b A s ∧ StaticIs s "java/lang/String" "COMPACT_STRINGS" "Z" (.int z) ∧ ¬ z = 0 ∧ 0 < A.slots.size ∧ A.slots.size ≤ 536870912 ∧ ∀ i, i < A.slots.size → ¬ 255 < cv A i
def E (a : Addr) (D : Cell) (fV fC : Field) (A : Cell) (r : Option Value) (s u : State) : Prop := Got a D fV fC A 0 A.slots.size r s u
/-- new String(chars), not empty, no char above 255: a Latin-1 String of their low bytes -/
theorem law (l : Launch) (a : Addr) (D : Cell) (fV fC : Field) (b : Addr) (A : Cell) (z : Int32) : Law l yN 2 1 3 52 yB 2 none site (P a D fV fC b A z) (E a D fV fC A) [⟨a, fC.slot⟩, ⟨a, fV.slot⟩] 1 A.slots.size := by
  refine Law.of_walk (plainFor_of_name (by decide +kernel)) (by decide +kernel) (by decide +kernel) (by decide) (fun _ _ h => by rw [h.1]; rfl) (fun _ U U' hal hh h => ⟨h.1, h.2.1.mv hal hh, h.2.2.1.al hal, h.2.2.2.1.al hal, h.2.2.2.2.1.mv hal hh, h.2.2.2.2.2.1.there hal hh, h.2.2.2.2.2.2⟩) (fun r U U' V V' h1 hal h2 h => Got.mv r U U' V V' h1 hal h2 h) ?_
  intro p e s m args below meth c s₁ X0 hexec hbytes hml hret hlk hnm hown hh0 W hP
  obtain ⟨rfl, hB, f1, f2, hA, s1, hz, l0, l2, hp⟩ := hP
  have c1 : Steps p.tables e below (s₁.setTop (entryFrame m #[.ref a, .ref b] 2)) (s₁.setTop (mkF m 0 #[.val (.ref a), .val (.ref b)] [])) := entry rfl
  have c2 : Steps p.tables e below (s₁.setTop (entryFrame m #[.ref a, .ref b] 2)) (s₁.setTop (mkF m 6 #[.val (.ref a), .val (.ref b)] [.null, .int (Int32.ofNat A.slots.size), .int 0, .ref b, .ref a])) := c1.trans (by
    refine XS.aloadN X0.here hexec rfl (hb hbytes d0) rfl rfl ?_
    refine XS.aloadN X0.here hexec rfl (hb hbytes d1) rfl rfl ?_
    refine iconstV X0.here hexec rfl 0 (hb hbytes d2) (by decide) ?_
    refine XS.aloadN X0.here hexec rfl (hb hbytes d3) rfl rfl ?_
    refine X0.alen hexec (hA.1.mv X0.warmed.alike hh0) rfl rfl (hb hbytes d4) ?_
    refine XS.aconstNull X0.here hexec rfl (hb hbytes d5) ?_
    exact Steps.refl _)
  obtain ⟨v3, T3, X3, E3, g3⟩ := X0.callN hexec (New4.law l a D fV fC b A z 0 A.slots.size) rfl hown (wks W (initW "java/lang/String" 27 New4.yN)) (W New4.tab (by simp only [site, List.mem_cons, List.mem_append, true_or, or_true])) (W := 0) (Nat.le_of_ble_eq_true rfl) (Nat.le_of_ble_eq_true rfl) (Nat.le_refl _) (by show 0 + A.slots.size ≤ A.slots.size; omega) (g := (mkF m 6 #[.val (.ref a), .val (.ref b)] [.null, .int (Int32.ofNat A.slots.size), .int (Int32.ofNat 0), .ref b, .ref a])) rfl (by rw [hml]; rfl) c2 (argsL := [.ref b, .int (Int32.ofNat 0), .int (Int32.ofNat A.slots.size), .null]) (rest := []) rfl rfl (by show 2 * 0 + 0 ≤ _; decide) (hb hbytes d6) (⟨rfl, hB.mv X0.warmed.alike hh0, f1.al X0.warmed.alike, f2.al X0.warmed.alike, hA.mv X0.warmed.alike hh0, s1.there X0.warmed.alike hh0, hz, l0, by omega, l2, fun i hi => by rw [Nat.zero_add]; exact hp i hi⟩)
  have e0 := Got.mv _ s₁ s _ _ hh0.symm (Vm.Alike.refl _) rfl E3
  obtain rfl := e0.1
  have c4 : Steps p.tables e below (s₁.setTop (entryFrame m #[.ref a, .ref b] 2)) (T3.setTop (mkF m 9 #[.val (.ref a), .val (.ref b)] [])) := g3
  exact ⟨T3, none, _, _, _, X3, by simp, rfl, by omega, (fun _ => rfl), e0, fun fs hl => c4.trans (X3.returnOut hexec hret (hb hbytes d9) hl)⟩
theorem pays {l : Launch} {R : Room} {p : Program} {e : Env} {below : List Frame} {s : State} {sargs : Array Value} {len W : Nat} (a : Addr) (D : Cell) (fV fC : Field) (b : Addr) (A : Cell) (z : Int32) (htab : tab.before sargs s = true) (hfr : 4 ≤ R.frames) (hlo : W + 65 ≤ R.locals) :
    Back l R p e below s sargs yN len W (fun A₁ a₁ => A₁.cells + 1 ≤ R.cells ∧ A₁.slots + A.slots.size ≤ R.slots ∧ P a D fV fC b A z a₁ A₁.U) (fun A₁ _ v₁ B₁ => E a D fV fC A v₁ A₁.U B₁.U ∧ B₁.locs = A₁.locs ++ [⟨a, fC.slot⟩, ⟨a, fV.slot⟩] ∧ B₁.cells = A₁.cells + 1 ∧ B₁.slots = A₁.slots + A.slots.size) :=
  (law l a D fV fC b A z).pays htab hfr (by omega)
end New1
end StrChars
namespace StrChars.Road
open Jvm Sem ClassFile Op Lib Jvm.Stand Jvm.Free Jvm.Free.XT
open Jvm.Lib.Cold (StaticIs)
abbrev ST : String := "java/lang/String"
/-- every table word that New1's law asks, flat -/
abbrev words : List Jvm.Cond := [.code New1.yN New1.yB 2 none, .initialized ST, .methodLink ST 27 New4.yN, .instanceMethod New4.yN,
  .code New4.yN New4.yB 6 none, .fieldLink ST 38 ST "COMPACT_STRINGS" "Z", .laysFinal ST ST "value" "[B", .fieldLink ST 9 ST "value" "[B", .laysFinal ST ST "coder" "B", .fieldLink ST 15 ST "coder" "B",
  .methodLink ST 1 Lib.objectInit, .instanceMethod Lib.objectInit, .code Lib.objectInit ⟨#[0xb1]⟩ 1 none, .methodLink ST 177 Cmp3.yN, .static Cmp3.yN, .methodLink ST 47 CodL.yN, .static CodL.yN,
  .code Cmp3.yN Cmp3.yB 6 (some (.array .byte)), .initialized U16, .arrayClass .byte, .methodLink U16 115 Cmp5.yN, .static Cmp5.yN, .code Cmp5.yN Cmp5.yB 7 (some .int), .code CodL.yN CodL.yB 2 (some .byte)]
theorem tab_of {a : Array Value} {s : State} (h : ∀ w ∈ words, w.before a s = true) : New1.tab.before a s = true := by
  have h5 : Cmp5.tab.before a s = true := unparts (wk h (.code Cmp5.yN Cmp5.yB 7 (some .int))) (wks h (.initialized Cmp5.yN.cls :: Cmp5.site))
  have hc : CodL.tab.before a s = true := unparts (wk h (.code CodL.yN CodL.yB 2 (some .byte))) (wks h (.initialized CodL.yN.cls :: CodL.site))
  have q5 : ∀ w ∈ Cmp5.tab :: words, w.before a s = true := fun w hw => (List.mem_cons.mp hw).elim (fun e => e ▸ h5) (h w)
  have h3 : Cmp3.tab.before a s = true := unparts (wk q5 (.code Cmp3.yN Cmp3.yB 6 (some (.array .byte)))) (wks q5 (.initialized Cmp3.yN.cls :: Cmp3.site))
  have q3 : ∀ w ∈ Cmp3.tab :: CodL.tab :: words, w.before a s = true := fun w hw => (List.mem_cons.mp hw).elim (fun e => e ▸ h3) fun hw => (List.mem_cons.mp hw).elim (fun e => e ▸ hc) (h w)
  have h4 : New4.tab.before a s = true := unparts (wk q3 (.code New4.yN New4.yB 6 none)) (wks q3 (.initialized New4.yN.cls :: New4.site))
  have q4 : ∀ w ∈ New4.tab :: words, w.before a s = true := fun w hw => (List.mem_cons.mp hw).elim (fun e => e ▸ h4) (h w)
  exact unparts (wk q4 (.code New1.yN New1.yB 2 none)) (wks q4 (.initialized New1.yN.cls :: New1.site))
/-- the words ride from the start Z to the walk's own state -/
theorem moved {Z s : State} {a0 args : Array Value} (hZ : Z.Warmed39 s.vm) (hw : ∀ d ∈ words, d.before a0 Z = true) : ∀ d ∈ words, d.before args s = true := fun d hd => by
  have q := hw d hd
  have t : ∀ d ∈ words, d = .arrayClass .byte ∨ (d.onTables && d.keepsFace) = true := by decide +kernel
  rcases t d hd with rfl | t
  · exact RoadKit.mvA hZ q
  · exact RoadKit.mv hZ q t
/-- WHAT COMES BACK, over the tables of the start Z: h the heap at the call, h' behind it -/
def Q (Z : State) (x : Addr) (A : Cell) (h : Heap) (v : Option Value) (h' : Heap) (L : List Loc) : Prop := v = none ∧ (∀ y ∈ L, y.base = x) ∧ RoadKit.Keep h h' [x] ∧ h'.size = h.size + 1 ∧ RoadKit.Exa Z h' x ST ∧ RoadKit.Fld Z h' x ST "value" "[B" (.ref h.size) ∧ RoadKit.Fld Z h' x ST "coder" "B" (.int 0) ∧
  (∃ V : Cell, RoadKit.Arr Z h' h.size V .byte ∧ V.vm = .none ∧ Z.vm.findClass "[B" = some V.cls ∧ V.slots.size = A.slots.size ∧ ∀ j, j < A.slots.size → V.slots[j]? = some (.int (lo8 (cv A j)))) ∧
  ∀ (O n d : String) (w : Value), RoadKit.Fld Z h x O n d w → RoadKit.slotOf Z O n d ≠ RoadKit.slotOf Z ST "value" "[B" → RoadKit.slotOf Z O n d ≠ RoadKit.slotOf Z ST "coder" "B" → RoadKit.Fld Z h' x O n d w
/-- **new String(chars) AT A CALL, IN THE ROAD'S FORM**: for specialBack behind newO: x the fresh String, b the char[] with the cell A -/
theorem back {p : Program} {l : Launch} {e : Env} {R : Room} {s : State} {args : Array Value} {below : List Frame} {len W : Nat} {Z : State} {a0 : Array Value} {h : Heap} (hZ : Z.Warmed39 s.vm) (hw : ∀ d ∈ words, d.before a0 Z = true) {kI : Nat} (wi : (Jvm.Cond.instantiable ST kI).before a0 Z = true)
    {x b : Addr} {A : Cell} {z : Int32} {v0 c0 : Value} (E : RoadKit.Exa Z h x ST) (V : RoadKit.Fld Z h x ST "value" "[B" v0) (C : RoadKit.Fld Z h x ST "coder" "B" c0) (K : RoadKit.Arr Z h b A .char) (hty : Typed .char A) (S : RoadKit.Sta Z h ST "COMPACT_STRINGS" "Z" (.int z)) (hz : ¬ z = 0)
    (l0 : 0 < A.slots.size) (l2 : A.slots.size ≤ 536870912) (hp : ∀ i, i < A.slots.size → ¬ 255 < cv A i) (hfr : 4 ≤ R.frames) (hlo : W + 65 ≤ R.locals) :
    Back l R p e below s args New1.yN len W (fun P a => a = #[.ref x, .ref b] ∧ P.U.heap = h ∧ P.cells + 1 ≤ R.cells ∧ P.slots + A.slots.size ≤ R.slots)
      (fun P _ v B => ∃ L, Q Z x A h v B.U.heap L ∧ B.locs = P.locs ++ L ∧ B.cells = P.cells + 1 ∧ B.slots = P.slots + A.slots.size) := by
  intro m meth c P g ig mk a X hg hsize hdg hW hn hp'
  obtain ⟨rfl, rfl, r1, r2⟩ := hp'
  have al : Z.vm.Alike P.U.vm := hZ.alike.trans X.warmed.alike
  obtain ⟨D, cfV, kV, iV, fV, hD, gV, stV, knV, obV, asV, slV⟩ := id V
  obtain ⟨D', cfC, kC, iC, fC, hD', gC, stC, -, -, asC, slC⟩ := id C
  cases hD.symm.trans hD'
  obtain ⟨D2, kD, e1, e2, e3, e4, e5⟩ := id E
  cases hD.symm.trans e1
  obtain ⟨c2, k2, i1, i2, i3, -⟩ := Cond.instantiable_spec wi
  cases e2.symm.trans i1
  cases e3.symm.trans i2
  obtain ⟨kU, u1, u2⟩ := al.2.2 _ _ e3
  have hB : Blank ST x D P.U := ⟨hD, ⟨knV, fun q hq => by rw [hq] at obV; cases obV⟩, by rw [al.findClass]; exact e2, kU, u1, by rw [u2]; exact i3, by rw [u2]; exact e5 i3⟩
  have F1 : Found ST "value" "[B" fV P.U := ⟨SBG.found_only al ⟨cfV, kV, iV, gV⟩, stV⟩
  have F2 : Found ST "coder" "B" fC P.U := ⟨SBG.found_only al ⟨cfC, kC, iC, gC⟩, stC⟩
  have hA : Ch b A P.U := ⟨⟨K.1, State.isArrayOf_alike al K.2.1, K.2.2, by omega⟩, hty⟩
  have hS : StaticIs P.U ST "COMPACT_STRINGS" "Z" (.int z) := by
    obtain ⟨cfS, iS, kS, fS, st, cS, t1, t2, t3, t4, t5, t6, t7⟩ := S
    exact StaticIs.there (s := { Z with heap := P.U.heap }) ⟨cfS, iS, kS, fS, st, cS, t1, t2, t3, t4, t5, (fun q => by rw [q] at t6; cases t6), t7⟩ al rfl
  obtain ⟨v, B, X', ⟨⟨hv, E', V', q1, q2, q3, q4, q5, q6, q7, q8, q9, q10, q11⟩, hl, hc, hs⟩, st⟩ := New1.pays x D fV fC b A z (tab_of (moved hZ hw)) hfr hlo m meth c P g ig mk _ X hg hsize hdg hW hn ⟨r1, r2, rfl, hB, F1, F2, hA, hS, hz, l0, l2, hp⟩
  have al' : Z.vm.Alike B.U.vm := hZ.alike.trans X'.warmed.alike
  have hsz : E'.slots.size = D.slots.size := by
    obtain ⟨-, -, -, kB, w1, w2, w3⟩ := q1
    obtain ⟨kB', y1, y2⟩ := al'.2.2 _ _ e3
    rw [q2.2.1] at w1
    cases w1.symm.trans y1
    rw [w3, e5 i3, y2]
  refine ⟨v, B, X', ⟨_, ⟨hv, ?_, ⟨by omega, fun y cy hy hn' => q10 y cy (by simpa using hn') hy, fun y cy hy => ?_⟩, q11, ⟨E', _, q1.1, by rw [q2.2.1]; exact e2, by rw [q2.2.1]; exact e3, by rw [q2.1]; exact obV, fun _ => by rw [hsz]; exact e5 i3⟩,
    ⟨E', cfV, kV, iV, fV, q1.1, gV, stV, by rw [q2.1]; exact knV, by rw [q2.1]; exact obV, by rw [q2.2.1]; exact asV, q3⟩, ⟨E', cfC, kC, iC, fC, q1.1, gC, stC, by rw [q2.1]; exact knV, by rw [q2.1]; exact obV, by rw [q2.2.1]; exact asC, q4⟩,
    ⟨V', ⟨q5.1, State.isArrayOf_alike al'.symm q5.2.1, q5.2.2.1⟩, q6, by rw [← al'.findClass]; exact q7, q8, fun j hj => by have := q9 j hj; rwa [Nat.zero_add] at this⟩, fun O n d w F n1 n2 => ?_⟩, hl, hc, hs⟩, st⟩
  · intro y hy
    simp only [List.mem_cons, List.not_mem_nil, or_false] at hy
    rcases hy with rfl | rfl <;> rfl
  · by_cases q : y = x
    · subst q
      cases hD.symm.trans hy
      exact ⟨E', q1.1, q2.2.1, q2.1, hsz⟩
    · exact ⟨cy, q10 y cy q hy, rfl, rfl, rfl⟩
  · obtain ⟨D3, cf, k, i, f, g1, g2, g3, g4, g5, g6, g7⟩ := F
    cases hD.symm.trans g1
    simp only [RoadKit.slotOf, g2, gV, gC, Option.map_some, Option.getD_some] at n1 n2
    exact ⟨E', cf, k, i, f, q1.1, g2, g3, by rw [q2.1]; exact g4, by rw [q2.1]; exact g5, by rw [q2.2.1]; exact g6, by rw [q2.2.2 f.slot (by simp [n1, n2])]; exact g7⟩
end StrChars.Road
namespace StrChars.Road
open Jvm Sem ClassFile Op Lib Jvm.Stand Jvm.Free Jvm.Free.XT
/-- WHAT COMES BACK, the byte[] as a list of values -/
def QA (Z : State) (x : Addr) (zn : Int32) (cs : List Int32) (h : Heap) (v : Option Value) (h' : Heap) (L : List Loc) : Prop := v = none ∧ (∀ y ∈ L, y.base = x) ∧ RoadKit.Keep h h' [x] ∧ h'.size = h.size + 1 ∧ RoadKit.Exa Z h' x ST ∧ RoadKit.Fld Z h' x ST "value" "[B" (.ref h.size) ∧ RoadKit.Fld Z h' x ST "coder" "B" (.int 0) ∧
  (∃ kb, Z.vm.findClass "[B" = some kb ∧ RoadKit.Arv Z h' h.size kb .byte zn (cs.map fun c => .int (lo8 c)) (.int 0)) ∧
  ∀ (O n d : String) (w : Value), RoadKit.Fld Z h x O n d w → RoadKit.slotOf Z O n d ≠ RoadKit.slotOf Z ST "value" "[B" → RoadKit.slotOf Z O n d ≠ RoadKit.slotOf Z ST "coder" "B" → RoadKit.Fld Z h' x O n d w
/-- **new String(chars) AT A CALL, THE ARRAYS AS LISTS**: the char[] at b holds cs, not empty, no char above 255 -/
theorem backArv {p : Program} {l : Launch} {e : Env} {R : Room} {s : State} {args : Array Value} {below : List Frame} {len W : Nat} {Z : State} {a0 : Array Value} {h : Heap} (hZ : Z.Warmed39 s.vm) (hw : ∀ d ∈ words, d.before a0 Z = true) {kI : Nat} (wi : (Jvm.Cond.instantiable ST kI).before a0 Z = true)
    {x b : Addr} {k : ClassId} {zn z : Int32} {cs : List Int32} {dv v0 c0 : Value} (E : RoadKit.Exa Z h x ST) (V : RoadKit.Fld Z h x ST "value" "[B" v0) (C : RoadKit.Fld Z h x ST "coder" "B" c0) (K : RoadKit.Arv Z h b k .char zn (cs.map Value.int) dv) (S : RoadKit.Sta Z h ST "COMPACT_STRINGS" "Z" (.int z)) (hz : ¬ z = 0)
    (hlen : zn.toNatClampNeg = cs.length) (h0 : 0 < cs.length) (hbig : cs.length ≤ 536870912) (hall : ∀ c ∈ cs, ¬ 255 < c) (hfr : 4 ≤ R.frames) (hlo : W + 65 ≤ R.locals) :
    Back l R p e below s args New1.yN len W (fun P a => a = #[.ref x, .ref b] ∧ P.U.heap = h ∧ P.cells + 1 ≤ R.cells ∧ P.slots + cs.length ≤ R.slots)
      (fun P _ v B => ∃ L, QA Z x zn cs h v B.U.heap L ∧ B.locs = P.locs ++ L ∧ B.cells = P.cells + 1 ∧ B.slots = P.slots + cs.length) := by
  obtain ⟨A, K1, K2, K3, K4, K5, K6⟩ := K
  have e : A.slots.size = cs.length := K3.trans hlen
  have hat : ∀ (i : Nat) (hi : i < cs.length), A.slots[i]? = some (.int cs[i]) := fun i hi => by rw [K5 i (by omega)]; simp [List.getD_eq_getElem?_getD, hi]
  have hcv : ∀ (i : Nat) (hi : i < cs.length), cv A i = cs[i] := fun i hi => by unfold cv; rw [hat i hi]
  have hty : Typed .char A := fun i v hv => by
    have hi : i < A.slots.size := (Array.getElem?_eq_some_iff.mp hv).1
    have q := K5 i hi
    rw [hv] at q
    rw [Option.some.inj q]
    exact K6 i hi
  refine Back.mono (back hZ hw wi E V C K1 hty S hz (by omega) (by omega) (fun i hi => by rw [hcv i (by omega)]; exact hall _ (List.getElem_mem _)) hfr hlo) (fun P a hp => ⟨hp.1, hp.2.1, hp.2.2.1, by rw [e]; exact hp.2.2.2⟩) (fun P a v B hp hq => ?_)
  obtain ⟨L, ⟨q1, q2, q3, q4, q5, q6, q7, ⟨V', v1, v2, v3, v4, v5⟩, q9⟩, hl, hc, hs⟩ := hq
  refine ⟨L, ⟨q1, q2, q3, q4, q5, q6, q7, ⟨V'.cls, v3, V', v1, rfl, by rw [v4, e, hlen], K4, fun i hi => ?_, fun i hi => ?_⟩, q9⟩, hl, hc, by rw [hs, e]⟩
  · have hi' : i < cs.length := by omega
    rw [v5 i (by omega), hcv i hi']; simp [List.getD_eq_getElem?_getD, hi']
  · have hi' : i < cs.length := by omega
    simp only [List.getD_eq_getElem?_getD, List.getElem?_map, List.getElem?_eq_getElem hi', Option.map_some, Option.getD_some]
    exact fits_lo8 _
end StrChars.Road
namespace StrChars.Road
open Jvm Sem ClassFile Op Lib Jvm.Stand Jvm.Free Jvm.Free.XT
/-- WHAT COMES BACK, in the writer's own shape -/
def QV (Z : State) (x : Addr) (N : Int32) (bs : List Int32) (h : Heap) (n0 : Nat) (v : Option Value) (h' : Heap) (L : List Loc) : Prop := v = none ∧ RoadKit.Fr n0 L ∧ RoadKit.Keep h h' [x] ∧ RoadKit.Exa Z h' x ST ∧ RoadKit.Fld Z h' x ST "coder" "B" (.int 0) ∧
  ∃ (t : Addr) (kb : ClassId), n0 ≤ t ∧ h.size ≤ t ∧ ¬ t = x ∧ RoadKit.Fld Z h' x ST "value" "[B" (.ref t) ∧ RoadKit.Arv Z h' t kb .byte N (bs.map Value.int) (.int 0)
/-- **new String(chars) AT A CALL, FOR THE WRITER**: a char[] of n known ints, each 0 to 255 -/
theorem backV {p : Program} {l : Launch} {e : Env} {R : Room} {s : State} {args : Array Value} {below : List Frame} {len W : Nat} {Z : State} {a0 : Array Value} {h : Heap} (hZ : Z.Warmed39 s.vm) (hw : ∀ d ∈ words, d.before a0 Z = true) {kI : Nat} (wi : (Jvm.Cond.instantiable ST kI).before a0 Z = true)
    {x b : Addr} {kC : ClassId} {cs bs : List Int32} {d v0 c0 : Value} {z N : Int32} {n n0 : Nat} (hx0 : n0 ≤ x) (hh0 : n0 ≤ h.size) (E : RoadKit.Exa Z h x ST) (V : RoadKit.Fld Z h x ST "value" "[B" v0) (C : RoadKit.Fld Z h x ST "coder" "B" c0) (K : RoadKit.Arv Z h b kC .char N (cs.map Value.int) d) (S : RoadKit.Sta Z h ST "COMPACT_STRINGS" "Z" (.int z)) (hz : ¬ z = 0)
    (hn : cs.length = n) (hN : N = Int32.ofNat n) (l0 : 0 < n) (l2 : n ≤ 4000) (hp : ∀ c ∈ cs, ¬ c < 0 ∧ ¬ (255 : Int32) < c) (hb : bs = cs.map (fun c => c.toInt8.toInt32)) (hfr : 4 ≤ R.frames) (hlo : W + 65 ≤ R.locals) :
    Back l R p e below s args (⟨"java/lang/String", "<init>", "([C)V"⟩ : MethodName) len W (fun P a => a = #[.ref x, .ref b] ∧ P.U.heap = h ∧ P.cells + 1 ≤ R.cells ∧ P.slots + n ≤ R.slots)
      (fun P _ v B => ∃ L, QV Z x N bs h n0 v B.U.heap L ∧ B.locs = P.locs ++ L ∧ B.cells = P.cells + 1 ∧ B.slots = P.slots + n) := by
  subst hn hN hb
  refine Back.mono (backArv hZ hw wi E V C K S hz (n32 (by omega)) l0 (by omega) (fun c hc => (hp c hc).2) hfr hlo) (fun P a hp => hp) (fun P a v B hp hq => ?_)
  obtain ⟨L, ⟨q1, q2, q3, q4, q5, q6, q7, ⟨kb, v1, v2⟩, q9⟩, hl, hc, hs⟩ := hq
  exact ⟨L, ⟨q1, fun y hy => by rw [q2 y hy]; exact hx0, q3, q5, q7, h.size, kb, hh0, Nat.le_refl _, Nat.ne_of_gt E.lt, q6, by rw [List.map_map]; exact v2⟩, hl, hc, hs⟩
end StrChars.Road
end Jvm.Pilot.@@N@@
namespace Jvm.Pilot.@@N@@
open Jvm Jvm.ClassFile Sem Op Lib Jvm.Free Jvm.Stand Jvm.LawKit Jvm.RoadKit Jvm.OwnW Bundle Jvm.Pilot.@@N@@.Jvm.D
theorem pn0 : plainName "java/lang/Record" = true := by first | (simp [plainName, overriddenIn]; done) | decide +kernel
theorem d9_0 : decode jdk_30_method_1_code 0 = .ok (.aload_n 0, 1) := by decide +kernel
theorem d9_1 : decode jdk_30_method_1_code 1 = .ok (.invokespecial 1, 3) := by decide +kernel
theorem d9_4 : decode jdk_30_method_1_code 4 = .ok (.return_, 1) := by decide +kernel
def Q_rm_rec (Z : State) (a : Addr) (h0 : Heap) (v : Option Value) (h : Heap) (L : List Loc) : Prop := v = none ∧ Fk h0.size [] L ∧ h = h0
set_option maxRecDepth 65536 in
set_option maxHeartbeats 40000000 in
theorem rm_rec (l : Launch) (Z : State) (a0 : Array Value) (hw : ∀ d ∈ tables_1, d.before a0 Z = true) (ws : List Jvm.Cond) (a : Addr) (h0 : Heap) (O0 : Old Z Z.heap.size h0) :
    Ctr l Z (⟨"java/lang/Record", "<init>", "()V"⟩ : MethodName) jdk_30_method_1_code 1 none ws ({ frames := 1, cells := 0, slots := 0, locals := 12 } : Room) #[(.ref a)] h0 (Q_rm_rec Z a h0) := by
  refine Ctr.intro (Ls := fun _ => #[.val (.ref a)]) (plainFor_of_name pn0) (fun m => by first | rfl | (simp [entryFrame, mkF, argsToLocals, Value.category]; done)) ?_
  intro p e s m below meth c s₁ hx hby hml hr hlk hZ hown hnm hs0 X0 e0
  have w : ∀ (k : Nat) (d : Jvm.Cond), tables_1[k]? = some d → d.before a0 Z = true := fun k d q => hw d (List.mem_of_getElem? q)
  have N0 := Fk.nil h0.size []
  refine W.aloadN X0 hx (hb hby d9_0) rfl rfl rfl ?_
  refine W.objinit X0 hx hZ hown (w 47 _ rfl) (w 12 _ rfl) (w 13 _ rfl) e0 (by rw [hml]; rfl) (hb hby d9_1) rfl (by decide) 0 (Nat.le_of_eq rfl) (by decide) ?_
  intro T1 X1 e1
  exact W.ret0' X1 hx hlk hr (hb hby d9_4) (by decide) (by decide) (Qc := Q_rm_rec Z a h0) e1 ⟨rfl, N0, rfl⟩
theorem pn1 : plainName "com/example/visad/visad/identity/Scope" = true := by first | (simp [plainName, overriddenIn]; done) | decide +kernel
theorem d8_0 : decode prog_40_method_1_code 0 = .ok (.aload_n 0, 1) := by decide +kernel
theorem d8_1 : decode prog_40_method_1_code 1 = .ok (.invokespecial 1, 3) := by decide +kernel
theorem pd2 : parseMethodDescriptor "()V" = some ⟨[], none⟩ := by decide +kernel
theorem d8_4 : decode prog_40_method_1_code 4 = .ok (.aload_n 0, 1) := by decide +kernel
theorem d8_5 : decode prog_40_method_1_code 5 = .ok (.aload_n 1, 1) := by decide +kernel
theorem d8_6 : decode prog_40_method_1_code 6 = .ok (.putfield 7, 3) := by decide +kernel
theorem d8_9 : decode prog_40_method_1_code 9 = .ok (.aload_n 0, 1) := by decide +kernel
theorem d8_10 : decode prog_40_method_1_code 10 = .ok (.aload_n 2, 1) := by decide +kernel
theorem d8_11 : decode prog_40_method_1_code 11 = .ok (.putfield 13, 3) := by decide +kernel
theorem d8_14 : decode prog_40_method_1_code 14 = .ok (.return_, 1) := by decide +kernel
def Q_rm_init (Z : State) (a : Addr) (k : Addr) (u : Value) (h0 : Heap) (v : Option Value) (h : Heap) (L : List Loc) : Prop := v = none ∧ Fk h0.size [a] L ∧ Keep h0 h [a] ∧ Exa Z h a "com/example/visad/visad/identity/Scope" ∧ Fld Z h a "com/example/visad/visad/identity/Scope" "kind" "Lcom/example/visad/visad/identity/Scope$Kind;" (.ref k) ∧ Fld Z h a "com/example/visad/visad/identity/Scope" "id" "Ljava/lang/String;" u
set_option maxRecDepth 65536 in
set_option maxHeartbeats 40000000 in
theorem rm_init (l : Launch) (Z : State) (a0 : Array Value) (hw : ∀ d ∈ tables_1, d.before a0 Z = true) (ws : List Jvm.Cond) (a : Addr) (k : Addr) (u : Value) (h0 : Heap) (O0 : Old Z Z.heap.size h0) (hu : u.isRef = true) (hE : Exa Z h0 a "com/example/visad/visad/identity/Scope") (hF : Fld Z h0 a "com/example/visad/visad/identity/Scope" "kind" "Lcom/example/visad/visad/identity/Scope$Kind;" .null) (hG : Fld Z h0 a "com/example/visad/visad/identity/Scope" "id" "Ljava/lang/String;" .null) (ha : Z.heap.size ≤ a) :
    Ctr l Z (⟨"com/example/visad/visad/identity/Scope", "<init>", "(Lcom/example/visad/visad/identity/Scope$Kind;Ljava/lang/String;)V"⟩ : MethodName) prog_40_method_1_code 3 none ws ({ frames := 2, cells := 0, slots := 0, locals := 24 } : Room) #[(.ref a), (.ref k), u] h0 (Q_rm_init Z a k u h0) := by
  refine Ctr.intro (Ls := fun _ => #[.val (.ref a), .val (.ref k), .val u]) (plainFor_of_name pn1) (fun m => by first | rfl | (simp [entryFrame, mkF, argsToLocals, Value.category]; done) | (rcases ref_cases hu with rfl | ⟨_, rfl⟩ <;> rfl)) ?_
  intro p e s m below meth c s₁ hx hby hml hr hlk hZ hown hnm hs0 X0 e0
  have w : ∀ (k : Nat) (d : Jvm.Cond), tables_1[k]? = some d → d.before a0 Z = true := fun k d q => hw d (List.mem_of_getElem? q)
  have N0 := Fk.nil h0.size [a]
  refine W.aloadN X0 hx (hb hby d8_0) rfl rfl rfl ?_
  refine W.callI X0 hx hZ rfl hown (w 42 _ rfl) (w 43 _ rfl) (w 46 _ rfl) (by decide) (as' := []) (backOf (W := 0) (rm_rec l Z a0 hw [] a h0 O0) hZ (w 46 _ rfl) (w 45 _ rfl) (by decide) (by decide)) e0 (by rw [hml]; rfl) (rest := []) (lenOf pd2 rfl) rfl (Nat.le_of_eq rfl) (hb hby d8_1) rfl (by decide) (by decide) ?_
  intro T1 h1 v1 L1 X1 e1 hQ1
  obtain ⟨rfl, Nq1, K1⟩ := hQ1
  have N1 := Fk.app N0 Nq1 (Nat.le_refl _) all0
  rw [K1] at e1
  show Wp p e below _ _ T1 (mkF m 4 #[.val (.ref a), .val (.ref k), .val u] [])
  refine W.aloadN X1 hx (hb hby d8_4) rfl rfl rfl ?_
  refine W.aloadN X1 hx (hb hby d8_5) rfl rfl rfl ?_
  refine W.putfield X1 hx hZ hown (host := "") (Or.inl (w 48 _ rfl)) Via.refl e1 hF hE (Or.inr ⟨(w 49 _ rfl), rfl, hnm⟩) (w 35 _ rfl) (ty := (.object "com/example/visad/visad/identity/Scope$Kind")) (by decide) rfl rfl (hb hby d8_6) rfl ?_
  intro T2 h2 L2 M2 X2 e2 W2 Fw2
  have N2 := M2 _ _ N1 (Or.inl (List.mem_of_getElem? (i := 0) rfl))
  have O3 : Old Z Z.heap.size h2 := O0.wr W2 ha
  have f4 : Fld Z h2 a "com/example/visad/visad/identity/Scope" "id" "Ljava/lang/String;" .null := hG.other W2 (Or.inr (slot_ne (Or.inr (w 51 _ rfl)) (Or.inr (w 49 _ rfl)) (by decide) (t := (.object "java/lang/String")) (t' := (.object "com/example/visad/visad/identity/Scope$Kind")) (by decide) (by decide)))
  have E2' : Exa Z h2 a "com/example/visad/visad/identity/Scope" := hE.wr W2
  refine W.aloadN X2 hx (hb hby d8_9) rfl rfl rfl ?_
  refine W.aloadN X2 hx (hb hby d8_10) rfl rfl hu ?_
  refine W.putfield X2 hx hZ hown (host := "") (Or.inl (w 50 _ rfl)) Via.refl e2 f4 E2' (Or.inr ⟨(w 51 _ rfl), rfl, hnm⟩) (w 35 _ rfl) (ty := (.object "java/lang/String")) (by decide) (narR rfl) (fitR rfl hu) (hb hby d8_11) rfl ?_
  intro T5 h5 L5 M5 X5 e5 W5 Fw5
  have N5 := M5 _ _ N2 (Or.inl (List.mem_of_getElem? (i := 0) rfl))
  have O6 : Old Z Z.heap.size h5 := O3.wr W5 ha
  have f7 : Fld Z h5 a "com/example/visad/visad/identity/Scope" "kind" "Lcom/example/visad/visad/identity/Scope$Kind;" (.ref k) := Fw2.other W5 (Or.inr (slot_ne (Or.inr (w 49 _ rfl)) (Or.inr (w 51 _ rfl)) (by decide) (t := (.object "com/example/visad/visad/identity/Scope$Kind")) (t' := (.object "java/lang/String")) (by decide) (by decide)))
  have E5' : Exa Z h5 a "com/example/visad/visad/identity/Scope" := E2'.wr W5
  have KK8 : Keep h0 h5 [a] := (((Keep.refl h0 [a]).wr W2 (Or.inl (List.mem_of_getElem? (i := 0) rfl))).wr W5 (Or.inl (List.mem_of_getElem? (i := 0) rfl)))
  exact W.ret0' X5 hx hlk hr (hb hby d8_14) (by decide) (by decide) (Qc := Q_rm_init Z a k u h0) e5 ⟨rfl, N5, KK8, E5', f7, Fw5⟩
theorem d7_0 : decode prog_40_method_3_code 0 = .ok (.new 8, 3) := by decide +kernel
theorem d7_3 : decode prog_40_method_3_code 3 = .ok (.dup, 1) := by decide +kernel
theorem d7_4 : decode prog_40_method_3_code 4 = .ok (.getstatic 25, 3) := by decide +kernel
theorem d7_7 : decode prog_40_method_3_code 7 = .ok (.aload_n 0, 1) := by decide +kernel
theorem d7_8 : decode prog_40_method_3_code 8 = .ok (.invokespecial 22, 3) := by decide +kernel
theorem pd3 : parseMethodDescriptor "(Lcom/example/visad/visad/identity/Scope$Kind;Ljava/lang/String;)V" = some ⟨[(.object "com/example/visad/visad/identity/Scope$Kind"), (.object "java/lang/String")], none⟩ := by decide +kernel
theorem d7_11 : decode prog_40_method_3_code 11 = .ok (.areturn, 1) := by decide +kernel
def Q_rm_prj (Z : State) (u : Value) (kp : Addr) (h0 : Heap) (v : Option Value) (h : Heap) (L : List Loc) : Prop := ∃ x : Addr, v = some (.ref x) ∧ Fk h0.size [] L ∧ Keep h0 h [] ∧ Exa Z h x "com/example/visad/visad/identity/Scope" ∧ Fld Z h x "com/example/visad/visad/identity/Scope" "kind" "Lcom/example/visad/visad/identity/Scope$Kind;" (.ref kp) ∧ Fld Z h x "com/example/visad/visad/identity/Scope" "id" "Ljava/lang/String;" u
set_option maxRecDepth 65536 in
set_option maxHeartbeats 40000000 in
theorem rm_prj (l : Launch) (Z : State) (a0 : Array Value) (hw : ∀ d ∈ tables_1, d.before a0 Z = true) (ws : List Jvm.Cond) (u : Value) (kp : Addr) (h0 : Heap) (O0 : Old Z Z.heap.size h0) (hu : u.isRef = true) (hP : Sta Z Z.heap "com/example/visad/visad/identity/Scope$Kind" "PROJECT" "Lcom/example/visad/visad/identity/Scope$Kind;" (.ref kp)) :
    Ctr l Z (⟨"com/example/visad/visad/identity/Scope", "project", "(Ljava/lang/String;)Lcom/example/visad/visad/identity/Scope;"⟩ : MethodName) prog_40_method_3_code 1 (some (.object "com/example/visad/visad/identity/Scope")) ws ({ frames := 3, cells := 1, slots := 2, locals := 40 } : Room) #[u] h0 (Q_rm_prj Z u kp h0) := by
  refine Ctr.intro (Ls := fun _ => #[.val u]) (plainFor_of_name pn1) (fun m => by first | rfl | (simp [entryFrame, mkF, argsToLocals, Value.category]; done) | (rcases ref_cases hu with rfl | ⟨_, rfl⟩ <;> rfl)) ?_
  intro p e s m below meth c s₁ hx hby hml hr hlk hZ hown hnm hs0 X0 e0
  have w : ∀ (k : Nat) (d : Jvm.Cond), tables_1[k]? = some d → d.before a0 Z = true := fun k d q => hw d (List.mem_of_getElem? q)
  have N0 := Fk.nil h0.size []
  refine W.new X0 hx hZ hown (w 34 _ rfl) (w 35 _ rfl) (w 32 _ rfl) e0 (hb hby d7_0) rfl (by decide) (by decide) ?_
  intro T1 h1 a1 g1 X1 e1 E1 A1 D1
  have O2 : Old Z Z.heap.size h1 := O0.ext E1
  have f3 : Fld Z h1 a1 "com/example/visad/visad/identity/Scope" "kind" "Lcom/example/visad/visad/identity/Scope$Kind;" .null := D1 (Or.inr (w 49 _ rfl)) (ty := (.object "com/example/visad/visad/identity/Scope$Kind")) (by decide)
  have f4 : Fld Z h1 a1 "com/example/visad/visad/identity/Scope" "id" "Ljava/lang/String;" .null := D1 (Or.inr (w 51 _ rfl)) (ty := (.object "java/lang/String")) (by decide)
  refine W.dup X1 hx (hb hby d7_3) rfl rfl ?_
  refine W.getstatic X1 hx hZ hown (host := "") (Or.inl (w 36 _ rfl)) Via.refl e1 (hP.ext O2.2) (hb hby d7_4) rfl ?_
  intro T5 X5 e5
  refine W.aloadN X5 hx (hb hby d7_7) rfl rfl hu ?_
  refine W.callI X5 hx hZ rfl hown (w 39 _ rfl) (w 40 _ rfl) (w 41 _ rfl) (by decide) (as' := [(.ref kp), u]) (backOf (W := 1) (rm_init l Z a0 hw [] a1 kp u h1 O2 hu A1 f3 f4 (Nat.le_trans (Nat.le_trans (Nat.le_trans (Nat.le_of_eq O0.1.symm) O0.2.1) (Keep.refl h0 []).1) (Nat.le_of_eq g1))) hZ (w 41 _ rfl) (w 32 _ rfl) (by decide) (by decide)) e5 (by rw [hml]; rfl) (rest := [(.ref a1)]) (lenOf pd3 rfl) rfl (Nat.le_of_eq rfl) (hb hby d7_8) rfl (by decide) (by decide) ?_
  intro T6 h6 v6 L6 X6 e6 hQ6
  obtain ⟨rfl, Nq6, K6, q6_0, q6_1, q6_2⟩ := hQ6
  have KK7 : Keep h0 h1 [] := ((Keep.refl h0 []).ext E1)
  have N6 := Fk.app N0 Nq6 KK7.1 (allS (Or.inr (Nat.le_of_eq g1)) all0)
  have O8 : Old Z Z.heap.size h6 := O2.keep K6 (allS (Nat.le_trans (Nat.le_trans (Nat.le_trans (Nat.le_of_eq O0.1.symm) O0.2.1) (Keep.refl h0 []).1) (Nat.le_of_eq g1)) all0)
  show Wp p e below _ _ T6 (mkF m 11 #[.val u] [(.ref a1)])
  have KK9 : Keep h0 h6 [] := (KK7.trans K6 (allS (Or.inr (Nat.le_of_eq g1)) all0))
  exact W.retA' X6 hx hlk hr rfl rfl (hb hby d7_11) (by decide) (by decide) (Qc := Q_rm_prj Z u kp h0) e6 ⟨a1, rfl, N6, KK9, q6_0, q6_1, q6_2⟩
theorem d10_0 : decode prog_40_method_7_code 0 = .ok (.aload_n 0, 1) := by decide +kernel
theorem d10_1 : decode prog_40_method_7_code 1 = .ok (.getfield 7, 3) := by decide +kernel
theorem d10_4 : decode prog_40_method_7_code 4 = .ok (.areturn, 1) := by decide +kernel
def Q_rm_kind (Z : State) (a : Addr) (k : Addr) (h0 : Heap) (v : Option Value) (h : Heap) (L : List Loc) : Prop := v = some (.ref k) ∧ Fk h0.size [] L ∧ h = h0
set_option maxRecDepth 65536 in
set_option maxHeartbeats 40000000 in
theorem rm_kind (l : Launch) (Z : State) (a0 : Array Value) (hw : ∀ d ∈ tables_1, d.before a0 Z = true) (ws : List Jvm.Cond) (a : Addr) (k : Addr) (h0 : Heap) (O0 : Old Z Z.heap.size h0) (hF : Fld Z h0 a "com/example/visad/visad/identity/Scope" "kind" "Lcom/example/visad/visad/identity/Scope$Kind;" (.ref k)) :
    Ctr l Z (⟨"com/example/visad/visad/identity/Scope", "kind", "()Lcom/example/visad/visad/identity/Scope$Kind;"⟩ : MethodName) prog_40_method_7_code 1 (some (.object "com/example/visad/visad/identity/Scope$Kind")) ws ({ frames := 0, cells := 0, slots := 0, locals := 0 } : Room) #[(.ref a)] h0 (Q_rm_kind Z a k h0) := by
  refine Ctr.intro (Ls := fun _ => #[.val (.ref a)]) (plainFor_of_name pn1) (fun m => by first | rfl | (simp [entryFrame, mkF, argsToLocals, Value.category]; done)) ?_
  intro p e s m below meth c s₁ hx hby hml hr hlk hZ hown hnm hs0 X0 e0
  have w : ∀ (k : Nat) (d : Jvm.Cond), tables_1[k]? = some d → d.before a0 Z = true := fun k d q => hw d (List.mem_of_getElem? q)
  have N0 := Fk.nil h0.size []
  refine W.aloadN X0 hx (hb hby d10_0) rfl rfl rfl ?_
  refine W.getfield X0 hx hZ hown (host := "") (Or.inl (w 48 _ rfl)) Via.refl e0 hF (hb hby d10_1) rfl ?_
  intro T1 X1 e1
  exact W.retA' X1 hx hlk hr rfl rfl (hb hby d10_4) (by decide) (by decide) (Qc := Q_rm_kind Z a k h0) e1 ⟨rfl, N0, rfl⟩
theorem d11_0 : decode prog_40_method_8_code 0 = .ok (.aload_n 0, 1) := by decide +kernel
theorem d11_1 : decode prog_40_method_8_code 1 = .ok (.getfield 13, 3) := by decide +kernel
theorem d11_4 : decode prog_40_method_8_code 4 = .ok (.areturn, 1) := by decide +kernel
def Q_rm_id (Z : State) (a : Addr) (u : Value) (h0 : Heap) (v : Option Value) (h : Heap) (L : List Loc) : Prop := v = some u ∧ Fk h0.size [] L ∧ h = h0
set_option maxRecDepth 65536 in
set_option maxHeartbeats 40000000 in
theorem rm_id (l : Launch) (Z : State) (a0 : Array Value) (hw : ∀ d ∈ tables_1, d.before a0 Z = true) (ws : List Jvm.Cond) (a : Addr) (u : Value) (h0 : Heap) (O0 : Old Z Z.heap.size h0) (hu : u.isRef = true) (hF : Fld Z h0 a "com/example/visad/visad/identity/Scope" "id" "Ljava/lang/String;" u) :
    Ctr l Z (⟨"com/example/visad/visad/identity/Scope", "id", "()Ljava/lang/String;"⟩ : MethodName) prog_40_method_8_code 1 (some (.object "java/lang/String")) ws ({ frames := 0, cells := 0, slots := 0, locals := 0 } : Room) #[(.ref a)] h0 (Q_rm_id Z a u h0) := by
  refine Ctr.intro (Ls := fun _ => #[.val (.ref a)]) (plainFor_of_name pn1) (fun m => by first | rfl | (simp [entryFrame, mkF, argsToLocals, Value.category]; done)) ?_
  intro p e s m below meth c s₁ hx hby hml hr hlk hZ hown hnm hs0 X0 e0
  have w : ∀ (k : Nat) (d : Jvm.Cond), tables_1[k]? = some d → d.before a0 Z = true := fun k d q => hw d (List.mem_of_getElem? q)
  have N0 := Fk.nil h0.size []
  refine W.aloadN X0 hx (hb hby d11_0) rfl rfl rfl ?_
  refine W.getfield X0 hx hZ hown (host := "") (Or.inl (w 50 _ rfl)) Via.refl e0 hF (hb hby d11_1) rfl ?_
  intro T1 X1 e1
  exact W.retA' X1 hx hlk hr rfl hu (hb hby d11_4) (by decide) (by decide) (Qc := Q_rm_id Z a u h0) e1 ⟨rfl, N0, rfl⟩
theorem pn4 : plainName "java/lang/String" = true := by first | (simp [plainName, overriddenIn]; done) | decide +kernel
theorem d2_0 : decode jdk_42_method_149_code 0 = .ok (.aload_n 0, 1) := by decide +kernel
theorem d2_1 : decode jdk_42_method_149_code 1 = .ok (.invokespecial 1, 3) := by decide +kernel
theorem d2_4 : decode jdk_42_method_149_code 4 = .ok (.iload_n 3, 1) := by decide +kernel
theorem d2_5 : decode jdk_42_method_149_code 5 = .ok (.ifCond .ne 22, 3) := by decide +kernel
theorem d2_8 : decode jdk_42_method_149_code 8 = .ok (.aload_n 0, 1) := by decide +kernel
theorem d2_9 : decode jdk_42_method_149_code 9 = .ok (.ldc 7, 2) := by decide +kernel
theorem d2_11 : decode jdk_42_method_149_code 11 = .ok (.getfield 9, 3) := by decide +kernel
theorem d2_14 : decode jdk_42_method_149_code 14 = .ok (.putfield 9, 3) := by decide +kernel
theorem d2_17 : decode jdk_42_method_149_code 17 = .ok (.aload_n 0, 1) := by decide +kernel
theorem d2_18 : decode jdk_42_method_149_code 18 = .ok (.ldc 7, 2) := by decide +kernel
theorem d2_20 : decode jdk_42_method_149_code 20 = .ok (.getfield 15, 3) := by decide +kernel
theorem d2_23 : decode jdk_42_method_149_code 23 = .ok (.putfield 15, 3) := by decide +kernel
theorem d2_26 : decode jdk_42_method_149_code 26 = .ok (.return_, 1) := by decide +kernel
def Q_rm_svO (Z : State) (x : Addr) (b : Addr) (Ts : List String) (la : Addr) (lt : Addr) (lk : ClassId) (h0 : Heap) (v : Option Value) (vm : Vm) (h : Heap) (L : List Loc) : Prop := v = none ∧ Fk h0.size [x] L ∧ Keep h0 h [x] ∧ Exa Z h x "java/lang/String" ∧ Fld Z h x "java/lang/String" "coder" "B" (.int (0 : Int32)) ∧ Fld Z h x "java/lang/String" "value" "[B" (.ref lt) ∧ Exa Z h la "java/lang/String" ∧ Fld Z h la "java/lang/String" "coder" "B" (.int (0 : Int32)) ∧ Fld Z h la "java/lang/String" "value" "[B" (.ref lt) ∧ Arv Z h lt lk .byte (0 : Int32) [] (.int (0 : Int32)) ∧ IB Z vm Ts ∧ LitV Z vm "java/lang/String" 7 la
set_option maxRecDepth 65536 in
set_option maxHeartbeats 40000000 in
theorem rm_svO (l : Launch) (Z : State) (a0 : Array Value) (hw : ∀ d ∈ tables_1, d.before a0 Z = true) (ws : List Jvm.Cond) (x : Addr) (b : Addr) (Ts : List String) (la : Addr) (lt : Addr) (lk : ClassId) (h0 : Heap) (O0 : Old Z Z.heap.size h0) (hcw : Jvm.Lit.compactW.before a0 Z = true) (hheld : ∀ d ∈ consts_1, Jvm.Lit.constHeld Z d.1 d.2) (hE : Exa Z h0 x "java/lang/String") (hV : Fld Z h0 x "java/lang/String" "value" "[B" .null) (hC : Fld Z h0 x "java/lang/String" "coder" "B" (.int (0 : Int32))) (hxz : Z.heap.size ≤ x) (hl0 : Exa Z h0 la "java/lang/String") (hl1 : Fld Z h0 la "java/lang/String" "coder" "B" (.int (0 : Int32))) (hl2 : Fld Z h0 la "java/lang/String" "value" "[B" (.ref lt)) (hl3 : Arv Z h0 lt lk .byte (0 : Int32) [] (.int (0 : Int32))) (hxl : x ≠ la) :
    CtrW l Z (⟨"java/lang/String", "<init>", "([CIILjava/lang/Void;)V"⟩ : MethodName) jdk_42_method_149_code 6 none ws ({ frames := 1, cells := 2, slots := 4, locals := 12 } : Room) #[(.ref x), (.ref b), (.int (0 : Int32)), (.int (0 : Int32)), .null] h0 (fun vm => IB Z vm Ts ∧ LitV Z vm "java/lang/String" 7 la) (Q_rm_svO Z x b Ts la lt lk h0) := by
  refine CtrW.intro (Ls := fun _ => #[.val (.ref x), .val (.ref b), .val (.int (0 : Int32)), .val (.int (0 : Int32)), .val .null, .unset]) (plainFor_of_name pn4) (fun m => by first | rfl | (simp [entryFrame, mkF, argsToLocals, Value.category]; done)) ?_
  intro p e s m below meth c s₁ vm hx hby hml hr hlk hZ hown hnm hs0 X0 e0 hS hPv
  obtain ⟨I0, LV0⟩ := hPv
  have w : ∀ (k : Nat) (d : Jvm.Cond), tables_1[k]? = some d → d.before a0 Z = true := fun k d q => hw d (List.mem_of_getElem? q)
  have N0 := Fk.nil h0.size [x]
  refine W.aloadN X0 hx (hb hby d2_0) rfl rfl rfl ?_
  refine W.objinit X0 hx hZ hown (w 11 _ rfl) (w 12 _ rfl) (w 13 _ rfl) e0 (by rw [hml]; rfl) (hb hby d2_1) rfl (by decide) 0 (Nat.le_of_eq rfl) (by decide) ?_
  intro T1 X1 e1
  refine W.iloadN X1 hx (hb hby d2_4) rfl rfl ?_
  refine W.ifNo X1 hx (hb hby d2_5) rfl ((if0 _ _).trans (teq (by decide : (0 : Int32) = (0 : Int32))).2) ?_
  refine W.aloadN X1 hx (hb hby d2_8) rfl rfl rfl ?_
  refine W.ldcOld X1 hx hZ hown (w 65 _ rfl) LV0 (hb hby d2_9) rfl ?_
  refine W.getfield X1 hx hZ hown (host := "") (Or.inl (w 28 _ rfl)) Via.refl e1 hl2 (hb hby d2_11) rfl ?_
  intro T2 X2 e2
  refine W.putfield X2 hx hZ hown (host := "") (Or.inl (w 28 _ rfl)) Via.refl e2 hV hE (Or.inr ⟨(w 29 _ rfl), rfl, hnm⟩) (w 2 _ rfl) (ty := (.array .byte)) (by decide) rfl rfl (hb hby d2_14) rfl ?_
  intro T3 h3 L3 M3 X3 e3 W3 Fw3
  have N3 := M3 _ _ N0 (Or.inl (List.mem_of_getElem? (i := 0) rfl))
  have O4 : Old Z Z.heap.size h3 := O0.wr W3 hxz
  have f5 : Fld Z h3 x "java/lang/String" "coder" "B" (.int (0 : Int32)) := hC.other W3 (Or.inr (slot_ne (Or.inr (w 27 _ rfl)) (Or.inr (w 29 _ rfl)) (by decide) (t := .byte) (t' := (.array .byte)) (by decide) (by decide)))
  have E3' : Exa Z h3 x "java/lang/String" := hE.wr W3
  refine W.aloadN X3 hx (hb hby d2_17) rfl rfl rfl ?_
  refine W.ldcOld X3 hx hZ hown (w 65 _ rfl) LV0 (hb hby d2_18) rfl ?_
  have KK6 : Keep h0 h3 [x] := ((Keep.refl h0 [x]).wr W3 (Or.inl (List.mem_of_getElem? (i := 0) rfl)))
  have f7 : Fld Z h3 la "java/lang/String" "coder" "B" (.int (0 : Int32)) := (hl1.keep KK6 (ninS (Ne.symm hxl) nin0))
  refine W.getfield X3 hx hZ hown (host := "") (Or.inl (w 26 _ rfl)) Via.refl e3 f7 (hb hby d2_20) rfl ?_
  intro T8 X8 e8
  refine W.putfieldN X8 hx hZ hown (w 26 _ rfl) Via.refl e8 (v' := (.int (0 : Int32))) f5 E3' (Or.inr ⟨(w 27 _ rfl), rfl, hnm⟩) (w 2 _ rfl) (ty := .byte) (by decide) rfl rfl (hb hby d2_23) rfl ?_
  intro T9 h9 L9 M9 X9 e9 W9 Fw9
  have N9 := M9 _ _ N3 (Or.inl (List.mem_of_getElem? (i := 0) rfl))
  have O10 : Old Z Z.heap.size h9 := O4.wr W9 hxz
  have f11 : Fld Z h9 x "java/lang/String" "value" "[B" (.ref lt) := Fw3.other W9 (Or.inr (slot_ne (Or.inr (w 29 _ rfl)) (Or.inr (w 27 _ rfl)) (by decide) (t := (.array .byte)) (t' := .byte) (by decide) (by decide)))
  have E9' : Exa Z h9 x "java/lang/String" := E3'.wr W9
  have KK12 : Keep h0 h9 [x] := (KK6.wr W9 (Or.inl (List.mem_of_getElem? (i := 0) rfl)))
  have f13 : Exa Z h9 la "java/lang/String" := (hl0.keep KK12)
  have KK14 : Keep h3 h9 [x] := ((Keep.refl h3 [x]).wr W9 (Or.inl (List.mem_of_getElem? (i := 0) rfl)))
  have f15 : Fld Z h9 la "java/lang/String" "coder" "B" (.int (0 : Int32)) := (f7.keep KK14 (ninS (Ne.symm hxl) nin0))
  have f16 : Fld Z h9 la "java/lang/String" "value" "[B" (.ref lt) := (hl2.keep KK12 (ninS (Ne.symm hxl) nin0))
  have f17 : Arv Z h9 lt lk .byte (0 : Int32) [] (.int (0 : Int32)) := (hl3.keep KK12 (ninS (Ne.symm (Exa.neArv hE hl3 (w 2 _ rfl))) nin0))
  exact W.ret0W X9 hx hS (Nat.le_trans (Nat.le_refl _) KK12.1) hlk hr (hb hby d2_26) (by decide) (by decide) (Qc := Q_rm_svO Z x b Ts la lt lk h0) e9 (fun vm' hw' => ⟨rfl, N9, KK12, E9', Fw9, f11, f13, f15, f16, f17, (ibWarm I0 hw'), (LV0.warm hw'.wide)⟩)
def Q_rm_svN (Z : State) (x : Addr) (b : Addr) (Ts : List String) (h0 : Heap) (v : Option Value) (vm : Vm) (h : Heap) (L : List Loc) : Prop := ∃ la : Addr, ∃ lt : Addr, ∃ lk : ClassId, v = none ∧ Fk h0.size [x] L ∧ Keep h0 h [x] ∧ Exa Z h x "java/lang/String" ∧ Fld Z h x "java/lang/String" "coder" "B" (.int (0 : Int32)) ∧ Fld Z h x "java/lang/String" "value" "[B" (.ref lt) ∧ Exa Z h la "java/lang/String" ∧ Fld Z h la "java/lang/String" "coder" "B" (.int (0 : Int32)) ∧ Fld Z h la "java/lang/String" "value" "[B" (.ref lt) ∧ Arv Z h lt lk .byte (0 : Int32) [] (.int (0 : Int32)) ∧ IB Z vm ("" :: Ts) ∧ LitV Z vm "java/lang/String" 7 la
set_option maxRecDepth 65536 in
set_option maxHeartbeats 40000000 in
theorem rm_svN (l : Launch) (Z : State) (a0 : Array Value) (hw : ∀ d ∈ tables_1, d.before a0 Z = true) (ws : List Jvm.Cond) (x : Addr) (b : Addr) (Ts : List String) (h0 : Heap) (O0 : Old Z Z.heap.size h0) (hcw : Jvm.Lit.compactW.before a0 Z = true) (hheld : ∀ d ∈ consts_1, Jvm.Lit.constHeld Z d.1 d.2) (hE : Exa Z h0 x "java/lang/String") (hV : Fld Z h0 x "java/lang/String" "value" "[B" .null) (hC : Fld Z h0 x "java/lang/String" "coder" "B" (.int (0 : Int32))) (hxz : Z.heap.size ≤ x) (hnot : "" ∉ Ts) :
    CtrW l Z (⟨"java/lang/String", "<init>", "([CIILjava/lang/Void;)V"⟩ : MethodName) jdk_42_method_149_code 6 none ws ({ frames := 1, cells := 2, slots := 4, locals := 12 } : Room) #[(.ref x), (.ref b), (.int (0 : Int32)), (.int (0 : Int32)), .null] h0 (fun vm => IB Z vm Ts) (Q_rm_svN Z x b Ts h0) := by
  refine CtrW.intro (Ls := fun _ => #[.val (.ref x), .val (.ref b), .val (.int (0 : Int32)), .val (.int (0 : Int32)), .val .null, .unset]) (plainFor_of_name pn4) (fun m => by first | rfl | (simp [entryFrame, mkF, argsToLocals, Value.category]; done)) ?_
  intro p e s m below meth c s₁ vm hx hby hml hr hlk hZ hown hnm hs0 X0 e0 hS hPv
  have I0 := hPv
  have w : ∀ (k : Nat) (d : Jvm.Cond), tables_1[k]? = some d → d.before a0 Z = true := fun k d q => hw d (List.mem_of_getElem? q)
  have N0 := Fk.nil h0.size [x]
  refine W.aloadN X0 hx (hb hby d2_0) rfl rfl rfl ?_
  refine W.objinit X0 hx hZ hown (w 11 _ rfl) (w 12 _ rfl) (w 13 _ rfl) e0 (by rw [hml]; rfl) (hb hby d2_1) rfl (by decide) 0 (Nat.le_of_eq rfl) (by decide) ?_
  intro T1 X1 e1
  refine W.iloadN X1 hx (hb hby d2_4) rfl rfl ?_
  refine W.ifNo X1 hx (hb hby d2_5) rfl ((if0 _ _).trans (teq (by decide : (0 : Int32) = (0 : Int32))).2) ?_
  refine W.aloadN X1 hx (hb hby d2_8) rfl rfl rfl ?_
  have wS : ∀ a ∈ Bundle.stringAtoms, a.before a0 Z = true := fun d hd => hw d ((by decide +kernel : ∀ d ∈ Bundle.stringAtoms, d ∈ tables_1) d hd)
  refine W.ldcNew X1 hx hZ hown (w 65 _ rfl) wS e1 hS (Nat.le_refl _) (Fr.nil _) (by rw [hs0]; exact O0) I0 hnot (hheld _ (List.mem_of_getElem? (i := 0) rfl)) hcw (vs := []) (z := (0 : Int32)) (by decide +kernel) (by decide) rfl (hb hby d2_9) rfl 0 (by decide) (by decide) (by decide) (by decide) ?_
  intro T2 h2 a2 b2 kb2 vm2 X2 e2 E2 hS2 hZ2 ho2 w39_2 A2 C2 V2 B2 I2 Lv2
  have O3 : Old Z Z.heap.size h2 := O0.ext E2
  have KK5 : Keep h0 h2 [] := ((Keep.refl h0 []).ext E2)
  have f6 : Fld Z h2 x "java/lang/String" "value" "[B" .null := (hV.keep KK5 nin0)
  have ne4 : a2 ≠ x := Fld.ne V2 f6 nofun
  refine W.getfield X2 hx hZ2 ho2 (host := "") (Or.inl (w 28 _ rfl)) Via.refl e2 V2 (hb hby d2_11) rfl ?_
  intro T7 X7 e7
  have f8 : Exa Z h2 x "java/lang/String" := (hE.keep KK5)
  have f10 : Fld Z h2 x "java/lang/String" "coder" "B" (.int (0 : Int32)) := (hC.keep KK5 nin0)
  refine W.putfield X7 hx hZ2 ho2 (host := "") (Or.inl (w 28 _ rfl)) Via.refl e7 f6 f8 (Or.inr ⟨(w 29 _ rfl), rfl, hnm⟩) (w 2 _ rfl) (ty := (.array .byte)) (by decide) rfl rfl (hb hby d2_14) rfl ?_
  intro T9 h9 L9 M9 X9 e9 W9 Fw9
  have N9 := M9 _ _ N0 (Or.inl (List.mem_of_getElem? (i := 0) rfl))
  have O11 : Old Z Z.heap.size h9 := O3.wr W9 hxz
  have f12 : Fld Z h9 x "java/lang/String" "coder" "B" (.int (0 : Int32)) := f10.other W9 (Or.inr (slot_ne (Or.inr (w 27 _ rfl)) (Or.inr (w 29 _ rfl)) (by decide) (t := .byte) (t' := (.array .byte)) (by decide) (by decide)))
  have E9' : Exa Z h9 x "java/lang/String" := f8.wr W9
  refine W.aloadN X9 hx (hb hby d2_17) rfl rfl rfl ?_
  refine W.ldcOld X9 hx hZ2 ho2 (w 65 _ rfl) Lv2 (hb hby d2_18) rfl ?_
  have KK13 : Keep h2 h9 [x] := ((Keep.refl h2 [x]).wr W9 (Or.inl (List.mem_of_getElem? (i := 0) rfl)))
  have f14 : Fld Z h9 a2 "java/lang/String" "coder" "B" (.int (0 : Int32)) := (C2.keep KK13 (ninS ne4 nin0))
  refine W.getfield X9 hx hZ2 ho2 (host := "") (Or.inl (w 26 _ rfl)) Via.refl e9 f14 (hb hby d2_20) rfl ?_
  intro T15 X15 e15
  refine W.putfieldN X15 hx hZ2 ho2 (w 26 _ rfl) Via.refl e15 (v' := (.int (0 : Int32))) f12 E9' (Or.inr ⟨(w 27 _ rfl), rfl, hnm⟩) (w 2 _ rfl) (ty := .byte) (by decide) rfl rfl (hb hby d2_23) rfl ?_
  intro T16 h16 L16 M16 X16 e16 W16 Fw16
  have N16 := M16 _ _ N9 (Or.inl (List.mem_of_getElem? (i := 0) rfl))
  have O17 : Old Z Z.heap.size h16 := O11.wr W16 hxz
  have f18 : Fld Z h16 x "java/lang/String" "value" "[B" (.ref b2) := Fw9.other W16 (Or.inr (slot_ne (Or.inr (w 29 _ rfl)) (Or.inr (w 27 _ rfl)) (by decide) (t := (.array .byte)) (t' := .byte) (by decide) (by decide)))
  have E16' : Exa Z h16 x "java/lang/String" := E9'.wr W16
  have KK19 : Keep h0 h16 [x] := ((((Keep.refl h0 [x]).ext E2).wr W9 (Or.inl (List.mem_of_getElem? (i := 0) rfl))).wr W16 (Or.inl (List.mem_of_getElem? (i := 0) rfl)))
  have KK20 : Keep h2 h16 [x] := (KK13.wr W16 (Or.inl (List.mem_of_getElem? (i := 0) rfl)))
  have f21 : Exa Z h16 a2 "java/lang/String" := (A2.keep KK20)
  have KK22 : Keep h9 h16 [x] := ((Keep.refl h9 [x]).wr W16 (Or.inl (List.mem_of_getElem? (i := 0) rfl)))
  have f23 : Fld Z h16 a2 "java/lang/String" "coder" "B" (.int (0 : Int32)) := (f14.keep KK22 (ninS ne4 nin0))
  have f24 : Fld Z h16 a2 "java/lang/String" "value" "[B" (.ref b2) := (V2.keep KK20 (ninS ne4 nin0))
  have f25 : Arv Z h16 b2 kb2 .byte (0 : Int32) [] (.int (0 : Int32)) := (B2.keep KK20 (ninS (Ne.symm (Exa.neArv f8 B2 (w 2 _ rfl))) nin0))
  exact W.ret0W X16 hx hS2 (Nat.le_trans (Nat.le_refl _) KK20.1) hlk hr (hb hby d2_26) (by decide) (by decide) (Qc := Q_rm_svN Z x b Ts h0) e16 (fun vm' hw' => ⟨a2, b2, kb2, rfl, N16, KK19, E16', Fw16, f18, f21, f23, f24, f25, (ibWarm I2 hw'), (Lv2.warm hw'.wide)⟩)
theorem d1_0 : decode jdk_42_method_3_code 0 = .ok (.aload_n 0, 1) := by decide +kernel
theorem d1_1 : decode jdk_42_method_3_code 1 = .ok (.aload_n 1, 1) := by decide +kernel
theorem d1_2 : decode jdk_42_method_3_code 2 = .ok (.iconst 0, 1) := by decide +kernel
theorem d1_3 : decode jdk_42_method_3_code 3 = .ok (.aload_n 1, 1) := by decide +kernel
theorem d1_4 : decode jdk_42_method_3_code 4 = .ok (.arraylength, 1) := by decide +kernel
theorem d1_5 : decode jdk_42_method_3_code 5 = .ok (.aconst_null, 1) := by decide +kernel
theorem d1_6 : decode jdk_42_method_3_code 6 = .ok (.invokespecial 27, 3) := by decide +kernel
theorem pd5 : parseMethodDescriptor "([CIILjava/lang/Void;)V" = some ⟨[(.array .char), .int, .int, (.object "java/lang/Void")], none⟩ := by decide +kernel
theorem d1_9 : decode jdk_42_method_3_code 9 = .ok (.return_, 1) := by decide +kernel
def Q_rm_s0O (Z : State) (x : Addr) (b : Addr) (kc : ClassId) (vs : List Value) (dv : Value) (Ts : List String) (la : Addr) (lt : Addr) (lk : ClassId) (h0 : Heap) (v : Option Value) (vm : Vm) (h : Heap) (L : List Loc) : Prop := v = none ∧ Fk h0.size [x] L ∧ Keep h0 h [x] ∧ Exa Z h x "java/lang/String" ∧ Fld Z h x "java/lang/String" "coder" "B" (.int (0 : Int32)) ∧ Fld Z h x "java/lang/String" "value" "[B" (.ref lt) ∧ Exa Z h la "java/lang/String" ∧ Fld Z h la "java/lang/String" "coder" "B" (.int (0 : Int32)) ∧ Fld Z h la "java/lang/String" "value" "[B" (.ref lt) ∧ Arv Z h lt lk .byte (0 : Int32) [] (.int (0 : Int32)) ∧ IB Z vm Ts ∧ LitV Z vm "java/lang/String" 7 la
set_option maxRecDepth 65536 in
set_option maxHeartbeats 40000000 in
theorem rm_s0O (l : Launch) (Z : State) (a0 : Array Value) (hw : ∀ d ∈ tables_1, d.before a0 Z = true) (ws : List Jvm.Cond) (x : Addr) (b : Addr) (kc : ClassId) (vs : List Value) (dv : Value) (Ts : List String) (la : Addr) (lt : Addr) (lk : ClassId) (h0 : Heap) (O0 : Old Z Z.heap.size h0) (hcw : Jvm.Lit.compactW.before a0 Z = true) (hheld : ∀ d ∈ consts_1, Jvm.Lit.constHeld Z d.1 d.2) (hE : Exa Z h0 x "java/lang/String") (hV : Fld Z h0 x "java/lang/String" "value" "[B" .null) (hC : Fld Z h0 x "java/lang/String" "coder" "B" (.int (0 : Int32))) (hxz : Z.heap.size ≤ x) (hb_ : Arv Z h0 b kc .char (0 : Int32) vs dv) (hl0 : Exa Z h0 la "java/lang/String") (hl1 : Fld Z h0 la "java/lang/String" "coder" "B" (.int (0 : Int32))) (hl2 : Fld Z h0 la "java/lang/String" "value" "[B" (.ref lt)) (hl3 : Arv Z h0 lt lk .byte (0 : Int32) [] (.int (0 : Int32))) (hxl : x ≠ la) :
    CtrW l Z (⟨"java/lang/String", "<init>", "([C)V"⟩ : MethodName) jdk_42_method_3_code 2 none ws ({ frames := 2, cells := 2, slots := 4, locals := 29 } : Room) #[(.ref x), (.ref b)] h0 (fun vm => IB Z vm Ts ∧ LitV Z vm "java/lang/String" 7 la) (Q_rm_s0O Z x b kc vs dv Ts la lt lk h0) := by
  refine CtrW.intro (Ls := fun _ => #[.val (.ref x), .val (.ref b)]) (plainFor_of_name pn4) (fun m => by first | rfl | (simp [entryFrame, mkF, argsToLocals, Value.category]; done)) ?_
  intro p e s m below meth c s₁ vm hx hby hml hr hlk hZ hown hnm hs0 X0 e0 hS hPv
  obtain ⟨I0, LV0⟩ := hPv
  have w : ∀ (k : Nat) (d : Jvm.Cond), tables_1[k]? = some d → d.before a0 Z = true := fun k d q => hw d (List.mem_of_getElem? q)
  have N0 := Fk.nil h0.size [x]
  refine W.aloadN X0 hx (hb hby d1_0) rfl rfl rfl ?_
  refine W.aloadN X0 hx (hb hby d1_1) rfl rfl rfl ?_
  refine W.iconst X0 hx (v := (0 : Int32)) (hb hby d1_2) rfl rfl ?_
  refine W.aloadN X0 hx (hb hby d1_3) rfl rfl rfl ?_
  refine W.arraylength X0 hx hZ e0 hb_ (hb hby d1_4) rfl ?_
  refine W.aconstNull X0 hx (hb hby d1_5) rfl ?_
  refine W.callIW X0 hx hS (Nat.le_refl _) hZ rfl hown (w 7 _ rfl) (w 8 _ rfl) (w 10 _ rfl) (by decide) (as' := [(.ref b), (.int (0 : Int32)), (.int (0 : Int32)), .null]) (payW (W := 0) (rm_svO l Z a0 hw [] x b Ts la lt lk h0 O0 hcw hheld hE hV hC hxz hl0 hl1 hl2 hl3 hxl) (s := s.setVm vm) hZ (w 10 _ rfl) (w 3 _ rfl) (by decide) (by decide) (fun _ q => ⟨ibWarm I0 q, LV0.warm q.wide⟩)) e0 (by rw [hml]; rfl) (rest := []) (lenOf pd5 rfl) rfl (Nat.le_of_eq rfl) (hb hby d1_6) rfl (by decide) (by decide) ?_
  intro T1 h1 v1 L1 vm1 X1 e1 hS1 hZ1 ho1 w39_1 hQ1
  obtain ⟨rfl, Nq1, K1, q1_0, q1_1, q1_2, q1_3, q1_4, q1_5, q1_6, y1_0, y1_1⟩ := hQ1
  have N1 := Fk.app N0 Nq1 (Nat.le_refl _) (allS (Or.inl (List.mem_of_getElem? (i := 0) rfl)) all0)
  have O2 : Old Z Z.heap.size h1 := O0.keep K1 (allS hxz all0)
  show Wp p e below _ _ T1 (mkF m 9 #[.val (.ref x), .val (.ref b)] [])
  have KK3 : Keep h0 h1 [x] := ((Keep.refl h0 [x]).trans K1 (allS (Or.inl (List.mem_of_getElem? (i := 0) rfl)) all0))
  exact W.ret0W X1 hx hS1 (Nat.le_refl _) hlk hr (hb hby d1_9) (by decide) (by decide) (Qc := Q_rm_s0O Z x b kc vs dv Ts la lt lk h0) e1 (fun vm' hw' => ⟨rfl, N1, KK3, q1_0, q1_1, q1_2, q1_3, q1_4, q1_5, q1_6, (ibWarm y1_0 hw'), (y1_1.warm hw'.wide)⟩)
def Q_rm_s0N (Z : State) (x : Addr) (b : Addr) (kc : ClassId) (vs : List Value) (dv : Value) (Ts : List String) (h0 : Heap) (v : Option Value) (vm : Vm) (h : Heap) (L : List Loc) : Prop := ∃ la : Addr, ∃ lt : Addr, ∃ lk : ClassId, v = none ∧ Fk h0.size [x] L ∧ Keep h0 h [x] ∧ Exa Z h x "java/lang/String" ∧ Fld Z h x "java/lang/String" "coder" "B" (.int (0 : Int32)) ∧ Fld Z h x "java/lang/String" "value" "[B" (.ref lt) ∧ Exa Z h la "java/lang/String" ∧ Fld Z h la "java/lang/String" "coder" "B" (.int (0 : Int32)) ∧ Fld Z h la "java/lang/String" "value" "[B" (.ref lt) ∧ Arv Z h lt lk .byte (0 : Int32) [] (.int (0 : Int32)) ∧ IB Z vm ("" :: Ts) ∧ LitV Z vm "java/lang/String" 7 la
set_option maxRecDepth 65536 in
set_option maxHeartbeats 40000000 in
theorem rm_s0N (l : Launch) (Z : State) (a0 : Array Value) (hw : ∀ d ∈ tables_1, d.before a0 Z = true) (ws : List Jvm.Cond) (x : Addr) (b : Addr) (kc : ClassId) (vs : List Value) (dv : Value) (Ts : List String) (h0 : Heap) (O0 : Old Z Z.heap.size h0) (hcw : Jvm.Lit.compactW.before a0 Z = true) (hheld : ∀ d ∈ consts_1, Jvm.Lit.constHeld Z d.1 d.2) (hE : Exa Z h0 x "java/lang/String") (hV : Fld Z h0 x "java/lang/String" "value" "[B" .null) (hC : Fld Z h0 x "java/lang/String" "coder" "B" (.int (0 : Int32))) (hxz : Z.heap.size ≤ x) (hb_ : Arv Z h0 b kc .char (0 : Int32) vs dv) (hnot : "" ∉ Ts) :
    CtrW l Z (⟨"java/lang/String", "<init>", "([C)V"⟩ : MethodName) jdk_42_method_3_code 2 none ws ({ frames := 2, cells := 2, slots := 4, locals := 29 } : Room) #[(.ref x), (.ref b)] h0 (fun vm => IB Z vm Ts) (Q_rm_s0N Z x b kc vs dv Ts h0) := by
  refine CtrW.intro (Ls := fun _ => #[.val (.ref x), .val (.ref b)]) (plainFor_of_name pn4) (fun m => by first | rfl | (simp [entryFrame, mkF, argsToLocals, Value.category]; done)) ?_
  intro p e s m below meth c s₁ vm hx hby hml hr hlk hZ hown hnm hs0 X0 e0 hS hPv
  have I0 := hPv
  have w : ∀ (k : Nat) (d : Jvm.Cond), tables_1[k]? = some d → d.before a0 Z = true := fun k d q => hw d (List.mem_of_getElem? q)
  have N0 := Fk.nil h0.size [x]
  refine W.aloadN X0 hx (hb hby d1_0) rfl rfl rfl ?_
  refine W.aloadN X0 hx (hb hby d1_1) rfl rfl rfl ?_
  refine W.iconst X0 hx (v := (0 : Int32)) (hb hby d1_2) rfl rfl ?_
  refine W.aloadN X0 hx (hb hby d1_3) rfl rfl rfl ?_
  refine W.arraylength X0 hx hZ e0 hb_ (hb hby d1_4) rfl ?_
  refine W.aconstNull X0 hx (hb hby d1_5) rfl ?_
  refine W.callIW X0 hx hS (Nat.le_refl _) hZ rfl hown (w 7 _ rfl) (w 8 _ rfl) (w 10 _ rfl) (by decide) (as' := [(.ref b), (.int (0 : Int32)), (.int (0 : Int32)), .null]) (payW (W := 0) (rm_svN l Z a0 hw [] x b Ts h0 O0 hcw hheld hE hV hC hxz hnot) (s := s.setVm vm) hZ (w 10 _ rfl) (w 3 _ rfl) (by decide) (by decide) (fun _ q => ibWarm I0 q)) e0 (by rw [hml]; rfl) (rest := []) (lenOf pd5 rfl) rfl (Nat.le_of_eq rfl) (hb hby d1_6) rfl (by decide) (by decide) ?_
  intro T1 h1 v1 L1 vm1 X1 e1 hS1 hZ1 ho1 w39_1 hQ1
  obtain ⟨la1, lt1, lk1, rfl, Nq1, K1, q1_0, q1_1, q1_2, q1_3, q1_4, q1_5, q1_6, y1_0, y1_1⟩ := hQ1
  have N1 := Fk.app N0 Nq1 (Nat.le_refl _) (allS (Or.inl (List.mem_of_getElem? (i := 0) rfl)) all0)
  have O2 : Old Z Z.heap.size h1 := O0.keep K1 (allS hxz all0)
  show Wp p e below _ _ T1 (mkF m 9 #[.val (.ref x), .val (.ref b)] [])
  have KK3 : Keep h0 h1 [x] := ((Keep.refl h0 [x]).trans K1 (allS (Or.inl (List.mem_of_getElem? (i := 0) rfl)) all0))
  exact W.ret0W X1 hx hS1 (Nat.le_refl _) hlk hr (hb hby d1_9) (by decide) (by decide) (Qc := Q_rm_s0N Z x b kc vs dv Ts h0) e1 (fun vm' hw' => ⟨la1, lt1, lk1, rfl, N1, KK3, q1_0, q1_1, q1_2, q1_3, q1_4, q1_5, q1_6, (ibWarm y1_0 hw'), (y1_1.warm hw'.wide)⟩)
theorem pn6 : plainName "com/example/visad/visad/identity/ScopeProjectPinLaw" = true := by first | (simp [plainName, overriddenIn]; done) | decide +kernel
theorem pd7 : parseMethodDescriptor "([C)V" = some ⟨[(.array .char)], none⟩ := by decide +kernel
theorem pd8 : parseMethodDescriptor "(Ljava/lang/String;)Lcom/example/visad/visad/identity/Scope;" = some ⟨[(.object "java/lang/String")], some (.object "com/example/visad/visad/identity/Scope")⟩ := by decide +kernel
theorem pd9 : parseMethodDescriptor "()Lcom/example/visad/visad/identity/Scope$Kind;" = some ⟨[], some (.object "com/example/visad/visad/identity/Scope$Kind")⟩ := by decide +kernel
theorem pd10 : parseMethodDescriptor "()Ljava/lang/String;" = some ⟨[], some (.object "java/lang/String")⟩ := by decide +kernel
def Q_rm_law (Z : State) (p0 : Int32) (p1 : Int32) (p2 : Int32) (p3 : Int32) (G1 : Int32) (kp : Addr) (kd : Addr) (h0 : Heap) (v : Option Value) (vm : Vm) (h : Heap) (L : List Loc) : Prop := v = some (.int (1 : Int32)) ∧ Fk h0.size [] L ∧ Keep h0 h []
set_option maxRecDepth 65536 in
set_option maxHeartbeats 40000000 in
theorem rm_law (l : Launch) (Z : State) (a0 : Array Value) (hw : ∀ d ∈ tables_1, d.before a0 Z = true) (ws : List Jvm.Cond) (p0 : Int32) (p1 : Int32) (p2 : Int32) (p3 : Int32) (G1 : Int32) (kp : Addr) (kd : Addr) (h0 : Heap) (O0 : Old Z Z.heap.size h0) (hcw : Jvm.Lit.compactW.before a0 Z = true) (hheld : ∀ d ∈ consts_1, Jvm.Lit.constHeld Z d.1 d.2) (SG1 : Sta Z Z.heap "java/lang/String" "COMPACT_STRINGS" "Z" (.int G1)) (nG1 : ¬ G1 = 0) (SP : Sta Z Z.heap "com/example/visad/visad/identity/Scope$Kind" "PROJECT" "Lcom/example/visad/visad/identity/Scope$Kind;" (.ref kp)) (SD : Sta Z Z.heap "com/example/visad/visad/identity/Scope$Kind" "DOMAIN" "Lcom/example/visad/visad/identity/Scope$Kind;" (.ref kd)) (hne : kp ≠ kd) :
    CtrW l Z x code maxLocals ret ws room_1 #[(.int p0), (.int p1), (.int p2), (.int p3)] h0 (fun vm => IB Z vm []) (Q_rm_law Z p0 p1 p2 p3 G1 kp kd h0) := by
  refine CtrW.intro (Ls := fun _ => #[.val (.int p0), .val (.int p1), .val (.int p2), .val (.int p3), .unset, .unset, .unset, .unset, .unset, .unset, .unset, .unset, .unset, .unset]) (plainFor_of_name pn6) (fun m => by first | rfl | (simp [entryFrame, mkF, argsToLocals, Value.category, maxLocals]; done)) ?_
  intro p e s m below meth c s₁ vm hx hby hml hr hlk hZ hown hnm hs0 X0 e0 hS hPv
  have I0 := hPv
  have w : ∀ (k : Nat) (d : Jvm.Cond), tables_1[k]? = some d → d.before a0 Z = true := fun k d q => hw d (List.mem_of_getElem? q)
  have N0 := Fk.nil h0.size []
  refine W.iloadN X0 hx (hb hby at_0) rfl rfl ?_
  refine W.sipush X0 hx (v := (255 : Int32)) (hb hby at_1) rfl rfl ?_
  refine W.iand X0 hx (hb hby at_4) rfl ?_
  refine W.i2c X0 hx (hb hby at_5) rfl ?_
  intro c1 hc1
  have Lc1 : Lat c1 := lat255 hc1
  refine W.istore X0 hx (Ls' := #[.val (.int p0), .val (.int p1), .val (.int p2), .val (.int p3), .val (.int c1), .unset, .unset, .unset, .unset, .unset, .unset, .unset, .unset, .unset]) (hb hby at_6) rfl rfl ?_
  refine W.iloadN X0 hx (hb hby at_8) rfl rfl ?_
  refine W.sipush X0 hx (v := (255 : Int32)) (hb hby at_9) rfl rfl ?_
  refine W.iand X0 hx (hb hby at_12) rfl ?_
  refine W.i2c X0 hx (hb hby at_13) rfl ?_
  intro c2 hc2
  have Lc2 : Lat c2 := lat255 hc2
  refine W.istore X0 hx (Ls' := #[.val (.int p0), .val (.int p1), .val (.int p2), .val (.int p3), .val (.int c1), .val (.int c2), .unset, .unset, .unset, .unset, .unset, .unset, .unset, .unset]) (hb hby at_14) rfl rfl ?_
  refine W.iloadN X0 hx (hb hby at_16) rfl rfl ?_
  refine W.sipush X0 hx (v := (255 : Int32)) (hb hby at_17) rfl rfl ?_
  refine W.iand X0 hx (hb hby at_20) rfl ?_
  refine W.i2c X0 hx (hb hby at_21) rfl ?_
  intro c3 hc3
  have Lc3 : Lat c3 := lat255 hc3
  refine W.istore X0 hx (Ls' := #[.val (.int p0), .val (.int p1), .val (.int p2), .val (.int p3), .val (.int c1), .val (.int c2), .val (.int c3), .unset, .unset, .unset, .unset, .unset, .unset, .unset]) (hb hby at_22) rfl rfl ?_
  refine W.iconst X0 hx (v := (0 : Int32)) (hb hby at_24) rfl rfl ?_
  refine W.newarray X0 hx hZ (w 0 _ rfl) e0 (hb hby at_25) rfl (by decide) 0 (by decide) (by decide) (by decide) (by decide) ?_
  intro T4 h4 a4 k4 g4 X4 e4 E4 A4
  have O5 : Old Z Z.heap.size h4 := O0.ext E4
  have V4 : Arv Z h4 a4 k4 .char (0 : Int32) [] (.int (0 : Int32)) := A4.pad (pad_rep [] (.int (0 : Int32)) 0)
  refine W.astore X4 hx (Ls' := #[.val (.int p0), .val (.int p1), .val (.int p2), .val (.int p3), .val (.int c1), .val (.int c2), .val (.int c3), .val (.ref a4), .unset, .unset, .unset, .unset, .unset, .unset]) (hb hby at_27) rfl rfl rfl ?_
  refine W.iconst X4 hx (v := (1 : Int32)) (hb hby at_29) rfl rfl ?_
  refine W.newarray X4 hx hZ (w 0 _ rfl) e4 (hb hby at_30) rfl (by decide) 1 (by decide) (by decide) (by decide) (by decide) ?_
  intro T6 h6 a6 k6 g6 X6 e6 E6 A6
  have O7 : Old Z Z.heap.size h6 := O5.ext E6
  have V6 : Arv Z h6 a6 k6 .char (1 : Int32) [(.int (0 : Int32))] (.int (0 : Int32)) := A6.pad (pad_rep [] (.int (0 : Int32)) 1)
  refine W.dup X6 hx (hb hby at_32) rfl rfl ?_
  refine W.iconst X6 hx (v := (0 : Int32)) (hb hby at_33) rfl rfl ?_
  refine W.iload X6 hx (hb hby at_34) rfl rfl ?_
  refine W.castore X6 hx hZ e6 V6 (by decide) (by decide) 0 rfl (Nat.le_of_ble_eq_true rfl) (w := c1) (narC Lc1.chr) (hb hby at_36) rfl ?_
  intro T8 h8 L8 M8 X8 e8 W8 A8
  have KK9 : Keep h0 h4 [] := ((Keep.refl h0 []).ext E4)
  have N8 := M8 _ _ N0 (Or.inr (Nat.le_trans KK9.1 (Nat.le_of_eq g6)))
  have O10 : Old Z Z.heap.size h8 := O7.wr W8 (Nat.le_trans (Nat.le_trans (Nat.le_trans (Nat.le_of_eq O0.1.symm) O0.2.1) KK9.1) (Nat.le_of_eq g6))
  have V8 : Arv Z h8 a6 k6 .char (1 : Int32) [(.int c1)] (.int (0 : Int32)) := A8
  refine W.astore X8 hx (Ls' := #[.val (.int p0), .val (.int p1), .val (.int p2), .val (.int p3), .val (.int c1), .val (.int c2), .val (.int c3), .val (.ref a4), .val (.ref a6), .unset, .unset, .unset, .unset, .unset]) (hb hby at_37) rfl rfl rfl ?_
  refine W.iconst X8 hx (v := (2 : Int32)) (hb hby at_39) rfl rfl ?_
  refine W.newarray X8 hx hZ (w 0 _ rfl) e8 (hb hby at_40) rfl (by decide) 2 (by decide) (by decide) (by decide) (by decide) ?_
  intro T11 h11 a11 k11 g11 X11 e11 E11 A11
  have O12 : Old Z Z.heap.size h11 := O10.ext E11
  have V11 : Arv Z h11 a11 k11 .char (2 : Int32) [(.int (0 : Int32)), (.int (0 : Int32))] (.int (0 : Int32)) := A11.pad (pad_rep [] (.int (0 : Int32)) 2)
  refine W.dup X11 hx (hb hby at_42) rfl rfl ?_
  refine W.iconst X11 hx (v := (0 : Int32)) (hb hby at_43) rfl rfl ?_
  refine W.iload X11 hx (hb hby at_44) rfl rfl ?_
  refine W.castore X11 hx hZ e11 V11 (by decide) (by decide) 0 rfl (Nat.le_of_ble_eq_true rfl) (w := c1) (narC Lc1.chr) (hb hby at_46) rfl ?_
  intro T13 h13 L13 M13 X13 e13 W13 A13
  have KK14 : Keep h0 h8 [] := ((KK9.ext E6).wr W8 (Or.inr (Nat.le_trans KK9.1 (Nat.le_of_eq g6))))
  have N13 := M13 _ _ N8 (Or.inr (Nat.le_trans KK14.1 (Nat.le_of_eq g11)))
  have O15 : Old Z Z.heap.size h13 := O12.wr W13 (Nat.le_trans (Nat.le_trans (Nat.le_trans (Nat.le_of_eq O0.1.symm) O0.2.1) KK14.1) (Nat.le_of_eq g11))
  have V13 : Arv Z h13 a11 k11 .char (2 : Int32) [(.int c1), (.int (0 : Int32))] (.int (0 : Int32)) := A13
  refine W.dup X13 hx (hb hby at_47) rfl rfl ?_
  refine W.iconst X13 hx (v := (1 : Int32)) (hb hby at_48) rfl rfl ?_
  refine W.iload X13 hx (hb hby at_49) rfl rfl ?_
  refine W.castore X13 hx hZ e13 V13 (by decide) (by decide) 1 rfl (Nat.le_of_ble_eq_true rfl) (w := c2) (narC Lc2.chr) (hb hby at_51) rfl ?_
  intro T16 h16 L16 M16 X16 e16 W16 A16
  have N16 := M16 _ _ N13 (Or.inr (Nat.le_trans KK14.1 (Nat.le_of_eq g11)))
  have O17 : Old Z Z.heap.size h16 := O15.wr W16 (Nat.le_trans (Nat.le_trans (Nat.le_trans (Nat.le_of_eq O0.1.symm) O0.2.1) KK14.1) (Nat.le_of_eq g11))
  have V16 : Arv Z h16 a11 k11 .char (2 : Int32) [(.int c1), (.int c2)] (.int (0 : Int32)) := A16
  refine W.astore X16 hx (Ls' := #[.val (.int p0), .val (.int p1), .val (.int p2), .val (.int p3), .val (.int c1), .val (.int c2), .val (.int c3), .val (.ref a4), .val (.ref a6), .val (.ref a11), .unset, .unset, .unset, .unset]) (hb hby at_52) rfl rfl rfl ?_
  refine W.iconst X16 hx (v := (3 : Int32)) (hb hby at_54) rfl rfl ?_
  refine W.newarray X16 hx hZ (w 0 _ rfl) e16 (hb hby at_55) rfl (by decide) 3 (by decide) (by decide) (by decide) (by decide) ?_
  intro T18 h18 a18 k18 g18 X18 e18 E18 A18
  have O19 : Old Z Z.heap.size h18 := O17.ext E18
  have V18 : Arv Z h18 a18 k18 .char (3 : Int32) [(.int (0 : Int32)), (.int (0 : Int32)), (.int (0 : Int32))] (.int (0 : Int32)) := A18.pad (pad_rep [] (.int (0 : Int32)) 3)
  refine W.dup X18 hx (hb hby at_57) rfl rfl ?_
  refine W.iconst X18 hx (v := (0 : Int32)) (hb hby at_58) rfl rfl ?_
  refine W.iload X18 hx (hb hby at_59) rfl rfl ?_
  refine W.castore X18 hx hZ e18 V18 (by decide) (by decide) 0 rfl (Nat.le_of_ble_eq_true rfl) (w := c1) (narC Lc1.chr) (hb hby at_61) rfl ?_
  intro T20 h20 L20 M20 X20 e20 W20 A20
  have KK21 : Keep h0 h16 [] := (((KK14.ext E11).wr W13 (Or.inr (Nat.le_trans KK14.1 (Nat.le_of_eq g11)))).wr W16 (Or.inr (Nat.le_trans KK14.1 (Nat.le_of_eq g11))))
  have N20 := M20 _ _ N16 (Or.inr (Nat.le_trans KK21.1 (Nat.le_of_eq g18)))
  have O22 : Old Z Z.heap.size h20 := O19.wr W20 (Nat.le_trans (Nat.le_trans (Nat.le_trans (Nat.le_of_eq O0.1.symm) O0.2.1) KK21.1) (Nat.le_of_eq g18))
  have V20 : Arv Z h20 a18 k18 .char (3 : Int32) [(.int c1), (.int (0 : Int32)), (.int (0 : Int32))] (.int (0 : Int32)) := A20
  refine W.dup X20 hx (hb hby at_62) rfl rfl ?_
  refine W.iconst X20 hx (v := (1 : Int32)) (hb hby at_63) rfl rfl ?_
  refine W.iload X20 hx (hb hby at_64) rfl rfl ?_
  refine W.castore X20 hx hZ e20 V20 (by decide) (by decide) 1 rfl (Nat.le_of_ble_eq_true rfl) (w := c2) (narC Lc2.chr) (hb hby at_66) rfl ?_
  intro T23 h23 L23 M23 X23 e23 W23 A23
  have N23 := M23 _ _ N20 (Or.inr (Nat.le_trans KK21.1 (Nat.le_of_eq g18)))
  have O24 : Old Z Z.heap.size h23 := O22.wr W23 (Nat.le_trans (Nat.le_trans (Nat.le_trans (Nat.le_of_eq O0.1.symm) O0.2.1) KK21.1) (Nat.le_of_eq g18))
  have V23 : Arv Z h23 a18 k18 .char (3 : Int32) [(.int c1), (.int c2), (.int (0 : Int32))] (.int (0 : Int32)) := A23
  refine W.dup X23 hx (hb hby at_67) rfl rfl ?_
  refine W.iconst X23 hx (v := (2 : Int32)) (hb hby at_68) rfl rfl ?_
  refine W.iload X23 hx (hb hby at_69) rfl rfl ?_
  refine W.castore X23 hx hZ e23 V23 (by decide) (by decide) 2 rfl (Nat.le_of_ble_eq_true rfl) (w := c3) (narC Lc3.chr) (hb hby at_71) rfl ?_
  intro T25 h25 L25 M25 X25 e25 W25 A25
  have N25 := M25 _ _ N23 (Or.inr (Nat.le_trans KK21.1 (Nat.le_of_eq g18)))
  have O26 : Old Z Z.heap.size h25 := O24.wr W25 (Nat.le_trans (Nat.le_trans (Nat.le_trans (Nat.le_of_eq O0.1.symm) O0.2.1) KK21.1) (Nat.le_of_eq g18))
  have V25 : Arv Z h25 a18 k18 .char (3 : Int32) [(.int c1), (.int c2), (.int c3)] (.int (0 : Int32)) := A25
  refine W.astore X25 hx (Ls' := #[.val (.int p0), .val (.int p1), .val (.int p2), .val (.int p3), .val (.int c1), .val (.int c2), .val (.int c3), .val (.ref a4), .val (.ref a6), .val (.ref a11), .val (.ref a18), .unset, .unset, .unset]) (hb hby at_72) rfl rfl rfl ?_
  refine W.iloadN X25 hx (hb hby at_74) rfl rfl ?_
  refine W.iconst X25 hx (v := (3 : Int32)) (hb hby at_75) rfl rfl ?_
  refine W.iand X25 hx (hb hby at_76) rfl ?_
  refine W.istoreA X25 hx (Ls' := fun z => #[.val (.int p0), .val (.int p1), .val (.int p2), .val (.int p3), .val (.int c1), .val (.int c2), .val (.int c3), .val (.ref a4), .val (.ref a6), .val (.ref a11), .val (.ref a18), .val (.int z), .unset, .unset]) (hb hby at_77) rfl (fun _ => rfl) ?_
  intro i27 hi27
  show Wp p e below _ _ T25 (mkF m 79 #[.val (.int p0), .val (.int p1), .val (.int p2), .val (.int p3), .val (.int c1), .val (.int c2), .val (.int c3), .val (.ref a4), .val (.ref a6), .val (.ref a11), .val (.ref a18), .val (.int i27), .unset, .unset] [])
  refine W.iloadN X25 hx (hb hby at_79) rfl rfl ?_
  refine W.iconst X25 hx (v := (4 : Int32)) (hb hby at_80) rfl rfl ?_
  refine W.iand X25 hx (hb hby at_81) rfl ?_
  by_cases hc28 : (p3 &&& (4 : Int32)) = (0 : Int32)
  · skip
    refine W.ifYes X25 hx (hb hby at_82) (by decide) (q := 91) rfl ((if0 _ _).trans (teq hc28).1) ?_
    refine W.iload X25 hx (hb hby at_91) rfl rfl ?_
    by_cases hc29 : i27 = (0 : Int32)
    · skip
      refine W.ifNo X25 hx (hb hby at_93) rfl ((if0 _ _).trans (teq hc29).2) ?_
      refine W.new X25 hx hZ hown (w 1 _ rfl) (w 2 _ rfl) (w 3 _ rfl) e25 (hb hby at_96) rfl (by decide) (by decide) ?_
      intro T30 h30 a30 g30 X30 e30 E30 A30 D30
      have O31 : Old Z Z.heap.size h30 := O26.ext E30
      have f32 : Fld Z h30 a30 "java/lang/String" "coder" "B" (.int (0 : Int32)) := D30 (Or.inr (w 27 _ rfl)) (ty := .byte) (by decide)
      have f33 : Fld Z h30 a30 "java/lang/String" "value" "[B" .null := D30 (Or.inr (w 29 _ rfl)) (ty := (.array .byte)) (by decide)
      refine W.dup X30 hx (hb hby at_99) rfl rfl ?_
      refine W.aload X30 hx (hb hby at_100) rfl rfl rfl ?_
      have KK34 : Keep h0 h25 [] := ((((KK21.ext E18).wr W20 (Or.inr (Nat.le_trans KK21.1 (Nat.le_of_eq g18)))).wr W23 (Or.inr (Nat.le_trans KK21.1 (Nat.le_of_eq g18)))).wr W25 (Or.inr (Nat.le_trans KK21.1 (Nat.le_of_eq g18))))
      have KK35 : Keep h4 h8 [] := (((Keep.refl h4 []).ext E6).wr W8 (Or.inr (Nat.le_of_eq g6)))
      have KK36 : Keep h4 h16 [] := (((KK35.ext E11).wr W13 (Or.inr (Nat.le_trans KK35.1 (Nat.le_of_eq g11)))).wr W16 (Or.inr (Nat.le_trans KK35.1 (Nat.le_of_eq g11))))
      have KK37 : Keep h4 h30 [] := (((((((((((Keep.refl h4 []).ext E6).wr W8 (Or.inr (Nat.le_of_eq g6))).ext E11).wr W13 (Or.inr (Nat.le_trans KK35.1 (Nat.le_of_eq g11)))).wr W16 (Or.inr (Nat.le_trans KK35.1 (Nat.le_of_eq g11)))).ext E18).wr W20 (Or.inr (Nat.le_trans KK36.1 (Nat.le_of_eq g18)))).wr W23 (Or.inr (Nat.le_trans KK36.1 (Nat.le_of_eq g18)))).wr W25 (Or.inr (Nat.le_trans KK36.1 (Nat.le_of_eq g18)))).ext E30)
      have f38 : Arv Z h30 a4 k4 .char (0 : Int32) [] (.int (0 : Int32)) := (V4.keep KK37 nin0)
      have KK40 : Keep h0 h30 [] := (KK34.ext E30)
      refine W.callIW X30 hx hS (Nat.le_trans (Nat.le_refl _) KK40.1) hZ rfl hown (w 4 _ rfl) (w 5 _ rfl) (w 6 _ rfl) (by decide) (as' := [(.ref a4)]) (payW (W := 1) (rm_s0N l Z a0 hw [] a30 a4 k4 [] (.int (0 : Int32)) [] h30 O31 hcw hheld A30 f33 f32 (Nat.le_trans (Nat.le_trans (Nat.le_trans (Nat.le_of_eq O0.1.symm) O0.2.1) KK34.1) (Nat.le_of_eq g30)) f38 (by first | assumption | rfl | decide)) (s := s.setVm vm) hZ (w 6 _ rfl) (w 3 _ rfl) (by decide) (by decide) (fun _ q => ibWarm I0 q)) e30 (by rw [hml]; rfl) (rest := [(.ref a30)]) (lenOf pd7 rfl) rfl (Nat.le_of_eq rfl) (hb hby at_102) rfl (by decide) (by decide) ?_
      intro T39 h39 v39 L39 vm39 X39 e39 hS39 hZ39 ho39 w39_39 hQ39
      obtain ⟨la39, lt39, lk39, rfl, Nq39, K39, q39_0, q39_1, q39_2, q39_3, q39_4, q39_5, q39_6, y39_0, y39_1⟩ := hQ39
      have N39 := Fk.app N25 Nq39 KK40.1 (allS (Or.inr (Nat.le_trans KK34.1 (Nat.le_of_eq g30))) all0)
      have O41 : Old Z Z.heap.size h39 := O31.keep K39 (allS (Nat.le_trans (Nat.le_trans (Nat.le_trans (Nat.le_of_eq O0.1.symm) O0.2.1) KK34.1) (Nat.le_of_eq g30)) all0)
      show Wp p e below _ _ T39 (mkF m 105 #[.val (.int p0), .val (.int p1), .val (.int p2), .val (.int p3), .val (.int c1), .val (.int c2), .val (.int c3), .val (.ref a4), .val (.ref a6), .val (.ref a11), .val (.ref a18), .val (.int i27), .unset, .unset] [(.ref a30)])
      refine W.astore X39 hx (Ls' := #[.val (.int p0), .val (.int p1), .val (.int p2), .val (.int p3), .val (.int c1), .val (.int c2), .val (.int c3), .val (.ref a4), .val (.ref a6), .val (.ref a11), .val (.ref a18), .val (.int i27), .val (.ref a30), .unset]) (hb hby at_105) rfl rfl rfl ?_
      refine W.goto X39 hx (hb hby at_107) (by decide) (q := 161) rfl ?_
      refine W.aload X39 hx (hb hby at_161) rfl rfl rfl ?_
      refine W.callS X39 hx hZ39 ho39 (w 30 _ rfl) (w 31 _ rfl) (w 32 _ rfl) (w 33 _ rfl) (by decide) (as' := [(.ref a30)]) (backOf (W := 0) (rm_prj l Z a0 hw [] (.ref a30) kp h39 O41 (by first | assumption | rfl | decide) SP) hZ39 (w 33 _ rfl) (w 32 _ rfl) (by decide) (by decide)) e39 (by rw [hml]; rfl) (rest := []) (lenOf pd8 rfl) rfl (Nat.le_of_eq rfl) (hb hby at_163) rfl (by decide) (by decide) ?_
      intro T42 h42 v42 L42 X42 e42 hQ42
      obtain ⟨x42, rfl, Nq42, K42, q42_0, q42_1, q42_2⟩ := hQ42
      have KK43 : Keep h0 h39 [] := (KK40.trans K39 (allS (Or.inr (Nat.le_trans KK34.1 (Nat.le_of_eq g30))) all0))
      have N42 := Fk.app N39 Nq42 KK43.1 all0
      have O44 : Old Z Z.heap.size h42 := O41.keep K42 all0
      show Wp p e below _ _ T42 (mkF m 166 #[.val (.int p0), .val (.int p1), .val (.int p2), .val (.int p3), .val (.int c1), .val (.int c2), .val (.int c3), .val (.ref a4), .val (.ref a6), .val (.ref a11), .val (.ref a18), .val (.int i27), .val (.ref a30), .unset] [(.ref x42)])
      refine W.astore X42 hx (Ls' := #[.val (.int p0), .val (.int p1), .val (.int p2), .val (.int p3), .val (.int c1), .val (.int c2), .val (.int c3), .val (.ref a4), .val (.ref a6), .val (.ref a11), .val (.ref a18), .val (.int i27), .val (.ref a30), .val (.ref x42)]) (hb hby at_166) rfl rfl rfl ?_
      refine W.aload X42 hx (hb hby at_168) rfl rfl rfl ?_
      refine W.ifnonnullYes X42 hx (hb hby at_170) (by decide) (q := 175) rfl ?_
      refine W.aload X42 hx (hb hby at_175) rfl rfl rfl ?_
      refine W.callV X42 hx hZ39 (y := (⟨"com/example/visad/visad/identity/Scope", "kind", "()Lcom/example/visad/visad/identity/Scope$Kind;"⟩ : MethodName)) (z := (⟨"com/example/visad/visad/identity/Scope", "kind", "()Lcom/example/visad/visad/identity/Scope$Kind;"⟩ : MethodName)) ho39 (w 52 _ rfl) (w 53 _ rfl) (notFace_of_selects (args := #[]) (mvT hZ39 (w 55 _ rfl))) (w 55 _ rfl) (w 54 _ rfl) (by decide) (as' := []) (backOf (W := 0) (rm_kind l Z a0 hw [] x42 kp h42 O44 q42_1) hZ39 (w 56 _ rfl) (w 32 _ rfl) (by decide) (by decide)) e42 q42_0 (by rw [hml]; rfl) (rest := []) (lenOf pd9 rfl) rfl (Nat.le_of_eq rfl) (hb hby at_177) rfl (by decide) (by decide) ?_
      intro T45 h45 v45 L45 X45 e45 hQ45
      obtain ⟨rfl, Nq45, K45⟩ := hQ45
      have KK46 : Keep h0 h42 [] := (KK43.trans K42 all0)
      have N45 := Fk.app N42 Nq45 KK46.1 all0
      rw [K45] at e45
      show Wp p e below _ _ T45 (mkF m 180 #[.val (.int p0), .val (.int p1), .val (.int p2), .val (.int p3), .val (.int c1), .val (.int c2), .val (.int c3), .val (.ref a4), .val (.ref a6), .val (.ref a11), .val (.ref a18), .val (.int i27), .val (.ref a30), .val (.ref x42)] [(.ref kp)])
      refine W.getstatic X45 hx hZ39 ho39 (host := "") (Or.inl (w 57 _ rfl)) Via.refl e45 (SP.ext O44.2) (hb hby at_180) rfl ?_
      intro T47 X47 e47
      refine W.acmpEq X47 hx (hb hby at_183) rfl rfl rfl (by decide) (q := 186) (by decide) ?_
      refine W.aload X47 hx (hb hby at_186) rfl rfl rfl ?_
      refine W.callV X47 hx hZ39 (y := (⟨"com/example/visad/visad/identity/Scope", "kind", "()Lcom/example/visad/visad/identity/Scope$Kind;"⟩ : MethodName)) (z := (⟨"com/example/visad/visad/identity/Scope", "kind", "()Lcom/example/visad/visad/identity/Scope$Kind;"⟩ : MethodName)) ho39 (w 52 _ rfl) (w 53 _ rfl) (notFace_of_selects (args := #[]) (mvT hZ39 (w 55 _ rfl))) (w 55 _ rfl) (w 54 _ rfl) (by decide) (as' := []) (backOf (W := 0) (rm_kind l Z a0 hw [] x42 kp h42 O44 q42_1) hZ39 (w 56 _ rfl) (w 32 _ rfl) (by decide) (by decide)) e47 q42_0 (by rw [hml]; rfl) (rest := []) (lenOf pd9 rfl) rfl (Nat.le_of_eq rfl) (hb hby at_188) rfl (by decide) (by decide) ?_
      intro T48 h48 v48 L48 X48 e48 hQ48
      obtain ⟨rfl, Nq48, K48⟩ := hQ48
      have N48 := Fk.app N45 Nq48 KK46.1 all0
      rw [K48] at e48
      show Wp p e below _ _ T48 (mkF m 191 #[.val (.int p0), .val (.int p1), .val (.int p2), .val (.int p3), .val (.int c1), .val (.int c2), .val (.int c3), .val (.ref a4), .val (.ref a6), .val (.ref a11), .val (.ref a18), .val (.int i27), .val (.ref a30), .val (.ref x42)] [(.ref kp)])
      refine W.getstatic X48 hx hZ39 ho39 (host := "") (Or.inl (w 58 _ rfl)) Via.refl e48 (SD.ext O44.2) (hb hby at_191) rfl ?_
      intro T49 X49 e49
      refine W.acmpNe X49 hx (hb hby at_194) rfl rfl (fun q => hne (Value.ref.inj q)) (by decide) (q := 197) (by decide) ?_
      refine W.aload X49 hx (hb hby at_197) rfl rfl rfl ?_
      refine W.callV X49 hx hZ39 (y := (⟨"com/example/visad/visad/identity/Scope", "id", "()Ljava/lang/String;"⟩ : MethodName)) (z := (⟨"com/example/visad/visad/identity/Scope", "id", "()Ljava/lang/String;"⟩ : MethodName)) ho39 (w 60 _ rfl) (w 61 _ rfl) (notFace_of_selects (args := #[]) (mvT hZ39 (w 63 _ rfl))) (w 63 _ rfl) (w 62 _ rfl) (by decide) (as' := []) (backOf (W := 0) (rm_id l Z a0 hw [] x42 (.ref a30) h42 O44 (by first | assumption | rfl | decide) q42_2) hZ39 (w 64 _ rfl) (w 32 _ rfl) (by decide) (by decide)) e49 q42_0 (by rw [hml]; rfl) (rest := []) (lenOf pd10 rfl) rfl (Nat.le_of_eq rfl) (hb hby at_199) rfl (by decide) (by decide) ?_
      intro T50 h50 v50 L50 X50 e50 hQ50
      obtain ⟨rfl, Nq50, K50⟩ := hQ50
      have N50 := Fk.app N48 Nq50 KK46.1 all0
      rw [K50] at e50
      show Wp p e below _ _ T50 (mkF m 202 #[.val (.int p0), .val (.int p1), .val (.int p2), .val (.int p3), .val (.int c1), .val (.int c2), .val (.int c3), .val (.ref a4), .val (.ref a6), .val (.ref a11), .val (.ref a18), .val (.int i27), .val (.ref a30), .val (.ref x42)] [(.ref a30)])
      refine W.aload X50 hx (hb hby at_202) rfl rfl rfl ?_
      refine W.acmpEq X50 hx (hb hby at_204) rfl rfl rfl (by decide) (q := 207) (by decide) ?_
      refine W.iconst X50 hx (v := (1 : Int32)) (hb hby at_207) rfl rfl ?_
      refine W.goto X50 hx (hb hby at_208) (by decide) (q := 212) rfl ?_
      have KK51 : Keep h39 h42 [] := ((Keep.refl h39 []).trans K42 all0)
      exact W.retZW X50 hx hS39 (Nat.le_trans (Nat.le_refl _) KK51.1) hlk hr (by simp) (hb hby at_212) (by decide) (by decide) (Qc := Q_rm_law Z p0 p1 p2 p3 G1 kp kd h0) e50 (fun vm' hw' => ⟨rfl, N50, KK46⟩)
    · skip
      refine W.ifYes X25 hx (hb hby at_93) (by decide) (q := 110) rfl ((if0 _ _).trans (feq hc29).2) ?_
      refine W.iload X25 hx (hb hby at_110) rfl rfl ?_
      refine W.iconst X25 hx (v := (1 : Int32)) (hb hby at_112) rfl rfl ?_
      by_cases hc52 : i27 = (1 : Int32)
      · skip
        refine W.icmpNo X25 hx (hb hby at_113) rfl (teq hc52).2 ?_
        refine W.new X25 hx hZ hown (w 1 _ rfl) (w 2 _ rfl) (w 3 _ rfl) e25 (hb hby at_116) rfl (by decide) (by decide) ?_
        intro T53 h53 a53 g53 X53 e53 E53 A53 D53
        have O54 : Old Z Z.heap.size h53 := O26.ext E53
        have f55 : Fld Z h53 a53 "java/lang/String" "coder" "B" (.int (0 : Int32)) := D53 (Or.inr (w 27 _ rfl)) (ty := .byte) (by decide)
        have f56 : Fld Z h53 a53 "java/lang/String" "value" "[B" .null := D53 (Or.inr (w 29 _ rfl)) (ty := (.array .byte)) (by decide)
        refine W.dup X53 hx (hb hby at_119) rfl rfl ?_
        refine W.aload X53 hx (hb hby at_120) rfl rfl rfl ?_
        have hws_words : ∀ d ∈ StrChars.Road.words, d.before a0 Z = true := fun d hd => hw d ((by decide +kernel : ∀ d ∈ StrChars.Road.words, d ∈ tables_1) d hd)
        have KK57 : Keep h8 h16 [] := ((((Keep.refl h8 []).ext E11).wr W13 (Or.inr (Nat.le_of_eq g11))).wr W16 (Or.inr (Nat.le_of_eq g11)))
        have KK58 : Keep h8 h53 [] := (((((((((Keep.refl h8 []).ext E11).wr W13 (Or.inr (Nat.le_of_eq g11))).wr W16 (Or.inr (Nat.le_of_eq g11))).ext E18).wr W20 (Or.inr (Nat.le_trans KK57.1 (Nat.le_of_eq g18)))).wr W23 (Or.inr (Nat.le_trans KK57.1 (Nat.le_of_eq g18)))).wr W25 (Or.inr (Nat.le_trans KK57.1 (Nat.le_of_eq g18)))).ext E53)
        have f59 : Arv Z h53 a6 k6 .char (1 : Int32) [(.int c1)] (.int (0 : Int32)) := (V8.keep KK58 nin0)
        have KK60 : Keep h0 h25 [] := ((((KK21.ext E18).wr W20 (Or.inr (Nat.le_trans KK21.1 (Nat.le_of_eq g18)))).wr W23 (Or.inr (Nat.le_trans KK21.1 (Nat.le_of_eq g18)))).wr W25 (Or.inr (Nat.le_trans KK21.1 (Nat.le_of_eq g18))))
        have KK61 : Keep h0 h53 [] := (KK60.ext E53)
        refine W.callI X53 hx hZ rfl hown (w 4 _ rfl) (w 5 _ rfl) (w 6 _ rfl) (by decide) (as' := [(.ref a6)]) (StrChars.Road.backV (W := 1) hZ hws_words (kI := 4) (w 2 _ rfl) (cs := ([c1] : List Int32)) (bs := (([c1] : List Int32).map (fun c => c.toInt8.toInt32))) (n := 1) (Nat.le_trans KK60.1 (Nat.le_of_eq g53)) KK61.1 A53 f56 f55 f59 (SG1.ext O54.2) nG1 rfl rfl (by decide) (by decide) (latCons Lc1 latNil) rfl (by decide) (by decide)) e53 (by rw [hml]; rfl) (rest := [(.ref a53)]) (lenOf pd7 rfl) rfl (Nat.le_of_eq rfl) (hb hby at_122) rfl (by decide) (by decide) ?_
        intro T62 h62 v62 L62 X62 e62 hQ62
        obtain ⟨rfl, Nq62, K62, E62s, C62s, t62, kb62, z62a, z62b, z62c, V62s, B62s⟩ := hQ62
        have N62 := Fk.app N25 (Fk.of_fr (ws := []) Nq62) (Nat.le_refl _) all0
        have O63 : Old Z Z.heap.size h62 := O54.keep K62 (allS (Nat.le_trans (Nat.le_trans (Nat.le_trans (Nat.le_of_eq O0.1.symm) O0.2.1) KK60.1) (Nat.le_of_eq g53)) all0)
        show Wp p e below _ _ T62 (mkF m 125 #[.val (.int p0), .val (.int p1), .val (.int p2), .val (.int p3), .val (.int c1), .val (.int c2), .val (.int c3), .val (.ref a4), .val (.ref a6), .val (.ref a11), .val (.ref a18), .val (.int i27), .unset, .unset] [(.ref a53)])
        refine W.astore X62 hx (Ls' := #[.val (.int p0), .val (.int p1), .val (.int p2), .val (.int p3), .val (.int c1), .val (.int c2), .val (.int c3), .val (.ref a4), .val (.ref a6), .val (.ref a11), .val (.ref a18), .val (.int i27), .val (.ref a53), .unset]) (hb hby at_125) rfl rfl rfl ?_
        refine W.goto X62 hx (hb hby at_127) (by decide) (q := 161) rfl ?_
        refine W.aload X62 hx (hb hby at_161) rfl rfl rfl ?_
        refine W.callS X62 hx hZ hown (w 30 _ rfl) (w 31 _ rfl) (w 32 _ rfl) (w 33 _ rfl) (by decide) (as' := [(.ref a53)]) (backOf (W := 0) (rm_prj l Z a0 hw [] (.ref a53) kp h62 O63 (by first | assumption | rfl | decide) SP) hZ (w 33 _ rfl) (w 32 _ rfl) (by decide) (by decide)) e62 (by rw [hml]; rfl) (rest := []) (lenOf pd8 rfl) rfl (Nat.le_of_eq rfl) (hb hby at_163) rfl (by decide) (by decide) ?_
        intro T64 h64 v64 L64 X64 e64 hQ64
        obtain ⟨x64, rfl, Nq64, K64, q64_0, q64_1, q64_2⟩ := hQ64
        have KK65 : Keep h0 h62 [] := (KK61.trans K62 (allS (Or.inr (Nat.le_trans KK60.1 (Nat.le_of_eq g53))) all0))
        have N64 := Fk.app N62 Nq64 KK65.1 all0
        have O66 : Old Z Z.heap.size h64 := O63.keep K64 all0
        show Wp p e below _ _ T64 (mkF m 166 #[.val (.int p0), .val (.int p1), .val (.int p2), .val (.int p3), .val (.int c1), .val (.int c2), .val (.int c3), .val (.ref a4), .val (.ref a6), .val (.ref a11), .val (.ref a18), .val (.int i27), .val (.ref a53), .unset] [(.ref x64)])
        refine W.astore X64 hx (Ls' := #[.val (.int p0), .val (.int p1), .val (.int p2), .val (.int p3), .val (.int c1), .val (.int c2), .val (.int c3), .val (.ref a4), .val (.ref a6), .val (.ref a11), .val (.ref a18), .val (.int i27), .val (.ref a53), .val (.ref x64)]) (hb hby at_166) rfl rfl rfl ?_
        refine W.aload X64 hx (hb hby at_168) rfl rfl rfl ?_
        refine W.ifnonnullYes X64 hx (hb hby at_170) (by decide) (q := 175) rfl ?_
        refine W.aload X64 hx (hb hby at_175) rfl rfl rfl ?_
        refine W.callV X64 hx hZ (y := (⟨"com/example/visad/visad/identity/Scope", "kind", "()Lcom/example/visad/visad/identity/Scope$Kind;"⟩ : MethodName)) (z := (⟨"com/example/visad/visad/identity/Scope", "kind", "()Lcom/example/visad/visad/identity/Scope$Kind;"⟩ : MethodName)) hown (w 52 _ rfl) (w 53 _ rfl) (notFace_of_selects (args := #[]) (mvT hZ (w 55 _ rfl))) (w 55 _ rfl) (w 54 _ rfl) (by decide) (as' := []) (backOf (W := 0) (rm_kind l Z a0 hw [] x64 kp h64 O66 q64_1) hZ (w 56 _ rfl) (w 32 _ rfl) (by decide) (by decide)) e64 q64_0 (by rw [hml]; rfl) (rest := []) (lenOf pd9 rfl) rfl (Nat.le_of_eq rfl) (hb hby at_177) rfl (by decide) (by decide) ?_
        intro T67 h67 v67 L67 X67 e67 hQ67
        obtain ⟨rfl, Nq67, K67⟩ := hQ67
        have KK68 : Keep h0 h64 [] := (KK65.trans K64 all0)
        have N67 := Fk.app N64 Nq67 KK68.1 all0
        rw [K67] at e67
        show Wp p e below _ _ T67 (mkF m 180 #[.val (.int p0), .val (.int p1), .val (.int p2), .val (.int p3), .val (.int c1), .val (.int c2), .val (.int c3), .val (.ref a4), .val (.ref a6), .val (.ref a11), .val (.ref a18), .val (.int i27), .val (.ref a53), .val (.ref x64)] [(.ref kp)])
        refine W.getstatic X67 hx hZ hown (host := "") (Or.inl (w 57 _ rfl)) Via.refl e67 (SP.ext O66.2) (hb hby at_180) rfl ?_
        intro T69 X69 e69
        refine W.acmpEq X69 hx (hb hby at_183) rfl rfl rfl (by decide) (q := 186) (by decide) ?_
        refine W.aload X69 hx (hb hby at_186) rfl rfl rfl ?_
        refine W.callV X69 hx hZ (y := (⟨"com/example/visad/visad/identity/Scope", "kind", "()Lcom/example/visad/visad/identity/Scope$Kind;"⟩ : MethodName)) (z := (⟨"com/example/visad/visad/identity/Scope", "kind", "()Lcom/example/visad/visad/identity/Scope$Kind;"⟩ : MethodName)) hown (w 52 _ rfl) (w 53 _ rfl) (notFace_of_selects (args := #[]) (mvT hZ (w 55 _ rfl))) (w 55 _ rfl) (w 54 _ rfl) (by decide) (as' := []) (backOf (W := 0) (rm_kind l Z a0 hw [] x64 kp h64 O66 q64_1) hZ (w 56 _ rfl) (w 32 _ rfl) (by decide) (by decide)) e69 q64_0 (by rw [hml]; rfl) (rest := []) (lenOf pd9 rfl) rfl (Nat.le_of_eq rfl) (hb hby at_188) rfl (by decide) (by decide) ?_
        intro T70 h70 v70 L70 X70 e70 hQ70
        obtain ⟨rfl, Nq70, K70⟩ := hQ70
        have N70 := Fk.app N67 Nq70 KK68.1 all0
        rw [K70] at e70
        show Wp p e below _ _ T70 (mkF m 191 #[.val (.int p0), .val (.int p1), .val (.int p2), .val (.int p3), .val (.int c1), .val (.int c2), .val (.int c3), .val (.ref a4), .val (.ref a6), .val (.ref a11), .val (.ref a18), .val (.int i27), .val (.ref a53), .val (.ref x64)] [(.ref kp)])
        refine W.getstatic X70 hx hZ hown (host := "") (Or.inl (w 58 _ rfl)) Via.refl e70 (SD.ext O66.2) (hb hby at_191) rfl ?_
        intro T71 X71 e71
        refine W.acmpNe X71 hx (hb hby at_194) rfl rfl (fun q => hne (Value.ref.inj q)) (by decide) (q := 197) (by decide) ?_
        refine W.aload X71 hx (hb hby at_197) rfl rfl rfl ?_
        refine W.callV X71 hx hZ (y := (⟨"com/example/visad/visad/identity/Scope", "id", "()Ljava/lang/String;"⟩ : MethodName)) (z := (⟨"com/example/visad/visad/identity/Scope", "id", "()Ljava/lang/String;"⟩ : MethodName)) hown (w 60 _ rfl) (w 61 _ rfl) (notFace_of_selects (args := #[]) (mvT hZ (w 63 _ rfl))) (w 63 _ rfl) (w 62 _ rfl) (by decide) (as' := []) (backOf (W := 0) (rm_id l Z a0 hw [] x64 (.ref a53) h64 O66 (by first | assumption | rfl | decide) q64_2) hZ (w 64 _ rfl) (w 32 _ rfl) (by decide) (by decide)) e71 q64_0 (by rw [hml]; rfl) (rest := []) (lenOf pd10 rfl) rfl (Nat.le_of_eq rfl) (hb hby at_199) rfl (by decide) (by decide) ?_
        intro T72 h72 v72 L72 X72 e72 hQ72
        obtain ⟨rfl, Nq72, K72⟩ := hQ72
        have N72 := Fk.app N70 Nq72 KK68.1 all0
        rw [K72] at e72
        show Wp p e below _ _ T72 (mkF m 202 #[.val (.int p0), .val (.int p1), .val (.int p2), .val (.int p3), .val (.int c1), .val (.int c2), .val (.int c3), .val (.ref a4), .val (.ref a6), .val (.ref a11), .val (.ref a18), .val (.int i27), .val (.ref a53), .val (.ref x64)] [(.ref a53)])
        refine W.aload X72 hx (hb hby at_202) rfl rfl rfl ?_
        refine W.acmpEq X72 hx (hb hby at_204) rfl rfl rfl (by decide) (q := 207) (by decide) ?_
        refine W.iconst X72 hx (v := (1 : Int32)) (hb hby at_207) rfl rfl ?_
        refine W.goto X72 hx (hb hby at_208) (by decide) (q := 212) rfl ?_
        exact W.retZW X72 hx hS (Nat.le_trans (Nat.le_refl _) KK68.1) hlk hr (by simp) (hb hby at_212) (by decide) (by decide) (Qc := Q_rm_law Z p0 p1 p2 p3 G1 kp kd h0) e72 (fun vm' hw' => ⟨rfl, N72, KK68⟩)
      · skip
        refine W.icmpYes X25 hx (hb hby at_113) (by decide) (q := 130) rfl (feq hc52).2 ?_
        refine W.iload X25 hx (hb hby at_130) rfl rfl ?_
        refine W.iconst X25 hx (v := (2 : Int32)) (hb hby at_132) rfl rfl ?_
        by_cases hc73 : i27 = (2 : Int32)
        · skip
          refine W.icmpNo X25 hx (hb hby at_133) rfl (teq hc73).2 ?_
          refine W.new X25 hx hZ hown (w 1 _ rfl) (w 2 _ rfl) (w 3 _ rfl) e25 (hb hby at_136) rfl (by decide) (by decide) ?_
          intro T74 h74 a74 g74 X74 e74 E74 A74 D74
          have O75 : Old Z Z.heap.size h74 := O26.ext E74
          have f76 : Fld Z h74 a74 "java/lang/String" "coder" "B" (.int (0 : Int32)) := D74 (Or.inr (w 27 _ rfl)) (ty := .byte) (by decide)
          have f77 : Fld Z h74 a74 "java/lang/String" "value" "[B" .null := D74 (Or.inr (w 29 _ rfl)) (ty := (.array .byte)) (by decide)
          refine W.dup X74 hx (hb hby at_139) rfl rfl ?_
          refine W.aload X74 hx (hb hby at_140) rfl rfl rfl ?_
          have hws_words : ∀ d ∈ StrChars.Road.words, d.before a0 Z = true := fun d hd => hw d ((by decide +kernel : ∀ d ∈ StrChars.Road.words, d ∈ tables_1) d hd)
          have KK78 : Keep h16 h74 [] := ((((((Keep.refl h16 []).ext E18).wr W20 (Or.inr (Nat.le_of_eq g18))).wr W23 (Or.inr (Nat.le_of_eq g18))).wr W25 (Or.inr (Nat.le_of_eq g18))).ext E74)
          have f79 : Arv Z h74 a11 k11 .char (2 : Int32) [(.int c1), (.int c2)] (.int (0 : Int32)) := (V16.keep KK78 nin0)
          have KK80 : Keep h0 h25 [] := ((((KK21.ext E18).wr W20 (Or.inr (Nat.le_trans KK21.1 (Nat.le_of_eq g18)))).wr W23 (Or.inr (Nat.le_trans KK21.1 (Nat.le_of_eq g18)))).wr W25 (Or.inr (Nat.le_trans KK21.1 (Nat.le_of_eq g18))))
          have KK81 : Keep h0 h74 [] := (KK80.ext E74)
          refine W.callI X74 hx hZ rfl hown (w 4 _ rfl) (w 5 _ rfl) (w 6 _ rfl) (by decide) (as' := [(.ref a11)]) (StrChars.Road.backV (W := 1) hZ hws_words (kI := 4) (w 2 _ rfl) (cs := ([c1, c2] : List Int32)) (bs := (([c1, c2] : List Int32).map (fun c => c.toInt8.toInt32))) (n := 2) (Nat.le_trans KK80.1 (Nat.le_of_eq g74)) KK81.1 A74 f77 f76 f79 (SG1.ext O75.2) nG1 rfl rfl (by decide) (by decide) (latCons Lc1 (latCons Lc2 latNil)) rfl (by decide) (by decide)) e74 (by rw [hml]; rfl) (rest := [(.ref a74)]) (lenOf pd7 rfl) rfl (Nat.le_of_eq rfl) (hb hby at_142) rfl (by decide) (by decide) ?_
          intro T82 h82 v82 L82 X82 e82 hQ82
          obtain ⟨rfl, Nq82, K82, E82s, C82s, t82, kb82, z82a, z82b, z82c, V82s, B82s⟩ := hQ82
          have N82 := Fk.app N25 (Fk.of_fr (ws := []) Nq82) (Nat.le_refl _) all0
          have O83 : Old Z Z.heap.size h82 := O75.keep K82 (allS (Nat.le_trans (Nat.le_trans (Nat.le_trans (Nat.le_of_eq O0.1.symm) O0.2.1) KK80.1) (Nat.le_of_eq g74)) all0)
          show Wp p e below _ _ T82 (mkF m 145 #[.val (.int p0), .val (.int p1), .val (.int p2), .val (.int p3), .val (.int c1), .val (.int c2), .val (.int c3), .val (.ref a4), .val (.ref a6), .val (.ref a11), .val (.ref a18), .val (.int i27), .unset, .unset] [(.ref a74)])
          refine W.astore X82 hx (Ls' := #[.val (.int p0), .val (.int p1), .val (.int p2), .val (.int p3), .val (.int c1), .val (.int c2), .val (.int c3), .val (.ref a4), .val (.ref a6), .val (.ref a11), .val (.ref a18), .val (.int i27), .val (.ref a74), .unset]) (hb hby at_145) rfl rfl rfl ?_
          refine W.goto X82 hx (hb hby at_147) (by decide) (q := 161) rfl ?_
          refine W.aload X82 hx (hb hby at_161) rfl rfl rfl ?_
          refine W.callS X82 hx hZ hown (w 30 _ rfl) (w 31 _ rfl) (w 32 _ rfl) (w 33 _ rfl) (by decide) (as' := [(.ref a74)]) (backOf (W := 0) (rm_prj l Z a0 hw [] (.ref a74) kp h82 O83 (by first | assumption | rfl | decide) SP) hZ (w 33 _ rfl) (w 32 _ rfl) (by decide) (by decide)) e82 (by rw [hml]; rfl) (rest := []) (lenOf pd8 rfl) rfl (Nat.le_of_eq rfl) (hb hby at_163) rfl (by decide) (by decide) ?_
          intro T84 h84 v84 L84 X84 e84 hQ84
          obtain ⟨x84, rfl, Nq84, K84, q84_0, q84_1, q84_2⟩ := hQ84
          have KK85 : Keep h0 h82 [] := (KK81.trans K82 (allS (Or.inr (Nat.le_trans KK80.1 (Nat.le_of_eq g74))) all0))
          have N84 := Fk.app N82 Nq84 KK85.1 all0
          have O86 : Old Z Z.heap.size h84 := O83.keep K84 all0
          show Wp p e below _ _ T84 (mkF m 166 #[.val (.int p0), .val (.int p1), .val (.int p2), .val (.int p3), .val (.int c1), .val (.int c2), .val (.int c3), .val (.ref a4), .val (.ref a6), .val (.ref a11), .val (.ref a18), .val (.int i27), .val (.ref a74), .unset] [(.ref x84)])
          refine W.astore X84 hx (Ls' := #[.val (.int p0), .val (.int p1), .val (.int p2), .val (.int p3), .val (.int c1), .val (.int c2), .val (.int c3), .val (.ref a4), .val (.ref a6), .val (.ref a11), .val (.ref a18), .val (.int i27), .val (.ref a74), .val (.ref x84)]) (hb hby at_166) rfl rfl rfl ?_
          refine W.aload X84 hx (hb hby at_168) rfl rfl rfl ?_
          refine W.ifnonnullYes X84 hx (hb hby at_170) (by decide) (q := 175) rfl ?_
          refine W.aload X84 hx (hb hby at_175) rfl rfl rfl ?_
          refine W.callV X84 hx hZ (y := (⟨"com/example/visad/visad/identity/Scope", "kind", "()Lcom/example/visad/visad/identity/Scope$Kind;"⟩ : MethodName)) (z := (⟨"com/example/visad/visad/identity/Scope", "kind", "()Lcom/example/visad/visad/identity/Scope$Kind;"⟩ : MethodName)) hown (w 52 _ rfl) (w 53 _ rfl) (notFace_of_selects (args := #[]) (mvT hZ (w 55 _ rfl))) (w 55 _ rfl) (w 54 _ rfl) (by decide) (as' := []) (backOf (W := 0) (rm_kind l Z a0 hw [] x84 kp h84 O86 q84_1) hZ (w 56 _ rfl) (w 32 _ rfl) (by decide) (by decide)) e84 q84_0 (by rw [hml]; rfl) (rest := []) (lenOf pd9 rfl) rfl (Nat.le_of_eq rfl) (hb hby at_177) rfl (by decide) (by decide) ?_
          intro T87 h87 v87 L87 X87 e87 hQ87
          obtain ⟨rfl, Nq87, K87⟩ := hQ87
          have KK88 : Keep h0 h84 [] := (KK85.trans K84 all0)
          have N87 := Fk.app N84 Nq87 KK88.1 all0
          rw [K87] at e87
          show Wp p e below _ _ T87 (mkF m 180 #[.val (.int p0), .val (.int p1), .val (.int p2), .val (.int p3), .val (.int c1), .val (.int c2), .val (.int c3), .val (.ref a4), .val (.ref a6), .val (.ref a11), .val (.ref a18), .val (.int i27), .val (.ref a74), .val (.ref x84)] [(.ref kp)])
          refine W.getstatic X87 hx hZ hown (host := "") (Or.inl (w 57 _ rfl)) Via.refl e87 (SP.ext O86.2) (hb hby at_180) rfl ?_
          intro T89 X89 e89
          refine W.acmpEq X89 hx (hb hby at_183) rfl rfl rfl (by decide) (q := 186) (by decide) ?_
          refine W.aload X89 hx (hb hby at_186) rfl rfl rfl ?_
          refine W.callV X89 hx hZ (y := (⟨"com/example/visad/visad/identity/Scope", "kind", "()Lcom/example/visad/visad/identity/Scope$Kind;"⟩ : MethodName)) (z := (⟨"com/example/visad/visad/identity/Scope", "kind", "()Lcom/example/visad/visad/identity/Scope$Kind;"⟩ : MethodName)) hown (w 52 _ rfl) (w 53 _ rfl) (notFace_of_selects (args := #[]) (mvT hZ (w 55 _ rfl))) (w 55 _ rfl) (w 54 _ rfl) (by decide) (as' := []) (backOf (W := 0) (rm_kind l Z a0 hw [] x84 kp h84 O86 q84_1) hZ (w 56 _ rfl) (w 32 _ rfl) (by decide) (by decide)) e89 q84_0 (by rw [hml]; rfl) (rest := []) (lenOf pd9 rfl) rfl (Nat.le_of_eq rfl) (hb hby at_188) rfl (by decide) (by decide) ?_
          intro T90 h90 v90 L90 X90 e90 hQ90
          obtain ⟨rfl, Nq90, K90⟩ := hQ90
          have N90 := Fk.app N87 Nq90 KK88.1 all0
          rw [K90] at e90
          show Wp p e below _ _ T90 (mkF m 191 #[.val (.int p0), .val (.int p1), .val (.int p2), .val (.int p3), .val (.int c1), .val (.int c2), .val (.int c3), .val (.ref a4), .val (.ref a6), .val (.ref a11), .val (.ref a18), .val (.int i27), .val (.ref a74), .val (.ref x84)] [(.ref kp)])
          refine W.getstatic X90 hx hZ hown (host := "") (Or.inl (w 58 _ rfl)) Via.refl e90 (SD.ext O86.2) (hb hby at_191) rfl ?_
          intro T91 X91 e91
          refine W.acmpNe X91 hx (hb hby at_194) rfl rfl (fun q => hne (Value.ref.inj q)) (by decide) (q := 197) (by decide) ?_
          refine W.aload X91 hx (hb hby at_197) rfl rfl rfl ?_
          refine W.callV X91 hx hZ (y := (⟨"com/example/visad/visad/identity/Scope", "id", "()Ljava/lang/String;"⟩ : MethodName)) (z := (⟨"com/example/visad/visad/identity/Scope", "id", "()Ljava/lang/String;"⟩ : MethodName)) hown (w 60 _ rfl) (w 61 _ rfl) (notFace_of_selects (args := #[]) (mvT hZ (w 63 _ rfl))) (w 63 _ rfl) (w 62 _ rfl) (by decide) (as' := []) (backOf (W := 0) (rm_id l Z a0 hw [] x84 (.ref a74) h84 O86 (by first | assumption | rfl | decide) q84_2) hZ (w 64 _ rfl) (w 32 _ rfl) (by decide) (by decide)) e91 q84_0 (by rw [hml]; rfl) (rest := []) (lenOf pd10 rfl) rfl (Nat.le_of_eq rfl) (hb hby at_199) rfl (by decide) (by decide) ?_
          intro T92 h92 v92 L92 X92 e92 hQ92
          obtain ⟨rfl, Nq92, K92⟩ := hQ92
          have N92 := Fk.app N90 Nq92 KK88.1 all0
          rw [K92] at e92
          show Wp p e below _ _ T92 (mkF m 202 #[.val (.int p0), .val (.int p1), .val (.int p2), .val (.int p3), .val (.int c1), .val (.int c2), .val (.int c3), .val (.ref a4), .val (.ref a6), .val (.ref a11), .val (.ref a18), .val (.int i27), .val (.ref a74), .val (.ref x84)] [(.ref a74)])
          refine W.aload X92 hx (hb hby at_202) rfl rfl rfl ?_
          refine W.acmpEq X92 hx (hb hby at_204) rfl rfl rfl (by decide) (q := 207) (by decide) ?_
          refine W.iconst X92 hx (v := (1 : Int32)) (hb hby at_207) rfl rfl ?_
          refine W.goto X92 hx (hb hby at_208) (by decide) (q := 212) rfl ?_
          exact W.retZW X92 hx hS (Nat.le_trans (Nat.le_refl _) KK88.1) hlk hr (by simp) (hb hby at_212) (by decide) (by decide) (Qc := Q_rm_law Z p0 p1 p2 p3 G1 kp kd h0) e92 (fun vm' hw' => ⟨rfl, N92, KK88⟩)
        · skip
          refine W.icmpYes X25 hx (hb hby at_133) (by decide) (q := 150) rfl (feq hc73).2 ?_
          refine W.new X25 hx hZ hown (w 1 _ rfl) (w 2 _ rfl) (w 3 _ rfl) e25 (hb hby at_150) rfl (by decide) (by decide) ?_
          intro T93 h93 a93 g93 X93 e93 E93 A93 D93
          have O94 : Old Z Z.heap.size h93 := O26.ext E93
          have f95 : Fld Z h93 a93 "java/lang/String" "coder" "B" (.int (0 : Int32)) := D93 (Or.inr (w 27 _ rfl)) (ty := .byte) (by decide)
          have f96 : Fld Z h93 a93 "java/lang/String" "value" "[B" .null := D93 (Or.inr (w 29 _ rfl)) (ty := (.array .byte)) (by decide)
          refine W.dup X93 hx (hb hby at_153) rfl rfl ?_
          refine W.aload X93 hx (hb hby at_154) rfl rfl rfl ?_
          have hws_words : ∀ d ∈ StrChars.Road.words, d.before a0 Z = true := fun d hd => hw d ((by decide +kernel : ∀ d ∈ StrChars.Road.words, d ∈ tables_1) d hd)
          have KK97 : Keep h25 h93 [] := ((Keep.refl h25 []).ext E93)
          have f98 : Arv Z h93 a18 k18 .char (3 : Int32) [(.int c1), (.int c2), (.int c3)] (.int (0 : Int32)) := (V25.keep KK97 nin0)
          have KK99 : Keep h0 h25 [] := ((((KK21.ext E18).wr W20 (Or.inr (Nat.le_trans KK21.1 (Nat.le_of_eq g18)))).wr W23 (Or.inr (Nat.le_trans KK21.1 (Nat.le_of_eq g18)))).wr W25 (Or.inr (Nat.le_trans KK21.1 (Nat.le_of_eq g18))))
          have KK100 : Keep h0 h93 [] := (KK99.ext E93)
          refine W.callI X93 hx hZ rfl hown (w 4 _ rfl) (w 5 _ rfl) (w 6 _ rfl) (by decide) (as' := [(.ref a18)]) (StrChars.Road.backV (W := 1) hZ hws_words (kI := 4) (w 2 _ rfl) (cs := ([c1, c2, c3] : List Int32)) (bs := (([c1, c2, c3] : List Int32).map (fun c => c.toInt8.toInt32))) (n := 3) (Nat.le_trans KK99.1 (Nat.le_of_eq g93)) KK100.1 A93 f96 f95 f98 (SG1.ext O94.2) nG1 rfl rfl (by decide) (by decide) (latCons Lc1 (latCons Lc2 (latCons Lc3 latNil))) rfl (by decide) (by decide)) e93 (by rw [hml]; rfl) (rest := [(.ref a93)]) (lenOf pd7 rfl) rfl (Nat.le_of_eq rfl) (hb hby at_156) rfl (by decide) (by decide) ?_
          intro T101 h101 v101 L101 X101 e101 hQ101
          obtain ⟨rfl, Nq101, K101, E101s, C101s, t101, kb101, z101a, z101b, z101c, V101s, B101s⟩ := hQ101
          have N101 := Fk.app N25 (Fk.of_fr (ws := []) Nq101) (Nat.le_refl _) all0
          have O102 : Old Z Z.heap.size h101 := O94.keep K101 (allS (Nat.le_trans (Nat.le_trans (Nat.le_trans (Nat.le_of_eq O0.1.symm) O0.2.1) KK99.1) (Nat.le_of_eq g93)) all0)
          show Wp p e below _ _ T101 (mkF m 159 #[.val (.int p0), .val (.int p1), .val (.int p2), .val (.int p3), .val (.int c1), .val (.int c2), .val (.int c3), .val (.ref a4), .val (.ref a6), .val (.ref a11), .val (.ref a18), .val (.int i27), .unset, .unset] [(.ref a93)])
          refine W.astore X101 hx (Ls' := #[.val (.int p0), .val (.int p1), .val (.int p2), .val (.int p3), .val (.int c1), .val (.int c2), .val (.int c3), .val (.ref a4), .val (.ref a6), .val (.ref a11), .val (.ref a18), .val (.int i27), .val (.ref a93), .unset]) (hb hby at_159) rfl rfl rfl ?_
          refine W.aload X101 hx (hb hby at_161) rfl rfl rfl ?_
          refine W.callS X101 hx hZ hown (w 30 _ rfl) (w 31 _ rfl) (w 32 _ rfl) (w 33 _ rfl) (by decide) (as' := [(.ref a93)]) (backOf (W := 0) (rm_prj l Z a0 hw [] (.ref a93) kp h101 O102 (by first | assumption | rfl | decide) SP) hZ (w 33 _ rfl) (w 32 _ rfl) (by decide) (by decide)) e101 (by rw [hml]; rfl) (rest := []) (lenOf pd8 rfl) rfl (Nat.le_of_eq rfl) (hb hby at_163) rfl (by decide) (by decide) ?_
          intro T103 h103 v103 L103 X103 e103 hQ103
          obtain ⟨x103, rfl, Nq103, K103, q103_0, q103_1, q103_2⟩ := hQ103
          have KK104 : Keep h0 h101 [] := (KK100.trans K101 (allS (Or.inr (Nat.le_trans KK99.1 (Nat.le_of_eq g93))) all0))
          have N103 := Fk.app N101 Nq103 KK104.1 all0
          have O105 : Old Z Z.heap.size h103 := O102.keep K103 all0
          show Wp p e below _ _ T103 (mkF m 166 #[.val (.int p0), .val (.int p1), .val (.int p2), .val (.int p3), .val (.int c1), .val (.int c2), .val (.int c3), .val (.ref a4), .val (.ref a6), .val (.ref a11), .val (.ref a18), .val (.int i27), .val (.ref a93), .unset] [(.ref x103)])
          refine W.astore X103 hx (Ls' := #[.val (.int p0), .val (.int p1), .val (.int p2), .val (.int p3), .val (.int c1), .val (.int c2), .val (.int c3), .val (.ref a4), .val (.ref a6), .val (.ref a11), .val (.ref a18), .val (.int i27), .val (.ref a93), .val (.ref x103)]) (hb hby at_166) rfl rfl rfl ?_
          refine W.aload X103 hx (hb hby at_168) rfl rfl rfl ?_
          refine W.ifnonnullYes X103 hx (hb hby at_170) (by decide) (q := 175) rfl ?_
          refine W.aload X103 hx (hb hby at_175) rfl rfl rfl ?_
          refine W.callV X103 hx hZ (y := (⟨"com/example/visad/visad/identity/Scope", "kind", "()Lcom/example/visad/visad/identity/Scope$Kind;"⟩ : MethodName)) (z := (⟨"com/example/visad/visad/identity/Scope", "kind", "()Lcom/example/visad/visad/identity/Scope$Kind;"⟩ : MethodName)) hown (w 52 _ rfl) (w 53 _ rfl) (notFace_of_selects (args := #[]) (mvT hZ (w 55 _ rfl))) (w 55 _ rfl) (w 54 _ rfl) (by decide) (as' := []) (backOf (W := 0) (rm_kind l Z a0 hw [] x103 kp h103 O105 q103_1) hZ (w 56 _ rfl) (w 32 _ rfl) (by decide) (by decide)) e103 q103_0 (by rw [hml]; rfl) (rest := []) (lenOf pd9 rfl) rfl (Nat.le_of_eq rfl) (hb hby at_177) rfl (by decide) (by decide) ?_
          intro T106 h106 v106 L106 X106 e106 hQ106
          obtain ⟨rfl, Nq106, K106⟩ := hQ106
          have KK107 : Keep h0 h103 [] := (KK104.trans K103 all0)
          have N106 := Fk.app N103 Nq106 KK107.1 all0
          rw [K106] at e106
          show Wp p e below _ _ T106 (mkF m 180 #[.val (.int p0), .val (.int p1), .val (.int p2), .val (.int p3), .val (.int c1), .val (.int c2), .val (.int c3), .val (.ref a4), .val (.ref a6), .val (.ref a11), .val (.ref a18), .val (.int i27), .val (.ref a93), .val (.ref x103)] [(.ref kp)])
          refine W.getstatic X106 hx hZ hown (host := "") (Or.inl (w 57 _ rfl)) Via.refl e106 (SP.ext O105.2) (hb hby at_180) rfl ?_
          intro T108 X108 e108
          refine W.acmpEq X108 hx (hb hby at_183) rfl rfl rfl (by decide) (q := 186) (by decide) ?_
          refine W.aload X108 hx (hb hby at_186) rfl rfl rfl ?_
          refine W.callV X108 hx hZ (y := (⟨"com/example/visad/visad/identity/Scope", "kind", "()Lcom/example/visad/visad/identity/Scope$Kind;"⟩ : MethodName)) (z := (⟨"com/example/visad/visad/identity/Scope", "kind", "()Lcom/example/visad/visad/identity/Scope$Kind;"⟩ : MethodName)) hown (w 52 _ rfl) (w 53 _ rfl) (notFace_of_selects (args := #[]) (mvT hZ (w 55 _ rfl))) (w 55 _ rfl) (w 54 _ rfl) (by decide) (as' := []) (backOf (W := 0) (rm_kind l Z a0 hw [] x103 kp h103 O105 q103_1) hZ (w 56 _ rfl) (w 32 _ rfl) (by decide) (by decide)) e108 q103_0 (by rw [hml]; rfl) (rest := []) (lenOf pd9 rfl) rfl (Nat.le_of_eq rfl) (hb hby at_188) rfl (by decide) (by decide) ?_
          intro T109 h109 v109 L109 X109 e109 hQ109
          obtain ⟨rfl, Nq109, K109⟩ := hQ109
          have N109 := Fk.app N106 Nq109 KK107.1 all0
          rw [K109] at e109
          show Wp p e below _ _ T109 (mkF m 191 #[.val (.int p0), .val (.int p1), .val (.int p2), .val (.int p3), .val (.int c1), .val (.int c2), .val (.int c3), .val (.ref a4), .val (.ref a6), .val (.ref a11), .val (.ref a18), .val (.int i27), .val (.ref a93), .val (.ref x103)] [(.ref kp)])
          refine W.getstatic X109 hx hZ hown (host := "") (Or.inl (w 58 _ rfl)) Via.refl e109 (SD.ext O105.2) (hb hby at_191) rfl ?_
          intro T110 X110 e110
          refine W.acmpNe X110 hx (hb hby at_194) rfl rfl (fun q => hne (Value.ref.inj q)) (by decide) (q := 197) (by decide) ?_
          refine W.aload X110 hx (hb hby at_197) rfl rfl rfl ?_
          refine W.callV X110 hx hZ (y := (⟨"com/example/visad/visad/identity/Scope", "id", "()Ljava/lang/String;"⟩ : MethodName)) (z := (⟨"com/example/visad/visad/identity/Scope", "id", "()Ljava/lang/String;"⟩ : MethodName)) hown (w 60 _ rfl) (w 61 _ rfl) (notFace_of_selects (args := #[]) (mvT hZ (w 63 _ rfl))) (w 63 _ rfl) (w 62 _ rfl) (by decide) (as' := []) (backOf (W := 0) (rm_id l Z a0 hw [] x103 (.ref a93) h103 O105 (by first | assumption | rfl | decide) q103_2) hZ (w 64 _ rfl) (w 32 _ rfl) (by decide) (by decide)) e110 q103_0 (by rw [hml]; rfl) (rest := []) (lenOf pd10 rfl) rfl (Nat.le_of_eq rfl) (hb hby at_199) rfl (by decide) (by decide) ?_
          intro T111 h111 v111 L111 X111 e111 hQ111
          obtain ⟨rfl, Nq111, K111⟩ := hQ111
          have N111 := Fk.app N109 Nq111 KK107.1 all0
          rw [K111] at e111
          show Wp p e below _ _ T111 (mkF m 202 #[.val (.int p0), .val (.int p1), .val (.int p2), .val (.int p3), .val (.int c1), .val (.int c2), .val (.int c3), .val (.ref a4), .val (.ref a6), .val (.ref a11), .val (.ref a18), .val (.int i27), .val (.ref a93), .val (.ref x103)] [(.ref a93)])
          refine W.aload X111 hx (hb hby at_202) rfl rfl rfl ?_
          refine W.acmpEq X111 hx (hb hby at_204) rfl rfl rfl (by decide) (q := 207) (by decide) ?_
          refine W.iconst X111 hx (v := (1 : Int32)) (hb hby at_207) rfl rfl ?_
          refine W.goto X111 hx (hb hby at_208) (by decide) (q := 212) rfl ?_
          exact W.retZW X111 hx hS (Nat.le_trans (Nat.le_refl _) KK107.1) hlk hr (by simp) (hb hby at_212) (by decide) (by decide) (Qc := Q_rm_law Z p0 p1 p2 p3 G1 kp kd h0) e111 (fun vm' hw' => ⟨rfl, N111, KK107⟩)
  · skip
    refine W.ifNo X25 hx (hb hby at_82) rfl ((if0 _ _).trans (feq hc28).1) ?_
    refine W.aconstNull X25 hx (hb hby at_85) rfl ?_
    refine W.astore X25 hx (Ls' := #[.val (.int p0), .val (.int p1), .val (.int p2), .val (.int p3), .val (.int c1), .val (.int c2), .val (.int c3), .val (.ref a4), .val (.ref a6), .val (.ref a11), .val (.ref a18), .val (.int i27), .val .null, .unset]) (hb hby at_86) rfl rfl rfl ?_
    refine W.goto X25 hx (hb hby at_88) (by decide) (q := 161) rfl ?_
    refine W.aload X25 hx (hb hby at_161) rfl rfl rfl ?_
    refine W.callS X25 hx hZ hown (w 30 _ rfl) (w 31 _ rfl) (w 32 _ rfl) (w 33 _ rfl) (by decide) (as' := [.null]) (backOf (W := 0) (rm_prj l Z a0 hw [] .null kp h25 O26 (by first | assumption | rfl | decide) SP) hZ (w 33 _ rfl) (w 32 _ rfl) (by decide) (by decide)) e25 (by rw [hml]; rfl) (rest := []) (lenOf pd8 rfl) rfl (Nat.le_of_eq rfl) (hb hby at_163) rfl (by decide) (by decide) ?_
    intro T112 h112 v112 L112 X112 e112 hQ112
    obtain ⟨x112, rfl, Nq112, K112, q112_0, q112_1, q112_2⟩ := hQ112
    have KK113 : Keep h0 h25 [] := ((((KK21.ext E18).wr W20 (Or.inr (Nat.le_trans KK21.1 (Nat.le_of_eq g18)))).wr W23 (Or.inr (Nat.le_trans KK21.1 (Nat.le_of_eq g18)))).wr W25 (Or.inr (Nat.le_trans KK21.1 (Nat.le_of_eq g18))))
    have N112 := Fk.app N25 Nq112 KK113.1 all0
    have O114 : Old Z Z.heap.size h112 := O26.keep K112 all0
    show Wp p e below _ _ T112 (mkF m 166 #[.val (.int p0), .val (.int p1), .val (.int p2), .val (.int p3), .val (.int c1), .val (.int c2), .val (.int c3), .val (.ref a4), .val (.ref a6), .val (.ref a11), .val (.ref a18), .val (.int i27), .val .null, .unset] [(.ref x112)])
    refine W.astore X112 hx (Ls' := #[.val (.int p0), .val (.int p1), .val (.int p2), .val (.int p3), .val (.int c1), .val (.int c2), .val (.int c3), .val (.ref a4), .val (.ref a6), .val (.ref a11), .val (.ref a18), .val (.int i27), .val .null, .val (.ref x112)]) (hb hby at_166) rfl rfl rfl ?_
    refine W.aload X112 hx (hb hby at_168) rfl rfl rfl ?_
    refine W.ifnonnullYes X112 hx (hb hby at_170) (by decide) (q := 175) rfl ?_
    refine W.aload X112 hx (hb hby at_175) rfl rfl rfl ?_
    refine W.callV X112 hx hZ (y := (⟨"com/example/visad/visad/identity/Scope", "kind", "()Lcom/example/visad/visad/identity/Scope$Kind;"⟩ : MethodName)) (z := (⟨"com/example/visad/visad/identity/Scope", "kind", "()Lcom/example/visad/visad/identity/Scope$Kind;"⟩ : MethodName)) hown (w 52 _ rfl) (w 53 _ rfl) (notFace_of_selects (args := #[]) (mvT hZ (w 55 _ rfl))) (w 55 _ rfl) (w 54 _ rfl) (by decide) (as' := []) (backOf (W := 0) (rm_kind l Z a0 hw [] x112 kp h112 O114 q112_1) hZ (w 56 _ rfl) (w 32 _ rfl) (by decide) (by decide)) e112 q112_0 (by rw [hml]; rfl) (rest := []) (lenOf pd9 rfl) rfl (Nat.le_of_eq rfl) (hb hby at_177) rfl (by decide) (by decide) ?_
    intro T115 h115 v115 L115 X115 e115 hQ115
    obtain ⟨rfl, Nq115, K115⟩ := hQ115
    have KK116 : Keep h0 h112 [] := (KK113.trans K112 all0)
    have N115 := Fk.app N112 Nq115 KK116.1 all0
    rw [K115] at e115
    show Wp p e below _ _ T115 (mkF m 180 #[.val (.int p0), .val (.int p1), .val (.int p2), .val (.int p3), .val (.int c1), .val (.int c2), .val (.int c3), .val (.ref a4), .val (.ref a6), .val (.ref a11), .val (.ref a18), .val (.int i27), .val .null, .val (.ref x112)] [(.ref kp)])
    refine W.getstatic X115 hx hZ hown (host := "") (Or.inl (w 57 _ rfl)) Via.refl e115 (SP.ext O114.2) (hb hby at_180) rfl ?_
    intro T117 X117 e117
    refine W.acmpEq X117 hx (hb hby at_183) rfl rfl rfl (by decide) (q := 186) (by decide) ?_
    refine W.aload X117 hx (hb hby at_186) rfl rfl rfl ?_
    refine W.callV X117 hx hZ (y := (⟨"com/example/visad/visad/identity/Scope", "kind", "()Lcom/example/visad/visad/identity/Scope$Kind;"⟩ : MethodName)) (z := (⟨"com/example/visad/visad/identity/Scope", "kind", "()Lcom/example/visad/visad/identity/Scope$Kind;"⟩ : MethodName)) hown (w 52 _ rfl) (w 53 _ rfl) (notFace_of_selects (args := #[]) (mvT hZ (w 55 _ rfl))) (w 55 _ rfl) (w 54 _ rfl) (by decide) (as' := []) (backOf (W := 0) (rm_kind l Z a0 hw [] x112 kp h112 O114 q112_1) hZ (w 56 _ rfl) (w 32 _ rfl) (by decide) (by decide)) e117 q112_0 (by rw [hml]; rfl) (rest := []) (lenOf pd9 rfl) rfl (Nat.le_of_eq rfl) (hb hby at_188) rfl (by decide) (by decide) ?_
    intro T118 h118 v118 L118 X118 e118 hQ118
    obtain ⟨rfl, Nq118, K118⟩ := hQ118
    have N118 := Fk.app N115 Nq118 KK116.1 all0
    rw [K118] at e118
    show Wp p e below _ _ T118 (mkF m 191 #[.val (.int p0), .val (.int p1), .val (.int p2), .val (.int p3), .val (.int c1), .val (.int c2), .val (.int c3), .val (.ref a4), .val (.ref a6), .val (.ref a11), .val (.ref a18), .val (.int i27), .val .null, .val (.ref x112)] [(.ref kp)])
    refine W.getstatic X118 hx hZ hown (host := "") (Or.inl (w 58 _ rfl)) Via.refl e118 (SD.ext O114.2) (hb hby at_191) rfl ?_
    intro T119 X119 e119
    refine W.acmpNe X119 hx (hb hby at_194) rfl rfl (fun q => hne (Value.ref.inj q)) (by decide) (q := 197) (by decide) ?_
    refine W.aload X119 hx (hb hby at_197) rfl rfl rfl ?_
    refine W.callV X119 hx hZ (y := (⟨"com/example/visad/visad/identity/Scope", "id", "()Ljava/lang/String;"⟩ : MethodName)) (z := (⟨"com/example/visad/visad/identity/Scope", "id", "()Ljava/lang/String;"⟩ : MethodName)) hown (w 60 _ rfl) (w 61 _ rfl) (notFace_of_selects (args := #[]) (mvT hZ (w 63 _ rfl))) (w 63 _ rfl) (w 62 _ rfl) (by decide) (as' := []) (backOf (W := 0) (rm_id l Z a0 hw [] x112 .null h112 O114 (by first | assumption | rfl | decide) q112_2) hZ (w 64 _ rfl) (w 32 _ rfl) (by decide) (by decide)) e119 q112_0 (by rw [hml]; rfl) (rest := []) (lenOf pd10 rfl) rfl (Nat.le_of_eq rfl) (hb hby at_199) rfl (by decide) (by decide) ?_
    intro T120 h120 v120 L120 X120 e120 hQ120
    obtain ⟨rfl, Nq120, K120⟩ := hQ120
    have N120 := Fk.app N118 Nq120 KK116.1 all0
    rw [K120] at e120
    show Wp p e below _ _ T120 (mkF m 202 #[.val (.int p0), .val (.int p1), .val (.int p2), .val (.int p3), .val (.int c1), .val (.int c2), .val (.int c3), .val (.ref a4), .val (.ref a6), .val (.ref a11), .val (.ref a18), .val (.int i27), .val .null, .val (.ref x112)] [.null])
    refine W.aload X120 hx (hb hby at_202) rfl rfl rfl ?_
    refine W.acmpEq X120 hx (hb hby at_204) rfl rfl rfl (by decide) (q := 207) (by decide) ?_
    refine W.iconst X120 hx (v := (1 : Int32)) (hb hby at_207) rfl rfl ?_
    refine W.goto X120 hx (hb hby at_208) (by decide) (q := 212) rfl ?_
    exact W.retZW X120 hx hS (Nat.le_trans (Nat.le_refl _) KK116.1) hlk hr (by simp) (hb hby at_212) (by decide) (by decide) (Qc := Q_rm_law Z p0 p1 p2 p3 G1 kp kd h0) e120 (fun vm' hw' => ⟨rfl, N120, KK116⟩)
set_option maxRecDepth 65536 in
set_option maxHeartbeats 40000000 in
theorem comes_1 {Post : Tables → Env → Array Value → State → Outcome → State → Prop} (hpost : ∀ tb e args s v u, (limb_1_1.after args s (.returned v) u = true ∧ limb_1_2.after args s (.returned v) u = true ∧ True) → ReturnedEndW s (.returned v) u (Jvm.fieldLocs frame_1_writes args s ++ Jvm.arrayLocs frame_1_arrays args s ++ Jvm.staticLocs frame_1_statics s) 24 1152 → Post tb e args s (.returned v) u) :
    ArmFor flags0 classFile x code maxLocals ret World_1 tables_1 room_1 Calls_1 rest_1 Pre_1 Post := by
  intro l hfl _ _ p e ha hc hk s m args below hf hA hF happ hP
  obtain ⟨hcalls, hrest, hpre⟩ := hP
  obtain ⟨-, -, -, hnamed, -, -, -, hat⟩ := (Spec.applies_iff hf).mp happ
  obtain ⟨hg, hn⟩ := and_e (Cond.before_iff.mp (show (Jvm.Cond.and given_1 narrow_1).before args s = true from hpre))
  obtain ⟨hcount, hk0⟩ := and_e hg
  obtain ⟨ha0, hk1⟩ := and_e hk0
  obtain ⟨ha1, hk2⟩ := and_e hk1
  obtain ⟨ha2, hk3⟩ := and_e hk2
  have ha3 := hk3
  obtain ⟨w0, w1, w2, w3, rfl⟩ : ∃ w0 w1 w2 w3 : Value, args = #[w0, w1, w2, w3] := by
    have hs : args.size = 4 := by simpa [Cond.value, given_1] using hcount
    obtain ⟨L⟩ := args
    match L, hs with
    | [w0, w1, w2, w3], _ => exact ⟨w0, w1, w2, w3, rfl⟩
  have hw := fun d (hd : d ∈ tables_1) => atoms_spec (ws := Jvm.Cond.code x code maxLocals ret :: tables_1) hat d (List.mem_cons_of_mem _ hd)
  have hfit : Fit s := fun {y c} hc i hi => by
    obtain ⟨ha, rfl⟩ := Array.getElem?_eq_some_iff.mp hc
    have q := List.all_eq_true.mp ((Array.all_eq_true_iff_forall_mem.mp hF) _ (Array.getElem_mem ha)) i (List.mem_range.mpr hi)
    simpa [Array.getElem?_eq_getElem hi] using q
  obtain ⟨hsets, hown0⟩ := atoms_of _ (rest_1_c_eq ▸ (show rest_1_c.before _ s = true from hrest))
  obtain ⟨i0, ei0⟩ := is_v ha0
  obtain rfl : w0 = (.int i0) := Option.some.inj ei0
  obtain ⟨i1, ei1⟩ := is_v ha1
  obtain rfl : w1 = (.int i1) := Option.some.inj ei1
  obtain ⟨i2, ei2⟩ := is_v ha2
  obtain rfl : w2 = (.int i2) := Option.some.inj ei2
  obtain ⟨i3, ei3⟩ := is_v ha3
  obtain rfl : w3 = (.int i3) := Option.some.inj ei3
  have n3 := not_v (Cond.before_iff.mp (hsets _ (List.mem_of_getElem? (i := 2) rfl)))
  obtain ⟨G1, eG1⟩ := is_v (Cond.before_iff.mp (hsets _ (List.mem_of_getElem? (i := 1) rfl)))
  have SG1 : Sta s s.heap "java/lang/String" "COMPACT_STRINGS" "Z" (.int G1) := Sta.start eG1 (Or.inl (hsets _ (List.mem_of_getElem? (i := 0) rfl)))
  have nG1 : ¬ (G1 = (0 : Int32)) := gotF (Cond.eq_ints eG1 (Term.int_eval (0))) n3
  obtain ⟨n1, n2⟩ := and_e hn
  obtain ⟨n3', n4⟩ := and_e n2
  obtain ⟨n5, n6⟩ := and_e n4
  obtain ⟨kp, ekp⟩ := exa_v n1
  obtain ⟨kd, ekd⟩ := exa_v n3'
  have Skp : Sta s s.heap "com/example/visad/visad/identity/Scope$Kind" "PROJECT" "Lcom/example/visad/visad/identity/Scope$Kind;" (.ref kp) := Sta.start ekp (Or.inr ⟨hw _ (List.mem_of_getElem? (i := 37) rfl), hw _ (List.mem_of_getElem? (i := 38) rfl)⟩)
  have Skd : Sta s s.heap "com/example/visad/visad/identity/Scope$Kind" "DOMAIN" "Lcom/example/visad/visad/identity/Scope$Kind;" (.ref kd) := Sta.start ekd (Or.inr ⟨hw _ (List.mem_of_getElem? (i := 37) rfl), hw _ (List.mem_of_getElem? (i := 59) rfl)⟩)
  have fp : Fld s s.heap kp "java/lang/Enum" "ordinal" "I" (.int 1) := Fld.start (by rw [← fld_at ekp]; exact fieldI n5)
  have fd : Fld s s.heap kd "java/lang/Enum" "ordinal" "I" (.int 0) := Fld.start (by rw [← fld_at ekd]; exact fieldI n6)
  have hne : kp ≠ kd := Fld.ne fp fd (by decide)
  obtain ⟨n, o, h1, h2, h3, _, L, rfl, ⟨rfl, N', -⟩, hq⟩ := rm_law l s _ hw tables_1 i0 i1 i2 i3 G1 kp kd s.heap (Old.start s) (hsets _ (List.mem_of_getElem? (i := 2) rfl)) (fun d hd => hcalls.1 d hd) SG1 nG1 Skp Skd hne p e ha hc hk s m _ below hf ((Spec.applies_iff_loose hf).mp happ).1 ⟨rfl, State.Warmed39.refl s, rfl, IB.start⟩ trivial
  have N := Fk.fr N'
  refine ⟨n, _, h1, h2, h3, hpost _ _ _ _ _ _ ⟨Cond.after_iff.mpr rfl, Cond.after_iff.mpr (eq_i res_at (Term.int_eval (1)) rfl), trivial⟩ ⟨hq.1, hq.2.1, hq.2.2.1, (hq.2.2.2.sift fun y hy => Or.inr (N y hy)).mono (by decide) (by decide)⟩⟩
theorem main_1_1 : Claimed_1_1 := comes_1 fun _ _ _ _ _ _ h hF => ⟨h.1, hF⟩
theorem main_1_2 : Claimed_1_2 := comes_1 fun _ _ _ _ _ _ h hF => ⟨h.2.1, hF⟩
end Jvm.Pilot.@@N@@
namespace Jvm.Pilot.@@N@@
open Jvm Jvm.ClassFile Sem Op Lib Jvm.Free Jvm.Stand Jvm.Pilot.@@N@@.Jvm.D
/-! MADE BY PROGRAM (witnessworld.py) out of the Statement's table words and the real class files: 23 classes; the members and pool entries that the words name. The judged class is class 1, her method 1. -/
namespace start1
open Jvm.ClassFile
def u (s : String) : CpInfo := .utf8 (stringToUtf16 s)
/-- a pool by its gaps: so many unusable entries, then the entry; so many at the end -/
def gap : Nat → List CpInfo → List CpInfo
  | 0, r => r
  | n + 1, r => .unusable :: gap n r
def poolList (es : List (Nat × CpInfo)) (last : Nat) : List CpInfo := es.foldr (fun e r => gap e.1 (e.2 :: r)) (gap last [])
def pool (es : List (Nat × CpInfo)) (last : Nat) : Array CpInfo := ⟨poolList es last⟩
def fileOf (pool : Array CpInfo) (this : Nat) (attrs : Array Attribute := #[]) (ms : Array MethodInfo := #[]) (fl : Nat := 33) (sup : Nat := 0) (ifs : Array Nat := #[]) (fds : Array FieldInfo := #[]) : ClassFile where
  minorVersion := 0
  majorVersion := 65
  constantPool := pool
  accessFlags := fl
  thisClass := this
  superClass := sup
  interfaces := ifs
  fields := fds
  methods := ms
  attributes := attrs
def plain (name : String) (sup : Option ClassId) : Class where
  name := name
  kind := .ordinary
  loader := none
  accessFlags := 33
  super := sup
  interfaces := #[]
  cf := none
  fields := #[]
  methods := #[]
  instanceTypes := #[]
  staticTypes := #[]
  resolved := #[]
  callSites := []
  init := .initialized
  statics := none
  mirror := none

def pool0 : Array CpInfo := pool [(5, u "<init>"), (0, u "()V"), (1, .class_ 10), (1, u "java/lang/Object")] 113

def k0c0 : Code := { maxStack := 0, maxLocals := 1, code := object_method_1_code, exceptionTable := #[], attributes := #[] }
def k0m0 : Method := { name := "<init>", desc := "()V", sig := { parameters := [], returnType := none }, accessFlags := 1, code := some k0c0 }
/-- java/lang/Object -/
def k0 : Class := { plain "java/lang/Object" none with
  accessFlags := 33
  interfaces := #[]
  cf := some (fileOf pool0 8 #[] #[{ accessFlags := 1, nameIndex := 5, descriptorIndex := 6, attributes := #[] }] 33 0 #[] #[])
  fields := #[]
  methods := #[k0m0]
  instanceTypes := #[]
  staticTypes := #[]
  resolved := Array.replicate 124 none
  statics := none }

def pool1 : Array CpInfo := pool [(2, .class_ 4), (1, u "java/lang/Object"), (0, u "<init>"), (0, u "()V"), (0, .class_ 8), (0, u "java/lang/String"), (0, .methodref 7 10), (0, .nameAndType 5 11), (0, u "([C)V"), (0, .methodref 13 14), (0, .class_ 15), (0, .nameAndType 16 17), (0, u "com/example/visad/visad/identity/Scope"), (0, u "project"), (0, u "(Ljava/lang/String;)Lcom/example/visad/visad/identity/Scope;"), (0, .methodref 13 19), (0, .nameAndType 20 21), (0, u "kind"), (0, u "()Lcom/example/visad/visad/identity/Scope$Kind;"), (0, .fieldref 23 24), (0, .class_ 25), (0, .nameAndType 26 27), (0, u "com/example/visad/visad/identity/Scope$Kind"), (0, u "PROJECT"), (0, u "Lcom/example/visad/visad/identity/Scope$Kind;"), (0, .fieldref 23 29), (0, .nameAndType 30 27), (0, u "DOMAIN"), (0, .methodref 13 32), (0, .nameAndType 33 34), (0, u "id"), (0, u "()Ljava/lang/String;"), (0, .class_ 36), (0, u "com/example/visad/visad/identity/ScopeProjectPinLaw"), (2, u "law"), (0, u "(IIII)Z")] 7

def k1m0 : Method := { name := "<init>", desc := "()V", sig := { parameters := [], returnType := none }, accessFlags := 1, code := none }
def k1c1 : Code := { maxStack := 4, maxLocals := 14, code := code, exceptionTable := #[], attributes := #[] }
def k1m1 : Method := { name := "law", desc := "(IIII)Z", sig := { parameters := [.int, .int, .int, .int], returnType := some .boolean }, accessFlags := 9, code := some k1c1 }
/-- com/example/visad/visad/identity/ScopeProjectPinLaw -/
def k1 : Class := { plain "com/example/visad/visad/identity/ScopeProjectPinLaw" (some 0) with
  accessFlags := 49
  interfaces := #[]
  cf := some (fileOf pool1 35 #[] #[{ accessFlags := 1, nameIndex := 5, descriptorIndex := 6, attributes := #[] }, { accessFlags := 9, nameIndex := 39, descriptorIndex := 40, attributes := #[] }] 49 2 #[] #[])
  fields := #[]
  methods := #[k1m0, k1m1]
  instanceTypes := #[]
  staticTypes := #[]
  resolved := Array.replicate 48 none
  statics := none }

def pool2 : Array CpInfo := pool [(1, .class_ 2), (0, u "java/io/Serializable"), (0, .class_ 4), (0, u "java/lang/Object")] 2

/-- java/io/Serializable -/
def k2 : Class := { plain "java/io/Serializable" (some 0) with
  accessFlags := 1537
  interfaces := #[]
  cf := some (fileOf pool2 1 #[] #[] 1537 3 #[] #[])
  fields := #[]
  methods := #[]
  instanceTypes := #[]
  staticTypes := #[]
  resolved := Array.replicate 7 none
  statics := none }

def pool3 : Array CpInfo := pool [(1, .class_ 2), (0, u "java/lang/Comparable"), (0, .class_ 4), (0, u "java/lang/Object")] 7

/-- java/lang/Comparable -/
def k3 : Class := { plain "java/lang/Comparable" (some 0) with
  accessFlags := 1537
  interfaces := #[]
  cf := some (fileOf pool3 1 #[] #[] 1537 3 #[] #[])
  fields := #[]
  methods := #[]
  instanceTypes := #[]
  staticTypes := #[]
  resolved := Array.replicate 12 none
  statics := none }

def pool4 : Array CpInfo := pool [(2, .class_ 4), (1, u "java/lang/CharSequence"), (42, .class_ 48), (0, u "java/lang/CharSequence$1CodePointIterator"), (10, .class_ 60), (0, u "java/lang/CharSequence$1CharIterator"), (5, .class_ 67), (0, u "java/lang/Object")] 63

/-- java/lang/CharSequence -/
def k4 : Class := { plain "java/lang/CharSequence" (some 0) with
  accessFlags := 1537
  interfaces := #[]
  cf := some (fileOf pool4 2 #[.nestMembers #[47, 59]] #[] 1537 66 #[] #[])
  fields := #[]
  methods := #[]
  instanceTypes := #[]
  staticTypes := #[]
  resolved := Array.replicate 131 none
  statics := none }

def pool5 : Array CpInfo := pool [(1, .class_ 2), (0, u "java/lang/constant/Constable"), (0, .class_ 4), (0, u "java/lang/Object")] 6

/-- java/lang/constant/Constable -/
def k5 : Class := { plain "java/lang/constant/Constable" (some 0) with
  accessFlags := 1537
  interfaces := #[]
  cf := some (fileOf pool5 1 #[] #[] 1537 3 #[] #[])
  fields := #[]
  methods := #[]
  instanceTypes := #[]
  staticTypes := #[]
  resolved := Array.replicate 11 none
  statics := none }

def pool6 : Array CpInfo := pool [(1, .class_ 2), (0, u "java/lang/constant/ConstantDesc"), (0, .class_ 4), (0, u "java/lang/Object")] 32

/-- java/lang/constant/ConstantDesc -/
def k6 : Class := { plain "java/lang/constant/ConstantDesc" (some 0) with
  accessFlags := 1537
  interfaces := #[]
  cf := some (fileOf pool6 1 #[] #[] 1537 3 #[] #[])
  fields := #[]
  methods := #[]
  instanceTypes := #[]
  staticTypes := #[]
  resolved := Array.replicate 37 none
  statics := none }

def pool7 : Array CpInfo := pool [(1, .methodref 2 3), (0, .class_ 4), (0, .nameAndType 5 6), (0, u "java/lang/Object"), (0, u "<init>"), (0, u "()V"), (0, .string 8), (0, u ""), (0, .fieldref 10 11), (0, .class_ 12), (0, .nameAndType 13 14), (0, u "java/lang/String"), (0, u "value"), (0, u "[B"), (0, .fieldref 10 16), (0, .nameAndType 17 18), (0, u "coder"), (0, u "B"), (2, u "hash"), (0, u "I"), (2, u "hashIsZero"), (0, u "Z"), (0, .methodref 10 28), (0, .nameAndType 5 29), (0, u "([CIILjava/lang/Void;)V"), (8, .fieldref 10 39), (0, .nameAndType 40 26), (0, u "COMPACT_STRINGS"), (1, .class_ 44), (1, u "java/lang/StringUTF16"), (0, u "compress"), (1, .methodref 42 48), (0, .nameAndType 49 50), (0, u "coderFromArrayLen"), (0, u "([BI)B"), (126, .methodref 42 178), (0, .nameAndType 45 179), (0, u "([CII)[B"), (395, .class_ 576), (0, u "java/lang/CharSequence"), (22, u "CASE_INSENSITIVE_ORDER"), (0, u "Ljava/util/Comparator;"), (409, u "([C)V"), (90, u "serialPersistentFields"), (0, u "[Ljava/io/ObjectStreamField;"), (0, .class_ 1104), (0, u "java/lang/String$CaseInsensitiveComparator"), (1, .class_ 1107), (0, u "java/io/Serializable"), (0, .class_ 1109), (0, u "java/lang/Comparable"), (0, .class_ 1111), (0, u "java/lang/constant/Constable"), (0, .class_ 1113), (0, u "java/lang/constant/ConstantDesc"), (2, u "serialVersionUID"), (0, u "J"), (3, u "REPL"), (0, u "C"), (2, u "LATIN1"), (1, u "UTF16")] 323

def k7m0 : Method := { name := "<init>", desc := "()V", sig := { parameters := [], returnType := none }, accessFlags := 1, code := none }
def k7c1 : Code := { maxStack := 5, maxLocals := 2, code := jdk_42_method_3_code, exceptionTable := #[], attributes := #[] }
def k7m1 : Method := { name := "<init>", desc := "([C)V", sig := { parameters := [(.array .char)], returnType := none }, accessFlags := 1, code := some k7c1 }
def k7c2 : Code := { maxStack := 4, maxLocals := 6, code := jdk_42_method_149_code, exceptionTable := #[], attributes := #[] }
def k7m2 : Method := { name := "<init>", desc := "([CIILjava/lang/Void;)V", sig := { parameters := [(.array .char), .int, .int, (.object "java/lang/Void")], returnType := none }, accessFlags := 2, code := some k7c2 }
/-- java/lang/String -/
def k7 : Class := { plain "java/lang/String" (some 0) with
  accessFlags := 49
  interfaces := #[2, 3, 4, 5, 6]
  cf := some (fileOf pool7 10 #[.nestMembers #[1103]] #[{ accessFlags := 1, nameIndex := 5, descriptorIndex := 6, attributes := #[] }, { accessFlags := 1, nameIndex := 5, descriptorIndex := 1010, attributes := #[] }, { accessFlags := 2, nameIndex := 5, descriptorIndex := 29, attributes := #[] }] 49 2 #[1106, 1108, 575, 1110, 1112] #[{ accessFlags := 18, nameIndex := 13, descriptorIndex := 14, attributes := #[] }, { accessFlags := 18, nameIndex := 17, descriptorIndex := 18, attributes := #[] }, { accessFlags := 2, nameIndex := 21, descriptorIndex := 22, attributes := #[] }, { accessFlags := 2, nameIndex := 25, descriptorIndex := 26, attributes := #[] }, { accessFlags := 26, nameIndex := 1116, descriptorIndex := 1117, attributes := #[] }, { accessFlags := 24, nameIndex := 40, descriptorIndex := 26, attributes := #[] }, { accessFlags := 26, nameIndex := 1101, descriptorIndex := 1102, attributes := #[] }, { accessFlags := 26, nameIndex := 1121, descriptorIndex := 1122, attributes := #[] }, { accessFlags := 25, nameIndex := 599, descriptorIndex := 600, attributes := #[] }, { accessFlags := 24, nameIndex := 1125, descriptorIndex := 18, attributes := #[] }, { accessFlags := 24, nameIndex := 1127, descriptorIndex := 18, attributes := #[] }])
  fields := #[{ name := "value", type := (.array .byte), accessFlags := 18, slot := 0, constantValue := 0 }, { name := "coder", type := .byte, accessFlags := 18, slot := 1, constantValue := 0 }, { name := "hash", type := .int, accessFlags := 2, slot := 2, constantValue := 0 }, { name := "hashIsZero", type := .boolean, accessFlags := 2, slot := 3, constantValue := 0 }, { name := "serialVersionUID", type := .long, accessFlags := 26, slot := 0, constantValue := 0 }, { name := "COMPACT_STRINGS", type := .boolean, accessFlags := 24, slot := 1, constantValue := 0 }, { name := "serialPersistentFields", type := (.array (.object "java/io/ObjectStreamField")), accessFlags := 26, slot := 2, constantValue := 0 }, { name := "REPL", type := .char, accessFlags := 26, slot := 3, constantValue := 0 }, { name := "CASE_INSENSITIVE_ORDER", type := (.object "java/util/Comparator"), accessFlags := 25, slot := 4, constantValue := 0 }, { name := "LATIN1", type := .byte, accessFlags := 24, slot := 5, constantValue := 0 }, { name := "UTF16", type := .byte, accessFlags := 24, slot := 6, constantValue := 0 }]
  methods := #[k7m0, k7m1, k7m2]
  instanceTypes := #[(.array .byte), .byte, .int, .boolean]
  staticTypes := #[.long, .boolean, (.array (.object "java/io/ObjectStreamField")), .char, (.object "java/util/Comparator"), .byte, .byte]
  resolved := Array.replicate 1451 none
  statics := some 0 }

def pool8 : Array CpInfo := pool [(6, .class_ 8), (1, u "java/lang/Object"), (0, u "<init>"), (0, u "()V"), (1, .class_ 14), (1, u "java/lang/StringUTF16"), (31, u "$assertionsDisabled"), (0, u "Z"), (13, u "HI_BYTE_SHIFT"), (0, u "I"), (2, u "LO_BYTE_SHIFT"), (49, .methodref 12 116), (0, .nameAndType 117 118), (0, u "compress"), (0, u "([CI[BII)I"), (3, u "([CII)[B"), (138, u "coderFromArrayLen"), (0, u "([BI)B"), (106, .class_ 371), (1, u "java/lang/StringUTF16$LinesSpliterator"), (58, u "MAX_LENGTH"), (196, .class_ 628), (0, u "java/lang/StringUTF16$CodePointsSpliterator"), (0, .class_ 630), (0, u "java/lang/StringUTF16$CharsSpliterator")] 4

def k8m0 : Method := { name := "<init>", desc := "()V", sig := { parameters := [], returnType := none }, accessFlags := 0, code := none }
def k8c1 : Code := { maxStack := 2, maxLocals := 2, code := jdk_52_method_15_code, exceptionTable := #[], attributes := #[] }
def k8m1 : Method := { name := "coderFromArrayLen", desc := "([BI)B", sig := { parameters := [(.array .byte), .int], returnType := some .byte }, accessFlags := 8, code := some k8c1 }
def k8c2 : Code := { maxStack := 5, maxLocals := 6, code := jdk_52_method_16_code, exceptionTable := #[], attributes := #[] }
def k8m2 : Method := { name := "compress", desc := "([CII)[B", sig := { parameters := [(.array .char), .int, .int], returnType := some (.array .byte) }, accessFlags := 9, code := some k8c2 }
def k8c3 : Code := { maxStack := 3, maxLocals := 7, code := jdk_52_method_21_code, exceptionTable := #[], attributes := #[] }
def k8m3 : Method := { name := "compress", desc := "([CI[BII)I", sig := { parameters := [(.array .char), .int, (.array .byte), .int, .int], returnType := some .int }, accessFlags := 9, code := some k8c3 }
/-- java/lang/StringUTF16 -/
def k8 : Class := { plain "java/lang/StringUTF16" (some 0) with
  accessFlags := 48
  interfaces := #[]
  cf := some (fileOf pool8 12 #[.nestMembers #[627, 629, 369]] #[{ accessFlags := 0, nameIndex := 9, descriptorIndex := 10, attributes := #[] }, { accessFlags := 8, nameIndex := 261, descriptorIndex := 262, attributes := #[] }, { accessFlags := 9, nameIndex := 117, descriptorIndex := 122, attributes := #[] }, { accessFlags := 9, nameIndex := 117, descriptorIndex := 118, attributes := #[] }] 48 6 #[] #[{ accessFlags := 26, nameIndex := 61, descriptorIndex := 62, attributes := #[] }, { accessFlags := 26, nameIndex := 65, descriptorIndex := 62, attributes := #[] }, { accessFlags := 24, nameIndex := 430, descriptorIndex := 62, attributes := #[] }, { accessFlags := 4120, nameIndex := 46, descriptorIndex := 47, attributes := #[] }])
  fields := #[{ name := "HI_BYTE_SHIFT", type := .int, accessFlags := 26, slot := 0, constantValue := 0 }, { name := "LO_BYTE_SHIFT", type := .int, accessFlags := 26, slot := 1, constantValue := 0 }, { name := "MAX_LENGTH", type := .int, accessFlags := 24, slot := 2, constantValue := 0 }, { name := "$assertionsDisabled", type := .boolean, accessFlags := 4120, slot := 3, constantValue := 0 }]
  methods := #[k8m0, k8m1, k8m2, k8m3]
  instanceTypes := #[]
  staticTypes := #[.int, .int, .int, .boolean]
  resolved := Array.replicate 635 none
  statics := none }

def pool9 : Array CpInfo := pool [(1, .methodref 2 3), (0, .class_ 4), (0, .nameAndType 5 6), (0, u "java/lang/Object"), (0, u "<init>"), (0, u "()V"), (0, .class_ 8), (0, u "java/lang/Record")] 13

def k9c0 : Code := { maxStack := 1, maxLocals := 1, code := jdk_30_method_1_code, exceptionTable := #[], attributes := #[] }
def k9m0 : Method := { name := "<init>", desc := "()V", sig := { parameters := [], returnType := none }, accessFlags := 4, code := some k9c0 }
/-- java/lang/Record -/
def k9 : Class := { plain "java/lang/Record" (some 0) with
  accessFlags := 1057
  interfaces := #[]
  cf := some (fileOf pool9 7 #[] #[{ accessFlags := 4, nameIndex := 5, descriptorIndex := 6, attributes := #[] }] 1057 2 #[] #[])
  fields := #[]
  methods := #[k9m0]
  instanceTypes := #[]
  staticTypes := #[]
  resolved := Array.replicate 22 none
  statics := none }

def pool10 : Array CpInfo := pool [(1, .methodref 2 3), (0, .class_ 4), (0, .nameAndType 5 6), (0, u "java/lang/Record"), (0, u "<init>"), (0, u "()V"), (0, .fieldref 8 9), (0, .class_ 10), (0, .nameAndType 11 12), (0, u "com/example/visad/visad/identity/Scope"), (0, u "kind"), (0, u "Lcom/example/visad/visad/identity/Scope$Kind;"), (0, .fieldref 8 14), (0, .nameAndType 15 16), (0, u "id"), (0, u "Ljava/lang/String;"), (1, .class_ 20), (1, u "com/example/visad/visad/identity/Scope$Kind"), (1, .methodref 8 23), (0, .nameAndType 5 24), (0, u "(Lcom/example/visad/visad/identity/Scope$Kind;Ljava/lang/String;)V"), (0, .fieldref 18 26), (0, .nameAndType 27 12), (0, u "PROJECT"), (16, u "(Ljava/lang/String;)Lcom/example/visad/visad/identity/Scope;"), (0, u "project"), (0, u "()Ljava/lang/String;"), (2, u "()Lcom/example/visad/visad/identity/Scope$Kind;")] 23

def k10c0 : Code := { maxStack := 2, maxLocals := 3, code := prog_40_method_1_code, exceptionTable := #[], attributes := #[] }
def k10m0 : Method := { name := "<init>", desc := "(Lcom/example/visad/visad/identity/Scope$Kind;Ljava/lang/String;)V", sig := { parameters := [(.object "com/example/visad/visad/identity/Scope$Kind"), (.object "java/lang/String")], returnType := none }, accessFlags := 1, code := some k10c0 }
def k10c1 : Code := { maxStack := 4, maxLocals := 1, code := prog_40_method_3_code, exceptionTable := #[], attributes := #[] }
def k10m1 : Method := { name := "project", desc := "(Ljava/lang/String;)Lcom/example/visad/visad/identity/Scope;", sig := { parameters := [(.object "java/lang/String")], returnType := some (.object "com/example/visad/visad/identity/Scope") }, accessFlags := 9, code := some k10c1 }
def k10c2 : Code := { maxStack := 1, maxLocals := 1, code := prog_40_method_7_code, exceptionTable := #[], attributes := #[] }
def k10m2 : Method := { name := "kind", desc := "()Lcom/example/visad/visad/identity/Scope$Kind;", sig := { parameters := [], returnType := some (.object "com/example/visad/visad/identity/Scope$Kind") }, accessFlags := 1, code := some k10c2 }
def k10c3 : Code := { maxStack := 1, maxLocals := 1, code := prog_40_method_8_code, exceptionTable := #[], attributes := #[] }
def k10m3 : Method := { name := "id", desc := "()Ljava/lang/String;", sig := { parameters := [], returnType := some (.object "java/lang/String") }, accessFlags := 1, code := some k10c3 }
/-- com/example/visad/visad/identity/Scope -/
def k10 : Class := { plain "com/example/visad/visad/identity/Scope" (some 9) with
  accessFlags := 49
  interfaces := #[]
  cf := some (fileOf pool10 8 #[.nestMembers #[18]] #[{ accessFlags := 1, nameIndex := 5, descriptorIndex := 24, attributes := #[] }, { accessFlags := 9, nameIndex := 45, descriptorIndex := 44, attributes := #[] }, { accessFlags := 1, nameIndex := 11, descriptorIndex := 49, attributes := #[] }, { accessFlags := 1, nameIndex := 15, descriptorIndex := 46, attributes := #[] }] 49 2 #[] #[{ accessFlags := 18, nameIndex := 11, descriptorIndex := 12, attributes := #[] }, { accessFlags := 18, nameIndex := 15, descriptorIndex := 16, attributes := #[] }])
  fields := #[{ name := "kind", type := (.object "com/example/visad/visad/identity/Scope$Kind"), accessFlags := 18, slot := 0, constantValue := 0 }, { name := "id", type := (.object "java/lang/String"), accessFlags := 18, slot := 1, constantValue := 0 }]
  methods := #[k10m0, k10m1, k10m2, k10m3]
  instanceTypes := #[(.object "com/example/visad/visad/identity/Scope$Kind"), (.object "java/lang/String")]
  staticTypes := #[]
  resolved := Array.replicate 73 none
  statics := none }

def pool11 : Array CpInfo := pool [(2, .class_ 4), (1, u "java/lang/Enum"), (0, u "name"), (0, u "Ljava/lang/String;"), (2, u "ordinal"), (0, u "I"), (1, .class_ 14), (1, u "java/lang/Object"), (4, u "hash"), (86, .class_ 108), (1, u "java/lang/Enum$EnumDesc"), (2, .class_ 112), (0, u "java/lang/constant/Constable"), (0, .class_ 114), (0, u "java/lang/Comparable"), (0, .class_ 116), (0, u "java/io/Serializable")] 87

/-- java/lang/Enum -/
def k11 : Class := { plain "java/lang/Enum" (some 0) with
  accessFlags := 1057
  interfaces := #[5, 3, 2]
  cf := some (fileOf pool11 2 #[.nestMembers #[106]] #[] 1057 12 #[111, 113, 115] #[{ accessFlags := 18, nameIndex := 5, descriptorIndex := 6, attributes := #[] }, { accessFlags := 18, nameIndex := 9, descriptorIndex := 10, attributes := #[] }, { accessFlags := 2, nameIndex := 19, descriptorIndex := 10, attributes := #[] }])
  fields := #[{ name := "name", type := (.object "java/lang/String"), accessFlags := 18, slot := 0, constantValue := 0 }, { name := "ordinal", type := .int, accessFlags := 18, slot := 1, constantValue := 0 }, { name := "hash", type := .int, accessFlags := 2, slot := 2, constantValue := 0 }]
  methods := #[]
  instanceTypes := #[(.object "java/lang/String"), .int, .int]
  staticTypes := #[]
  resolved := Array.replicate 204 none
  statics := none }

def pool12 : Array CpInfo := pool [(1, .class_ 2), (0, u "com/example/visad/visad/identity/Scope$Kind"), (2, u "DOMAIN"), (0, u "Lcom/example/visad/visad/identity/Scope$Kind;"), (2, u "PROJECT"), (2, u "$VALUES"), (0, u "[Lcom/example/visad/visad/identity/Scope$Kind;"), (6, .class_ 22), (1, u "java/lang/Enum"), (25, .class_ 49), (0, u "com/example/visad/visad/identity/Scope")] 2

/-- com/example/visad/visad/identity/Scope$Kind -/
def k12 : Class := { plain "com/example/visad/visad/identity/Scope$Kind" (some 11) with
  accessFlags := 16433
  interfaces := #[]
  cf := some (fileOf pool12 1 #[.nestHost 48] #[] 16433 20 #[] #[{ accessFlags := 16409, nameIndex := 5, descriptorIndex := 6, attributes := #[] }, { accessFlags := 16409, nameIndex := 9, descriptorIndex := 6, attributes := #[] }, { accessFlags := 4122, nameIndex := 12, descriptorIndex := 13, attributes := #[] }])
  fields := #[{ name := "DOMAIN", type := (.object "com/example/visad/visad/identity/Scope$Kind"), accessFlags := 16409, slot := 0, constantValue := 0 }, { name := "PROJECT", type := (.object "com/example/visad/visad/identity/Scope$Kind"), accessFlags := 16409, slot := 1, constantValue := 0 }, { name := "$VALUES", type := (.array (.object "com/example/visad/visad/identity/Scope$Kind")), accessFlags := 4122, slot := 2, constantValue := 0 }]
  methods := #[]
  instanceTypes := #[(.object "java/lang/String"), .int, .int]
  staticTypes := #[(.object "com/example/visad/visad/identity/Scope$Kind"), (.object "com/example/visad/visad/identity/Scope$Kind"), (.array (.object "com/example/visad/visad/identity/Scope$Kind"))]
  resolved := Array.replicate 52 none
  statics := some 1 }

def pool13 : Array CpInfo := pool [(4, .class_ 6), (1, u "java/lang/Object"), (0, u "<init>"), (0, u "()V"), (5, .class_ 16), (1, u "java/lang/StringLatin1"), (104, u "$assertionsDisabled"), (0, u "Z"), (98, .class_ 223), (1, u "java/lang/StringLatin1$LinesSpliterator"), (166, .class_ 391), (0, u "java/lang/StringLatin1$CharsSpliterator")] 3

def k13m0 : Method := { name := "<init>", desc := "()V", sig := { parameters := [], returnType := none }, accessFlags := 0, code := none }
/-- java/lang/StringLatin1 -/
def k13 : Class := { plain "java/lang/StringLatin1" (some 0) with
  accessFlags := 48
  interfaces := #[]
  cf := some (fileOf pool13 14 #[.nestMembers #[390, 221]] #[{ accessFlags := 0, nameIndex := 7, descriptorIndex := 8, attributes := #[] }] 48 4 #[] #[{ accessFlags := 4120, nameIndex := 121, descriptorIndex := 122, attributes := #[] }])
  fields := #[{ name := "$assertionsDisabled", type := .boolean, accessFlags := 4120, slot := 0, constantValue := 0 }]
  methods := #[k13m0]
  instanceTypes := #[]
  staticTypes := #[.boolean]
  resolved := Array.replicate 395 none
  statics := none }

def pool14 : Array CpInfo := pool [(2, .class_ 4), (1, u "java/lang/Object"), (0, u "<init>"), (0, u "()V"), (17, .class_ 26), (1, u "jdk/internal/util/Preconditions"), (28, .class_ 56), (0, u "jdk/internal/util/Preconditions$4"), (57, .class_ 115), (0, u "jdk/internal/util/Preconditions$1"), (7, u "SIOOBE_FORMATTER"), (0, u "Ljava/util/function/BiFunction;"), (0, .class_ 126), (0, u "jdk/internal/util/Preconditions$2"), (3, u "AIOOBE_FORMATTER"), (0, .class_ 132), (0, u "jdk/internal/util/Preconditions$3"), (3, u "IOOBE_FORMATTER")] 57

def k14m0 : Method := { name := "<init>", desc := "()V", sig := { parameters := [], returnType := none }, accessFlags := 1, code := none }
/-- jdk/internal/util/Preconditions -/
def k14 : Class := { plain "jdk/internal/util/Preconditions" (some 0) with
  accessFlags := 33
  interfaces := #[]
  cf := some (fileOf pool14 24 #[.nestMembers #[55, 131, 125, 114]] #[{ accessFlags := 1, nameIndex := 5, descriptorIndex := 6, attributes := #[] }] 33 2 #[] #[{ accessFlags := 25, nameIndex := 123, descriptorIndex := 124, attributes := #[] }, { accessFlags := 25, nameIndex := 130, descriptorIndex := 124, attributes := #[] }, { accessFlags := 25, nameIndex := 136, descriptorIndex := 124, attributes := #[] }])
  fields := #[{ name := "SIOOBE_FORMATTER", type := (.object "java/util/function/BiFunction"), accessFlags := 25, slot := 0, constantValue := 0 }, { name := "AIOOBE_FORMATTER", type := (.object "java/util/function/BiFunction"), accessFlags := 25, slot := 1, constantValue := 0 }, { name := "IOOBE_FORMATTER", type := (.object "java/util/function/BiFunction"), accessFlags := 25, slot := 2, constantValue := 0 }]
  methods := #[k14m0]
  instanceTypes := #[]
  staticTypes := #[(.object "java/util/function/BiFunction"), (.object "java/util/function/BiFunction"), (.object "java/util/function/BiFunction")]
  resolved := Array.replicate 194 none
  statics := some 2 }

def pool15 : Array CpInfo := pool [(9, u "<init>"), (6, .class_ 18), (1, u "java/lang/Object"), (0, u "()V"), (1, .class_ 23), (1, u "jdk/internal/util/ArraysSupport"), (0, u "LOG2_ARRAY_LONG_INDEX_SCALE"), (0, u "I"), (2, u "U"), (0, u "Ljdk/internal/misc/Unsafe;"), (8, u "BIG_ENDIAN"), (0, u "Z"), (8, u "LOG2_BYTE_BIT_SIZE"), (4, u "LOG2_ARRAY_INT_INDEX_SCALE"), (54, u "JLA"), (0, u "Ljdk/internal/access/JavaLangAccess;"), (11, u "LOG2_ARRAY_BOOLEAN_INDEX_SCALE"), (9, u "LOG2_ARRAY_BYTE_INDEX_SCALE"), (5, u "LOG2_ARRAY_CHAR_INDEX_SCALE"), (5, u "LOG2_ARRAY_SHORT_INDEX_SCALE"), (18, u "LOG2_ARRAY_FLOAT_INDEX_SCALE"), (24, u "LOG2_ARRAY_DOUBLE_INDEX_SCALE"), (89, u "T_BOOLEAN"), (2, u "T_CHAR"), (1, u "T_FLOAT"), (1, u "T_DOUBLE"), (1, u "T_BYTE"), (1, u "T_SHORT"), (1, u "T_INT"), (1, u "T_LONG"), (1, u "SOFT_MAX_ARRAY_LENGTH")] 83

def k15m0 : Method := { name := "<init>", desc := "()V", sig := { parameters := [], returnType := none }, accessFlags := 2, code := none }
/-- jdk/internal/util/ArraysSupport -/
def k15 : Class := { plain "jdk/internal/util/ArraysSupport" (some 0) with
  accessFlags := 33
  interfaces := #[]
  cf := some (fileOf pool15 21 #[] #[{ accessFlags := 2, nameIndex := 9, descriptorIndex := 19, attributes := #[] }] 33 16 #[] #[{ accessFlags := 24, nameIndex := 28, descriptorIndex := 29, attributes := #[] }, { accessFlags := 26, nameIndex := 38, descriptorIndex := 39, attributes := #[] }, { accessFlags := 25, nameIndex := 121, descriptorIndex := 25, attributes := #[] }, { accessFlags := 25, nameIndex := 131, descriptorIndex := 25, attributes := #[] }, { accessFlags := 25, nameIndex := 137, descriptorIndex := 25, attributes := #[] }, { accessFlags := 25, nameIndex := 143, descriptorIndex := 25, attributes := #[] }, { accessFlags := 25, nameIndex := 53, descriptorIndex := 25, attributes := #[] }, { accessFlags := 25, nameIndex := 24, descriptorIndex := 25, attributes := #[] }, { accessFlags := 25, nameIndex := 162, descriptorIndex := 25, attributes := #[] }, { accessFlags := 25, nameIndex := 187, descriptorIndex := 25, attributes := #[] }, { accessFlags := 26, nameIndex := 48, descriptorIndex := 25, attributes := #[] }, { accessFlags := 25, nameIndex := 277, descriptorIndex := 25, attributes := #[] }, { accessFlags := 25, nameIndex := 280, descriptorIndex := 25, attributes := #[] }, { accessFlags := 25, nameIndex := 282, descriptorIndex := 25, attributes := #[] }, { accessFlags := 25, nameIndex := 284, descriptorIndex := 25, attributes := #[] }, { accessFlags := 25, nameIndex := 286, descriptorIndex := 25, attributes := #[] }, { accessFlags := 25, nameIndex := 288, descriptorIndex := 25, attributes := #[] }, { accessFlags := 25, nameIndex := 290, descriptorIndex := 25, attributes := #[] }, { accessFlags := 25, nameIndex := 292, descriptorIndex := 25, attributes := #[] }, { accessFlags := 26, nameIndex := 108, descriptorIndex := 109, attributes := #[] }, { accessFlags := 25, nameIndex := 294, descriptorIndex := 25, attributes := #[] }])
  fields := #[{ name := "U", type := (.object "jdk/internal/misc/Unsafe"), accessFlags := 24, slot := 0, constantValue := 0 }, { name := "BIG_ENDIAN", type := .boolean, accessFlags := 26, slot := 1, constantValue := 0 }, { name := "LOG2_ARRAY_BOOLEAN_INDEX_SCALE", type := .int, accessFlags := 25, slot := 2, constantValue := 0 }, { name := "LOG2_ARRAY_BYTE_INDEX_SCALE", type := .int, accessFlags := 25, slot := 3, constantValue := 0 }, { name := "LOG2_ARRAY_CHAR_INDEX_SCALE", type := .int, accessFlags := 25, slot := 4, constantValue := 0 }, { name := "LOG2_ARRAY_SHORT_INDEX_SCALE", type := .int, accessFlags := 25, slot := 5, constantValue := 0 }, { name := "LOG2_ARRAY_INT_INDEX_SCALE", type := .int, accessFlags := 25, slot := 6, constantValue := 0 }, { name := "LOG2_ARRAY_LONG_INDEX_SCALE", type := .int, accessFlags := 25, slot := 7, constantValue := 0 }, { name := "LOG2_ARRAY_FLOAT_INDEX_SCALE", type := .int, accessFlags := 25, slot := 8, constantValue := 0 }, { name := "LOG2_ARRAY_DOUBLE_INDEX_SCALE", type := .int, accessFlags := 25, slot := 9, constantValue := 0 }, { name := "LOG2_BYTE_BIT_SIZE", type := .int, accessFlags := 26, slot := 10, constantValue := 0 }, { name := "T_BOOLEAN", type := .int, accessFlags := 25, slot := 11, constantValue := 0 }, { name := "T_CHAR", type := .int, accessFlags := 25, slot := 12, constantValue := 0 }, { name := "T_FLOAT", type := .int, accessFlags := 25, slot := 13, constantValue := 0 }, { name := "T_DOUBLE", type := .int, accessFlags := 25, slot := 14, constantValue := 0 }, { name := "T_BYTE", type := .int, accessFlags := 25, slot := 15, constantValue := 0 }, { name := "T_SHORT", type := .int, accessFlags := 25, slot := 16, constantValue := 0 }, { name := "T_INT", type := .int, accessFlags := 25, slot := 17, constantValue := 0 }, { name := "T_LONG", type := .int, accessFlags := 25, slot := 18, constantValue := 0 }, { name := "JLA", type := (.object "jdk/internal/access/JavaLangAccess"), accessFlags := 26, slot := 19, constantValue := 0 }, { name := "SOFT_MAX_ARRAY_LENGTH", type := .int, accessFlags := 25, slot := 20, constantValue := 0 }]
  methods := #[k15m0]
  instanceTypes := #[]
  staticTypes := #[(.object "jdk/internal/misc/Unsafe"), .boolean, .int, .int, .int, .int, .int, .int, .int, .int, .int, .int, .int, .int, .int, .int, .int, .int, .int, (.object "jdk/internal/access/JavaLangAccess"), .int]
  resolved := Array.replicate 378 none
  statics := none }

def pool16 : Array CpInfo := pool [(1, u "java/lang/Cloneable"), (0, .class_ 1), (0, u "java/lang/Object"), (0, .class_ 3)] 3

/-- java/lang/Cloneable -/
def k16 : Class := { plain "java/lang/Cloneable" (some 0) with
  accessFlags := 1537
  interfaces := #[]
  cf := some (fileOf pool16 2 #[] #[] 1537 4 #[] #[])
  fields := #[]
  methods := #[]
  instanceTypes := #[]
  staticTypes := #[]
  resolved := Array.replicate 8 none
  statics := none }

/-- the primitive byte -/
def k17 : Class := { plain "byte" none with kind := .primitive 'B', accessFlags := 0x411 }
/-- [B -/
def k18 : Class := { plain "[B" (some 0) with kind := .array 17 .byte, interfaces := #[16, 2], accessFlags := 1041 }

/-- the primitive char -/
def k19 : Class := { plain "char" none with kind := .primitive 'C', accessFlags := 0x411 }
/-- [C -/
def k20 : Class := { plain "[C" (some 0) with kind := .array 19 .char, interfaces := #[16, 2], accessFlags := 1041 }

/-- the primitive int -/
def k21 : Class := { plain "int" none with kind := .primitive 'I', accessFlags := 0x411 }
/-- [I -/
def k22 : Class := { plain "[I" (some 0) with kind := .array 21 .int, interfaces := #[16, 2], accessFlags := 1041 }

def heap : Heap := #[{ cls := 7, slots := #[.long 0, .int 1, .null, .int 0, .null, .int 0, .int 0], vm := .statics 7 },
  { cls := 12, slots := #[.ref 4, .ref 3, .null], vm := .statics 12 },
  { cls := 14, slots := #[.null, .null, .null], vm := .statics 14 },
  { cls := 12, slots := #[.null, .int 1, .int 0], vm := .none },
  { cls := 12, slots := #[.null, .int 0, .int 0], vm := .none }]
def classes : Array Class := #[k0, k1, k2, k3, k4, k5, k6, k7, k8, k9, k10, k11, k12, k13, k14, k15, k16, k17, k18, k19, k20, k21, k22]
def interned : List (Array UInt16 × Addr) := []
def slotsUsed : Nat := 19
def theMethod : MethodId := ⟨1, 1⟩
def args0 : Array Value := #[.int 5, .int 6, .int 7, .int 1]
def aboutOver (below : List Frame) : State where
  vm := { classes := classes, interned := interned.toArray }
  heap := heap
  slotsUsed := slotsUsed
  threads := #[{ frames := .invoking theMethod args0 :: below }]
def below0 : List Frame := [.native { method := ⟨0, 0⟩, args := #[] }]
def about1 : State := aboutOver below0
def p0 : Program := .bare "" "" ""
def e0 : Env := launch0.env 0 0 0
theorem w_frames : about1.frames = Frame.invoking theMethod args0 :: below0 := rfl
set_option maxRecDepth 65536 in
theorem w_args : argsFit about1.vm theMethod args0 = true := by decide +kernel
set_option maxRecDepth 65536 in
theorem w_heap : heapFits about1 = true := by decide +kernel
set_option maxRecDepth 65536 in
theorem w_runnable : about1.curStatus? = some .runnable := by decide +kernel
set_option maxRecDepth 65536 in
theorem w_alone : about1.alone = true := by decide +kernel
set_option maxRecDepth 65536 in
theorem w_named : about1.methodNamed? x = some theMethod := by decide +kernel
set_option maxRecDepth 65536 in
theorem w_hears : about1.hears theMethod below0 = true := by decide +kernel
set_option maxRecDepth 65536 in
theorem w_ripe : about1.ripe theMethod args0 below0 = true := by decide +kernel
theorem w_running : about1.status = .running := rfl
set_option maxRecDepth 65536 in
theorem w_room : about1.hasRoom e0.platform room_1 = true :=
  launch0.hasRoom_least _ room_1 (by decide +kernel) (by decide +kernel) (by decide +kernel) (by decide +kernel) (by decide +kernel) (by decide +kernel)
theorem allAtoms_all (ts : List Jvm.Cond) (a : Array Jvm.Value) (st : Jvm.State) : (allAtoms ts).before a st = ts.all (fun c => c.before a st) := by
  induction ts with
  | nil => rfl
  | cons c t ih =>
    show (Jvm.Cond.and c (allAtoms t)).before a st = _
    rw [Jvm.Cond.before_and, ih, List.all_cons]
def words1 : List Jvm.Cond := Jvm.Cond.code x code maxLocals ret :: tables_1
/-- a 'code' word, met by the world's own term for the bytes: nothing is compared byte by byte -/
theorem code_word {y : MethodName} {bytes : ByteArray} {mx : Nat} {rt : Option FieldType} {a : Array Value} {s : State} {m : MethodId} {meth : Method} {c : Code} (h1 : s.methodNamed? y = some m) (h2 : s.vm.method? m = some meth) (h3 : meth.code = some c) (h4 : c.code = bytes)
    (h5 : (c.maxLocals == mx && c.exceptionTable.isEmpty && decide (c.maxStack ≤ mostOperands) && decide (meth.sig.returnType = rt) && !meth.locks && decide (parseMethodDescriptor y.desc = some meth.sig)) = true) : (Jvm.Cond.code y bytes mx rt).before a s = true := by
  simp only [Bool.and_eq_true, beq_iff_eq, Bool.not_eq_true', decide_eq_true_eq] at h5
  obtain ⟨⟨⟨⟨⟨g1, g2⟩, g3⟩, g4⟩, g5⟩, g6⟩ := h5
  simp [Cond.before, Cond.holds, Cond.value, h1, h2, h3, h4, g1, g2, g3, g4, g5, g6]
def isCode : Jvm.Cond → Bool
  | .code _ _ _ _ => true
  | _ => false
theorem all_split {L : List Jvm.Cond} {P : Jvm.Cond → Bool} (h1 : L.all (fun c => isCode c || P c) = true) (h2 : ∀ c ∈ L.filter isCode, P c = true) : L.all P = true := by
  refine List.all_eq_true.mpr fun c hc => ?_
  have h := List.all_eq_true.mp h1 c hc
  rcases Bool.eq_false_or_eq_true (isCode c) with hi | hi
  · exact h2 c (List.mem_filter.mpr ⟨hc, hi⟩)
  · simpa [hi] using h
set_option maxRecDepth 65536 in
theorem w_c0 : (Jvm.Cond.code x code maxLocals ret).before args0 about1 = true := code_word (m := ⟨1, 1⟩) (meth := k1m1) (c := k1c1) (by decide +kernel) rfl rfl rfl (by decide +kernel)
set_option maxRecDepth 65536 in
theorem w_c1 : (Jvm.Cond.code ({ cls := "java/lang/String", name := "<init>", desc := "([C)V" } : Jvm.MethodName) jdk_42_method_3_code (2 : Nat) (Option.none : Option Jvm.ClassFile.FieldType)).before args0 about1 = true := code_word (m := ⟨7, 1⟩) (meth := k7m1) (c := k7c1) (by decide +kernel) rfl rfl rfl (by decide +kernel)
set_option maxRecDepth 65536 in
theorem w_c2 : (Jvm.Cond.code ({ cls := "java/lang/String", name := "<init>", desc := "([CIILjava/lang/Void;)V" } : Jvm.MethodName) jdk_42_method_149_code (6 : Nat) (Option.none : Option Jvm.ClassFile.FieldType)).before args0 about1 = true := code_word (m := ⟨7, 2⟩) (meth := k7m2) (c := k7c2) (by decide +kernel) rfl rfl rfl (by decide +kernel)
set_option maxRecDepth 65536 in
theorem w_c3 : (Jvm.Cond.code ({ cls := "java/lang/Object", name := "<init>", desc := "()V" } : Jvm.MethodName) object_method_1_code (1 : Nat) (Option.none : Option Jvm.ClassFile.FieldType)).before args0 about1 = true := code_word (m := ⟨0, 0⟩) (meth := k0m0) (c := k0c0) (by decide +kernel) rfl rfl rfl (by decide +kernel)
set_option maxRecDepth 65536 in
theorem w_c4 : (Jvm.Cond.code ({ cls := "java/lang/StringUTF16", name := "compress", desc := "([CII)[B" } : Jvm.MethodName) jdk_52_method_16_code (6 : Nat) (Option.some (Jvm.ClassFile.FieldType.array Jvm.ClassFile.FieldType.byte))).before args0 about1 = true := code_word (m := ⟨8, 2⟩) (meth := k8m2) (c := k8c2) (by decide +kernel) rfl rfl rfl (by decide +kernel)
set_option maxRecDepth 65536 in
theorem w_c5 : (Jvm.Cond.code ({ cls := "java/lang/StringUTF16", name := "compress", desc := "([CI[BII)I" } : Jvm.MethodName) jdk_52_method_21_code (7 : Nat) (Option.some Jvm.ClassFile.FieldType.int)).before args0 about1 = true := code_word (m := ⟨8, 3⟩) (meth := k8m3) (c := k8c3) (by decide +kernel) rfl rfl rfl (by decide +kernel)
set_option maxRecDepth 65536 in
theorem w_c6 : (Jvm.Cond.code ({ cls := "java/lang/StringUTF16", name := "coderFromArrayLen", desc := "([BI)B" } : Jvm.MethodName) jdk_52_method_15_code (2 : Nat) (Option.some Jvm.ClassFile.FieldType.byte)).before args0 about1 = true := code_word (m := ⟨8, 1⟩) (meth := k8m1) (c := k8c1) (by decide +kernel) rfl rfl rfl (by decide +kernel)
set_option maxRecDepth 65536 in
theorem w_c7 : (Jvm.Cond.code ({ cls := "com/example/visad/visad/identity/Scope", name := "project", desc := "(Ljava/lang/String;)Lcom/example/visad/visad/identity/Scope;" } : Jvm.MethodName) prog_40_method_3_code (1 : Nat) (Option.some (Jvm.ClassFile.FieldType.object "com/example/visad/visad/identity/Scope"))).before args0 about1 = true := code_word (m := ⟨10, 1⟩) (meth := k10m1) (c := k10c1) (by decide +kernel) rfl rfl rfl (by decide +kernel)
set_option maxRecDepth 65536 in
theorem w_c8 : (Jvm.Cond.code ({ cls := "com/example/visad/visad/identity/Scope", name := "<init>", desc := "(Lcom/example/visad/visad/identity/Scope$Kind;Ljava/lang/String;)V" } : Jvm.MethodName) prog_40_method_1_code (3 : Nat) (Option.none : Option Jvm.ClassFile.FieldType)).before args0 about1 = true := code_word (m := ⟨10, 0⟩) (meth := k10m0) (c := k10c0) (by decide +kernel) rfl rfl rfl (by decide +kernel)
set_option maxRecDepth 65536 in
theorem w_c9 : (Jvm.Cond.code ({ cls := "java/lang/Record", name := "<init>", desc := "()V" } : Jvm.MethodName) jdk_30_method_1_code (1 : Nat) (Option.none : Option Jvm.ClassFile.FieldType)).before args0 about1 = true := code_word (m := ⟨9, 0⟩) (meth := k9m0) (c := k9c0) (by decide +kernel) rfl rfl rfl (by decide +kernel)
set_option maxRecDepth 65536 in
theorem w_c10 : (Jvm.Cond.code ({ cls := "com/example/visad/visad/identity/Scope", name := "kind", desc := "()Lcom/example/visad/visad/identity/Scope$Kind;" } : Jvm.MethodName) prog_40_method_7_code (1 : Nat) (Option.some (Jvm.ClassFile.FieldType.object "com/example/visad/visad/identity/Scope$Kind"))).before args0 about1 = true := code_word (m := ⟨10, 2⟩) (meth := k10m2) (c := k10c2) (by decide +kernel) rfl rfl rfl (by decide +kernel)
set_option maxRecDepth 65536 in
theorem w_c11 : (Jvm.Cond.code ({ cls := "com/example/visad/visad/identity/Scope", name := "id", desc := "()Ljava/lang/String;" } : Jvm.MethodName) prog_40_method_8_code (1 : Nat) (Option.some (Jvm.ClassFile.FieldType.object "java/lang/String"))).before args0 about1 = true := code_word (m := ⟨10, 3⟩) (meth := k10m3) (c := k10c3) (by decide +kernel) rfl rfl rfl (by decide +kernel)
def codes1 : List Jvm.Cond := [Jvm.Cond.code x code maxLocals ret, Jvm.Cond.code ({ cls := "java/lang/String", name := "<init>", desc := "([C)V" } : Jvm.MethodName) jdk_42_method_3_code (2 : Nat) (Option.none : Option Jvm.ClassFile.FieldType), Jvm.Cond.code ({ cls := "java/lang/String", name := "<init>", desc := "([CIILjava/lang/Void;)V" } : Jvm.MethodName) jdk_42_method_149_code (6 : Nat) (Option.none : Option Jvm.ClassFile.FieldType), Jvm.Cond.code ({ cls := "java/lang/Object", name := "<init>", desc := "()V" } : Jvm.MethodName) object_method_1_code (1 : Nat) (Option.none : Option Jvm.ClassFile.FieldType), Jvm.Cond.code ({ cls := "java/lang/StringUTF16", name := "compress", desc := "([CII)[B" } : Jvm.MethodName) jdk_52_method_16_code (6 : Nat) (Option.some (Jvm.ClassFile.FieldType.array Jvm.ClassFile.FieldType.byte)), Jvm.Cond.code ({ cls := "java/lang/StringUTF16", name := "compress", desc := "([CI[BII)I" } : Jvm.MethodName) jdk_52_method_21_code (7 : Nat) (Option.some Jvm.ClassFile.FieldType.int), Jvm.Cond.code ({ cls := "java/lang/StringUTF16", name := "coderFromArrayLen", desc := "([BI)B" } : Jvm.MethodName) jdk_52_method_15_code (2 : Nat) (Option.some Jvm.ClassFile.FieldType.byte), Jvm.Cond.code ({ cls := "com/example/visad/visad/identity/Scope", name := "project", desc := "(Ljava/lang/String;)Lcom/example/visad/visad/identity/Scope;" } : Jvm.MethodName) prog_40_method_3_code (1 : Nat) (Option.some (Jvm.ClassFile.FieldType.object "com/example/visad/visad/identity/Scope")), Jvm.Cond.code ({ cls := "com/example/visad/visad/identity/Scope", name := "<init>", desc := "(Lcom/example/visad/visad/identity/Scope$Kind;Ljava/lang/String;)V" } : Jvm.MethodName) prog_40_method_1_code (3 : Nat) (Option.none : Option Jvm.ClassFile.FieldType), Jvm.Cond.code ({ cls := "java/lang/Record", name := "<init>", desc := "()V" } : Jvm.MethodName) jdk_30_method_1_code (1 : Nat) (Option.none : Option Jvm.ClassFile.FieldType), Jvm.Cond.code ({ cls := "com/example/visad/visad/identity/Scope", name := "kind", desc := "()Lcom/example/visad/visad/identity/Scope$Kind;" } : Jvm.MethodName) prog_40_method_7_code (1 : Nat) (Option.some (Jvm.ClassFile.FieldType.object "com/example/visad/visad/identity/Scope$Kind")), Jvm.Cond.code ({ cls := "com/example/visad/visad/identity/Scope", name := "id", desc := "()Ljava/lang/String;" } : Jvm.MethodName) prog_40_method_8_code (1 : Nat) (Option.some (Jvm.ClassFile.FieldType.object "java/lang/String"))]
set_option maxRecDepth 65536 in
theorem codes_eq : words1.filter isCode = codes1 := rfl
theorem w_codes : ∀ c ∈ words1.filter isCode, c.before args0 about1 = true := by
  rw [codes_eq]
  intro c hc
  simp only [codes1, List.mem_cons, List.not_mem_nil, or_false] at hc
  rcases hc with rfl | rfl | rfl | rfl | rfl | rfl | rfl | rfl | rfl | rfl | rfl | rfl
  · exact w_c0
  · exact w_c1
  · exact w_c2
  · exact w_c3
  · exact w_c4
  · exact w_c5
  · exact w_c6
  · exact w_c7
  · exact w_c8
  · exact w_c9
  · exact w_c10
  · exact w_c11
set_option maxRecDepth 65536 in
theorem w_t1 : (words1.take 24).all (fun c => isCode c || c.before args0 about1) = true := by decide +kernel
set_option maxRecDepth 65536 in
theorem w_t2 : ((words1.drop 24).take 24).all (fun c => isCode c || c.before args0 about1) = true := by decide +kernel
set_option maxRecDepth 65536 in
theorem w_t3 : ((words1.drop 24).drop 24).all (fun c => isCode c || c.before args0 about1) = true := by decide +kernel
theorem w_tables : (allAtoms (Jvm.Cond.code x code maxLocals ret :: tables_1)).before args0 about1 = true := by
  rw [allAtoms_all]
  show words1.all (fun c => c.before args0 about1) = true
  refine all_split ?_ w_codes
  rw [← List.take_append_drop 24 words1, List.all_append, w_t1, ← List.take_append_drop 24 (words1.drop 24), List.all_append, w_t2, w_t3]
  rfl
set_option maxRecDepth 65536 in
theorem w_rest : rest_1_c.before args0 about1 = true := by decide +kernel
set_option maxRecDepth 65536 in
theorem w_case : (Jvm.Cond.and given_1 narrow_1).before args0 about1 = true := by decide +kernel
set_option maxRecDepth 65536 in
theorem w_consts : constsHeld consts_1 about1 := Jvm.Lit.constsHeldB_iff.mp (by decide +kernel)
theorem w_applies : (headSpec (Jvm.Cond.code x code maxLocals ret :: tables_1) room_1).applies x e0.platform about1 = true :=
  (Spec.applies_iff w_frames).mpr ⟨w_running, w_runnable, w_alone, w_named, w_hears, w_ripe, w_room, w_tables⟩
theorem atStart : AtStart classFile x code maxLocals ret World_1 tables_1 room_1 Calls_1 rest_1 Pre_1 launch0 p0 e0 about1 theMethod args0 below0 :=
  ⟨lists_1, trivial, launch0.admits_env _ _ _, launch0.least_env, fairChoices_fair.cas, fairChoices_fair.clock, w_frames, w_args, w_heap, w_applies, ⟨w_consts, trivial⟩, w_rest, w_case⟩
end start1
theorem witness_1 : WitnessClaimed_1 := ⟨start1.p0, start1.e0, start1.about1, start1.theMethod, start1.args0, start1.below0, start1.atStart⟩
end Jvm.Pilot.@@N@@
