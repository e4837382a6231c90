import JvmDerived
import JvmDerived.Pilot.@@N@@Statement
import JvmDerived.Pilot.@@N@@Code
set_option linter.unusedVariables false
set_option linter.unusedSimpArgs false
namespace Jvm.OwnW
open Sem ClassFile Op Lib Jvm.Stand Jvm.Free Jvm.LawKit Jvm.RoadKit
section A
variable {p : Program} {l : Launch} {e : Env} {R : Room} {s : State} {m : MethodId} {args : Array Value} {below : List Frame} {meth : Method} {c : Code} {T : State} {locs : List Loc} {cells slots : Nat} {Z : State} {a0 : Array Value} {h : Heap}
/-- the walk standing at T with the frame g comes to an end that says Q; F: the frame's word on that end -/
def Wp (p : Program) (e : Env) (below : List Frame) (Q : Option Value → State → List Loc → Prop) (F : Outcome → State → List Loc → Prop) (T : State) (g : JFrame) : Prop :=
  ∃ (t : State) (v : Option Value) (L : List Loc), Steps p.tables e below (T.setTop g) t ∧ t.status = .running ∧ Ended t below (.returned v) ∧ Q v t L ∧ F (.returned v) t L
variable {Q : Option Value → State → List Loc → Prop} {F : Outcome → State → List Loc → Prop}
theorem Wp.st {T' : State} {g g' : JFrame} (h : ∀ target, Steps p.tables e below (T'.setTop g') target → Steps p.tables e below (T.setTop g) target) (k : Wp p e below Q F T' g') : Wp p e below Q F T g := by
  obtain ⟨t, v, L, h1, h2⟩ := k
  exact ⟨t, v, L, h _ h1, h2⟩
theorem Wp.tr {T' : State} {g g' : JFrame} (h : Steps p.tables e below (T.setTop g) (T'.setTop g')) (k : Wp p e below Q F T' g') : Wp p e below Q F T g := Wp.st (fun _ q => h.trans q) k
abbrev NF (s : State) (C S : Nat) : Outcome → State → List Loc → Prop := fun o t L => FrameEnd s o t L C S
abbrev WF (s : State) (C S : Nat) : Outcome → State → List Loc → Prop := fun o t L => ReturnedEndW s o t L C S
/-- a body's contract: narrow -/
abbrev Ctr (l : Launch) (Z : State) (y : MethodName) (bytes : ByteArray) (maxL : Nat) (ret : Option FieldType) (ws : List Jvm.Cond) (rm : Room) (as' : Array Value) (h0 : Heap) (Q : Option Value → Heap → List Loc → Prop) : Prop :=
  MetFree l y (head1 (Jvm.Cond.code y bytes maxL ret :: ws) rm) (fun a U => a = as' ∧ Z.Warmed39 U.vm ∧ U.heap = h0) (fun _ _ _ _ _ => True) (fun _ U o U' => ∃ v L, o = .returned v ∧ Q v U'.heap L ∧ FrameEnd U o U' L rm.cells rm.slots)
theorem Ctr.intro {y : MethodName} {bytes : ByteArray} {maxL : Nat} {ret : Option FieldType} {ws : List Jvm.Cond} {rm : Room} {as' : Array Value} {h0 : Heap} {Q : Option Value → Heap → List Loc → Prop} {Ls : MethodId → Array Slot} (hn : plainFor y = true) (hef : ∀ m, entryFrame m as' maxL = mkF m 0 (Ls m) [])
    (body : ∀ (p : Program) (e : Env) (s : State) (m : MethodId) (below : List Frame) (meth : Method) (c : Code) (s₁ : State), p.tables.exec = Jvm.exec → c.code = bytes → c.maxLocals = maxL → meth.sig.returnType = ret → meth.locks = false → Z.Warmed39 s.vm → s.vm.findClass y.cls = some m.cls → meth.name = y.name → s.heap = h0 → Stand p l e rm s m as' below meth c s₁ [] 0 0 → s₁.heap = h0 →
      Wp p e below (fun v t L => Q v t.heap L) (NF s rm.cells rm.slots) s₁ (mkF m 0 (Ls m) [])) : Ctr l Z y bytes maxL ret ws rm as' h0 Q := by
  refine MetFree.of_bodySF hn hisR ?_
  intro p e s m args below meth c s₁ Bd hml0 hP hK
  obtain ⟨rfl, hZ, hh⟩ := hP
  obtain ⟨t, v, L, h1, h2, h3, h4, h5⟩ := body p e s m below meth c s₁ Bd.exec Bd.bytes hml0 Bd.returns Bd.notSynchronized hZ (findClass_of_methodNamed Bd.named) (name_of_methodNamed Bd.named Bd.method).1 hh (Stand.of_body Bd) (by rw [← hh, Bd.state]; rfl)
  exact ⟨t, _, castTop (hef m) h1, h2, h3, v, L, rfl, h4, h5⟩
/-- what pays a call -/
abbrev Pay (l : Launch) (R : Room) (p : Program) (e : Env) (below : List Frame) (s : State) (args : Array Value) (y : MethodName) (len W : Nat) (as' : Array Value) (h : Heap) (kc ks : Nat) (Q : Option Value → Heap → List Loc → Prop) : Prop :=
  Back l R p e below s args y len W (fun A a => a = as' ∧ A.U.heap = h ∧ A.cells + kc ≤ R.cells ∧ A.slots + ks ≤ R.slots) (fun A _ v B => ∃ L, Q v B.U.heap L ∧ B.locs = A.locs ++ L ∧ B.cells = A.cells + kc ∧ B.slots = A.slots + ks)
theorem more (X : Stand p l e R s m args below meth c T locs cells slots) {cells' slots' : Nat} (h1 : cells ≤ cells') (h2 : slots ≤ slots') : Stand p l e R s m args below meth c T locs cells' slots' := X.more h1 h2
/-- a char; a Latin-1 char -/
def Chr (z : Int32) : Prop := ¬ z < 0 ∧ ¬ (65535 : Int32) < z
def Lat (z : Int32) : Prop := ¬ z < 0 ∧ ¬ (255 : Int32) < z
theorem Lat.chr {z : Int32} (h : Lat z) : Chr z := ⟨h.1, fun q => h.2 (by rw [Int32.lt_iff_toInt_lt] at q ⊢; have e1 : (65535 : Int32).toInt = 65535 := rfl; have e2 : (255 : Int32).toInt = 255 := rfl; omega)⟩
theorem toInt_of_toNat {z : Int32} (h : z.toBitVec.toNat < 2147483648) : z.toInt = (z.toBitVec.toNat : Int) := by
  show z.toBitVec.toInt = _
  rw [BitVec.toInt_eq_toNat_cond, if_pos (by omega)]
theorem toNat_of_toInt {z : Int32} (h : 0 ≤ z.toInt) : z.toInt = (z.toBitVec.toNat : Int) ∧ z.toBitVec.toNat < 2147483648 := by
  have hl := z.toBitVec.isLt
  change 0 ≤ z.toBitVec.toInt at h
  show z.toBitVec.toInt = _ ∧ _
  rw [BitVec.toInt_eq_toNat_cond] at h ⊢
  split at h <;> rename_i q
  · rw [if_pos q]; exact ⟨rfl, by omega⟩
  · omega
theorem mask_rng (x m : Int32) (h : 0 ≤ m.toInt) : 0 ≤ (x &&& m).toInt ∧ (x &&& m).toInt ≤ m.toInt := by
  obtain ⟨e, hm⟩ := toNat_of_toInt h
  have q : (x &&& m).toBitVec.toNat ≤ m.toBitVec.toNat := by
    rw [Int32.toBitVec_and, BitVec.toNat_and]; exact Nat.and_le_right
  rw [toInt_of_toNat (Nat.lt_of_le_of_lt q hm), e]
  omega
theorem i2c_toInt (x : Int32) : (x.toUInt32.toUInt16.toUInt32.toInt32).toInt = ((x.toBitVec.toNat % 65536 : Nat) : Int) := by
  have e : (x.toUInt32.toUInt16.toUInt32.toInt32).toBitVec = (x.toBitVec.setWidth 16).setWidth 32 := rfl
  have e2 : (x.toUInt32.toUInt16.toUInt32.toInt32).toBitVec.toNat = x.toBitVec.toNat % 65536 := by
    rw [e, BitVec.toNat_setWidth, BitVec.toNat_setWidth]; omega
  rw [toInt_of_toNat (by rw [e2]; omega), e2]
theorem chr_i2c {v x : Int32} (h : v = x.toUInt32.toUInt16.toUInt32.toInt32) : Chr v := by subst h; exact rng_char (fits_nar_char x)
theorem Chr.rng {z : Int32} (h : Chr z) : 0 ≤ z.toInt ∧ z.toInt ≤ 65535 := by
  obtain ⟨h1, h2⟩ := h
  rw [Int32.lt_iff_toInt_lt] at h1 h2
  have e1 : (65535 : Int32).toInt = 65535 := rfl
  have e2 : (0 : Int32).toInt = 0 := rfl
  omega
theorem Lat.rng {z : Int32} (h : Lat z) : 0 ≤ z.toInt ∧ z.toInt ≤ 255 := by
  obtain ⟨h1, h2⟩ := h
  rw [Int32.lt_iff_toInt_lt] at h1 h2
  have e1 : (255 : Int32).toInt = 255 := rfl
  have e2 : (0 : Int32).toInt = 0 := rfl
  omega
theorem Lat.of {z : Int32} (h : 0 ≤ z.toInt ∧ z.toInt ≤ 255) : Lat z := by
  constructor <;> rw [Int32.lt_iff_toInt_lt]
  · have e2 : (0 : Int32).toInt = 0 := rfl
    omega
  · have e1 : (255 : Int32).toInt = 255 := rfl
    omega
theorem Chr.of {z : Int32} (h : 0 ≤ z.toInt ∧ z.toInt ≤ 65535) : Chr z := by
  constructor <;> rw [Int32.lt_iff_toInt_lt]
  · have e2 : (0 : Int32).toInt = 0 := rfl
    omega
  · have e1 : (65535 : Int32).toInt = 65535 := rfl
    omega
theorem i2c_id {z : Int32} (h : Chr z) : z.toUInt32.toUInt16.toUInt32.toInt32 = z := by
  obtain ⟨h1, h2⟩ := h.rng
  obtain ⟨e, q⟩ := toNat_of_toInt h1
  apply Int32.toInt_inj.mp
  rw [i2c_toInt, e]
  omega
theorem narC {z : Int32} (h : Chr z) : nar .char z = z := i2c_id h
theorem lat255 {v x : Int32} (h : v = (x &&& 255).toUInt32.toUInt16.toUInt32.toInt32) : Lat v := by
  have r := mask_rng x 255 (by decide)
  have e1 : (255 : Int32).toInt = 255 := rfl
  rw [i2c_id (Chr.of (by omega))] at h
  subst h
  exact Lat.of (by omega)
theorem eq255 {v x : Int32} (h : v = (x &&& 255).toUInt32.toUInt16.toUInt32.toInt32) : v = x &&& 255 := by
  have r := mask_rng x 255 (by decide)
  have e1 : (255 : Int32).toInt = 255 := rfl
  rw [i2c_id (Chr.of (by omega))] at h
  exact h
theorem latNil : ∀ c ∈ ([] : List Int32), ¬ c < 0 ∧ ¬ (255 : Int32) < c := fun _ q => nomatch q
theorem latCons {x : Int32} {L : List Int32} (h : Lat x) (k : ∀ c ∈ L, ¬ c < 0 ∧ ¬ (255 : Int32) < c) : ∀ c ∈ x :: L, ¬ c < 0 ∧ ¬ (255 : Int32) < c := fun c hc => (List.mem_cons.mp hc).elim (fun e => e ▸ h) (k c)
theorem narR {t : FieldType} {w : Value} (ht : t.isReference = true) : narrow t w = w := by cases t <;> first | rfl | (cases ht; done)
/-- every place written lies in an object of ws or in a new cell -/
def Fk (n : Nat) (ws : List Addr) (L : List Loc) : Prop := ∀ y ∈ L, y.base ∈ ws ∨ n ≤ y.base
theorem Fk.nil (n : Nat) (ws : List Addr) : Fk n ws [] := fun _ q => nomatch q
theorem Fk.snoc {n : Nat} {ws : List Addr} {L : List Loc} {a : Addr} {i : Nat} (N : Fk n ws L) (q : a ∈ ws ∨ n ≤ a) : Fk n ws (L ++ [⟨a, i⟩]) := fun y hy => (List.mem_append.mp hy).elim (N y) fun z => by cases List.mem_singleton.mp z; exact q
theorem Fk.app {n n' : Nat} {ws ws' : List Addr} {L L' : List Loc} (N : Fk n ws L) (N' : Fk n' ws' L') (hn : n ≤ n') (q : ∀ x ∈ ws', x ∈ ws ∨ n ≤ x) : Fk n ws (L ++ L') := fun y hy => (List.mem_append.mp hy).elim (N y) fun z => (N' y z).elim (q _) fun r => Or.inr (Nat.le_trans hn r)
theorem Fk.of_fr {n : Nat} {ws : List Addr} {L : List Loc} (N : Fr n L) : Fk n ws L := fun y hy => Or.inr (N y hy)
theorem Fk.fr {n : Nat} {L : List Loc} (N : Fk n [] L) : Fr n L := fun y hy => (N y hy).elim (fun z => nomatch z) id
theorem fieldI {args : Array Value} {s : State} {t : Term} {z : Int32} (h : (Cond.eq t (.int z)).value args s none s [] = some true) : t.eval args s none [] s = some (.int z) := by
  have q := Cond.eq_int (Cond.before_iff.mpr h) rfl
  exact q
theorem keepMore {h h' : Heap} {ws ws' : List Addr} (K : Keep h h' ws) (q : ∀ x ∈ ws, x ∈ ws') : Keep h h' ws' := ⟨K.1, fun x c hx hn => K.2.1 x c hx fun z => hn (q x z), K.2.2⟩
end A
namespace Wk
section B
variable {p : Program} {l : Launch} {e : Env} {R : Room} {s : State} {m : MethodId} {args : Array Value} {below : List Frame} {meth : Method} {c : Code} {T : State} {locs : List Loc} {cells slots : Nat} {Z : State} {a0 : Array Value} {h : Heap} {Q : Option Value → State → List Loc → Prop} {F : Outcome → State → List Loc → Prop} {pc q : Nat} {Ls : Array Slot} {st : List Value}
theorem iload (X : Stand p l e R s m args below meth c T locs cells slots) (hx : p.tables.exec = Jvm.exec) {k : Nat} {v : Int32} (hd : decode c.code pc = .ok (.iload k, 2)) (hq : pc + 2 = q) (hl : Ls[k]? = some (.val (.int v))) (k : Wp p e below Q F T (mkF m q Ls ((.int v) :: st))) : Wp p e below Q F T (mkF m pc Ls st) := by
  subst hq
  exact Wp.st (fun _ z => XS.iload X.here hx rfl hd hl z) k
theorem iloadN (X : Stand p l e R s m args below meth c T locs cells slots) (hx : p.tables.exec = Jvm.exec) {k : Fin 4} {v : Int32} (hd : decode c.code pc = .ok (.iload_n k, 1)) (hq : pc + 1 = q) (hl : Ls[k.val]? = some (.val (.int v))) (k : Wp p e below Q F T (mkF m q Ls ((.int v) :: st))) : Wp p e below Q F T (mkF m pc Ls st) := by
  subst hq
  exact Wp.st (fun _ z => XS.iloadN X.here hx rfl hd hl z) k
theorem lload (X : Stand p l e R s m args below meth c T locs cells slots) (hx : p.tables.exec = Jvm.exec) {k : Nat} {v : Int64} (hd : decode c.code pc = .ok (.lload k, 2)) (hq : pc + 2 = q) (hl : Ls[k]? = some (.val (.long v))) (k : Wp p e below Q F T (mkF m q Ls ((.long v) :: st))) : Wp p e below Q F T (mkF m pc Ls st) := by
  subst hq
  exact Wp.st (fun _ z => XS.lload X.here hx rfl hd hl z) k
theorem lloadN (X : Stand p l e R s m args below meth c T locs cells slots) (hx : p.tables.exec = Jvm.exec) {k : Fin 4} {v : Int64} (hd : decode c.code pc = .ok (.lload_n k, 1)) (hq : pc + 1 = q) (hl : Ls[k.val]? = some (.val (.long v))) (k : Wp p e below Q F T (mkF m q Ls ((.long v) :: st))) : Wp p e below Q F T (mkF m pc Ls st) := by
  subst hq
  exact Wp.st (fun _ z => XS.lloadN X.here hx rfl hd hl z) k
theorem aload (X : Stand p l e R s m args below meth c T locs cells slots) (hx : p.tables.exec = Jvm.exec) {k : Nat} {v : Value} (hd : decode c.code pc = .ok (.aload k, 2)) (hq : pc + 2 = q) (hl : Ls[k]? = some (.val (v))) (hv : v.isRef = true) (k : Wp p e below Q F T (mkF m q Ls ((v) :: st))) : Wp p e below Q F T (mkF m pc Ls st) := by
  subst hq
  exact Wp.st (fun _ z => XS.aload X.here hx rfl hd hl hv z) k
theorem aloadN (X : Stand p l e R s m args below meth c T locs cells slots) (hx : p.tables.exec = Jvm.exec) {k : Fin 4} {v : Value} (hd : decode c.code pc = .ok (.aload_n k, 1)) (hq : pc + 1 = q) (hl : Ls[k.val]? = some (.val (v))) (hv : v.isRef = true) (k : Wp p e below Q F T (mkF m q Ls ((v) :: st))) : Wp p e below Q F T (mkF m pc Ls st) := by
  subst hq
  exact Wp.st (fun _ z => XS.aloadN X.here hx rfl hd hl hv z) k
theorem istore (X : Stand p l e R s m args below meth c T locs cells slots) (hx : p.tables.exec = Jvm.exec) {k : Nat} {v : Int32} {Ls' : Array Slot} (hd : decode c.code pc = .ok (.istore k, 2)) (hq : pc + 2 = q) (hl : storeLocals Ls k (.int v) = some Ls') (k : Wp p e below Q F T (mkF m q Ls' st)) : Wp p e below Q F T (mkF m pc Ls ((.int v) :: st)) := by
  subst hq
  exact Wp.st (fun _ z => XS.istore X.here hx rfl hd rfl hl z) k
theorem istoreN (X : Stand p l e R s m args below meth c T locs cells slots) (hx : p.tables.exec = Jvm.exec) {k : Fin 4} {v : Int32} {Ls' : Array Slot} (hd : decode c.code pc = .ok (.istore_n k, 1)) (hq : pc + 1 = q) (hl : storeLocals Ls k.val (.int v) = some Ls') (k : Wp p e below Q F T (mkF m q Ls' st)) : Wp p e below Q F T (mkF m pc Ls ((.int v) :: st)) := by
  subst hq
  exact Wp.st (fun _ z => XS.istoreN X.here hx rfl hd rfl hl z) k
theorem lstore (X : Stand p l e R s m args below meth c T locs cells slots) (hx : p.tables.exec = Jvm.exec) {k : Nat} {v : Int64} {Ls' : Array Slot} (hd : decode c.code pc = .ok (.lstore k, 2)) (hq : pc + 2 = q) (hl : storeLocals Ls k (.long v) = some Ls') (k : Wp p e below Q F T (mkF m q Ls' st)) : Wp p e below Q F T (mkF m pc Ls ((.long v) :: st)) := by
  subst hq
  exact Wp.st (fun _ z => XS.lstore X.here hx rfl hd rfl hl z) k
theorem lstoreN (X : Stand p l e R s m args below meth c T locs cells slots) (hx : p.tables.exec = Jvm.exec) {k : Fin 4} {v : Int64} {Ls' : Array Slot} (hd : decode c.code pc = .ok (.lstore_n k, 1)) (hq : pc + 1 = q) (hl : storeLocals Ls k.val (.long v) = some Ls') (k : Wp p e below Q F T (mkF m q Ls' st)) : Wp p e below Q F T (mkF m pc Ls ((.long v) :: st)) := by
  subst hq
  exact Wp.st (fun _ z => XS.lstoreN X.here hx rfl hd rfl hl z) k
theorem astore (X : Stand p l e R s m args below meth c T locs cells slots) (hx : p.tables.exec = Jvm.exec) {k : Nat} {v : Value} {Ls' : Array Slot} (hd : decode c.code pc = .ok (.astore k, 2)) (hq : pc + 2 = q) (hv : v.isRef = true) (hl : storeLocals Ls k (v) = some Ls') (k : Wp p e below Q F T (mkF m q Ls' st)) : Wp p e below Q F T (mkF m pc Ls ((v) :: st)) := by
  subst hq
  exact Wp.st (fun _ z => XS.astore X.here hx rfl hd rfl hv hl z) k
theorem astoreN (X : Stand p l e R s m args below meth c T locs cells slots) (hx : p.tables.exec = Jvm.exec) {k : Fin 4} {v : Value} {Ls' : Array Slot} (hd : decode c.code pc = .ok (.astore_n k, 1)) (hq : pc + 1 = q) (hv : v.isRef = true) (hl : storeLocals Ls k.val (v) = some Ls') (k : Wp p e below Q F T (mkF m q Ls' st)) : Wp p e below Q F T (mkF m pc Ls ((v) :: st)) := by
  subst hq
  exact Wp.st (fun _ z => XS.astoreN X.here hx rfl hd rfl hv hl z) k
theorem istoreA (X : Stand p l e R s m args below meth c T locs cells slots) (hx : p.tables.exec = Jvm.exec) {k : Nat} {v : Int32} {Ls' : Int32 → Array Slot} (hd : decode c.code pc = .ok (.istore k, 2)) (hq : pc + 2 = q) (hl : ∀ v : Int32, storeLocals Ls k (.int v) = some (Ls' v)) (k : ∀ z : Int32, z = v → Wp p e below Q F T (mkF m q (Ls' z) st)) : Wp p e below Q F T (mkF m pc Ls ((.int v) :: st)) := by
  subst hq
  exact Wp.st (fun _ z => XS.istore X.here hx rfl hd rfl (hl _) z) (k _ rfl)
theorem istoreNA (X : Stand p l e R s m args below meth c T locs cells slots) (hx : p.tables.exec = Jvm.exec) {k : Fin 4} {v : Int32} {Ls' : Int32 → Array Slot} (hd : decode c.code pc = .ok (.istore_n k, 1)) (hq : pc + 1 = q) (hl : ∀ v : Int32, storeLocals Ls k.val (.int v) = some (Ls' v)) (k : ∀ z : Int32, z = v → Wp p e below Q F T (mkF m q (Ls' z) st)) : Wp p e below Q F T (mkF m pc Ls ((.int v) :: st)) := by
  subst hq
  exact Wp.st (fun _ z => XS.istoreN X.here hx rfl hd rfl (hl _) z) (k _ rfl)
theorem lstoreA (X : Stand p l e R s m args below meth c T locs cells slots) (hx : p.tables.exec = Jvm.exec) {k : Nat} {v : Int64} {Ls' : Int64 → Array Slot} (hd : decode c.code pc = .ok (.lstore k, 2)) (hq : pc + 2 = q) (hl : ∀ v : Int64, storeLocals Ls k (.long v) = some (Ls' v)) (k : ∀ z : Int64, z = v → Wp p e below Q F T (mkF m q (Ls' z) st)) : Wp p e below Q F T (mkF m pc Ls ((.long v) :: st)) := by
  subst hq
  exact Wp.st (fun _ z => XS.lstore X.here hx rfl hd rfl (hl _) z) (k _ rfl)
theorem lstoreNA (X : Stand p l e R s m args below meth c T locs cells slots) (hx : p.tables.exec = Jvm.exec) {k : Fin 4} {v : Int64} {Ls' : Int64 → Array Slot} (hd : decode c.code pc = .ok (.lstore_n k, 1)) (hq : pc + 1 = q) (hl : ∀ v : Int64, storeLocals Ls k.val (.long v) = some (Ls' v)) (k : ∀ z : Int64, z = v → Wp p e below Q F T (mkF m q (Ls' z) st)) : Wp p e below Q F T (mkF m pc Ls ((.long v) :: st)) := by
  subst hq
  exact Wp.st (fun _ z => XS.lstoreN X.here hx rfl hd rfl (hl _) z) (k _ rfl)
theorem iconst (X : Stand p l e R s m args below meth c T locs cells slots) (hx : p.tables.exec = Jvm.exec) {i : Int} {v : Int32} (hd : decode c.code pc = .ok (.iconst i, 1)) (hq : pc + 1 = q) (hv : Int32.ofInt i = v) (k : Wp p e below Q F T (mkF m q Ls (.int v :: st))) : Wp p e below Q F T (mkF m pc Ls st) := by
  subst hq
  exact Wp.st (fun _ z => by subst hv; exact XS.iconst X.here hx rfl hd z) k
theorem bipush (X : Stand p l e R s m args below meth c T locs cells slots) (hx : p.tables.exec = Jvm.exec) {i : Int} {v : Int32} (hd : decode c.code pc = .ok (.bipush i, 2)) (hq : pc + 2 = q) (hv : (Int8.ofInt i).toInt32 = v) (k : Wp p e below Q F T (mkF m q Ls (.int v :: st))) : Wp p e below Q F T (mkF m pc Ls st) := by
  subst hq
  exact Wp.st (fun _ z => by subst hv; exact XS.bipush X.here hx rfl hd z) k
theorem sipush (X : Stand p l e R s m args below meth c T locs cells slots) (hx : p.tables.exec = Jvm.exec) {i : Int} {v : Int32} (hd : decode c.code pc = .ok (.sipush i, 3)) (hq : pc + 3 = q) (hv : (Int16.ofInt i).toInt32 = v) (k : Wp p e below Q F T (mkF m q Ls (.int v :: st))) : Wp p e below Q F T (mkF m pc Ls st) := by
  subst hq
  exact Wp.st (fun _ z => by subst hv; exact XS.sipush X.here hx rfl hd z) k
theorem aconstNull (X : Stand p l e R s m args below meth c T locs cells slots) (hx : p.tables.exec = Jvm.exec)  (hd : decode c.code pc = .ok (.aconst_null, 1)) (hq : pc + 1 = q) (k : Wp p e below Q F T (mkF m q Ls (.null :: st))) : Wp p e below Q F T (mkF m pc Ls st) := by
  subst hq
  exact Wp.st (fun _ z => XS.aconstNull X.here hx rfl hd z) k
theorem iadd (X : Stand p l e R s m args below meth c T locs cells slots) (hx : p.tables.exec = Jvm.exec) {x y : Int32} (hd : decode c.code pc = .ok (.iadd, 1)) (hq : pc + 1 = q) (k : Wp p e below Q F T (mkF m q Ls (.int (x + y) :: st))) : Wp p e below Q F T (mkF m pc Ls (.int y :: .int x :: st)) := by
  subst hq
  exact Wp.st (fun _ z => XS.iadd X.here hx rfl hd rfl z) k
theorem isub (X : Stand p l e R s m args below meth c T locs cells slots) (hx : p.tables.exec = Jvm.exec) {x y : Int32} (hd : decode c.code pc = .ok (.isub, 1)) (hq : pc + 1 = q) (k : Wp p e below Q F T (mkF m q Ls (.int (x - y) :: st))) : Wp p e below Q F T (mkF m pc Ls (.int y :: .int x :: st)) := by
  subst hq
  exact Wp.st (fun _ z => XS.isub X.here hx rfl hd rfl z) k
theorem imul (X : Stand p l e R s m args below meth c T locs cells slots) (hx : p.tables.exec = Jvm.exec) {x y : Int32} (hd : decode c.code pc = .ok (.imul, 1)) (hq : pc + 1 = q) (k : Wp p e below Q F T (mkF m q Ls (.int (x * y) :: st))) : Wp p e below Q F T (mkF m pc Ls (.int y :: .int x :: st)) := by
  subst hq
  exact Wp.st (fun _ z => XS.imul X.here hx rfl hd rfl z) k
theorem iand (X : Stand p l e R s m args below meth c T locs cells slots) (hx : p.tables.exec = Jvm.exec) {x y : Int32} (hd : decode c.code pc = .ok (.iand, 1)) (hq : pc + 1 = q) (k : Wp p e below Q F T (mkF m q Ls (.int (x &&& y) :: st))) : Wp p e below Q F T (mkF m pc Ls (.int y :: .int x :: st)) := by
  subst hq
  exact Wp.st (fun _ z => XS.iand X.here hx rfl hd rfl z) k
theorem land (X : Stand p l e R s m args below meth c T locs cells slots) (hx : p.tables.exec = Jvm.exec) {x y : Int64} (hd : decode c.code pc = .ok (.land, 1)) (hq : pc + 1 = q) (k : Wp p e below Q F T (mkF m q Ls (.long (x &&& y) :: st))) : Wp p e below Q F T (mkF m pc Ls (.long y :: .long x :: st)) := by
  subst hq
  exact Wp.st (fun _ z => XS.land X.here hx rfl hd rfl z) k
theorem ishl (X : Stand p l e R s m args below meth c T locs cells slots) (hx : p.tables.exec = Jvm.exec) {x y : Int32} (hd : decode c.code pc = .ok (.ishl, 1)) (hq : pc + 1 = q) (k : Wp p e below Q F T (mkF m q Ls (.int (x <<< (y &&& 31)) :: st))) : Wp p e below Q F T (mkF m pc Ls (.int y :: .int x :: st)) := by
  subst hq
  exact Wp.st (fun _ z => XS.ishl X.here hx rfl hd rfl z) k
theorem ishr (X : Stand p l e R s m args below meth c T locs cells slots) (hx : p.tables.exec = Jvm.exec) {x y : Int32} (hd : decode c.code pc = .ok (.ishr, 1)) (hq : pc + 1 = q) (k : Wp p e below Q F T (mkF m q Ls (.int (x >>> (y &&& 31)) :: st))) : Wp p e below Q F T (mkF m pc Ls (.int y :: .int x :: st)) := by
  subst hq
  exact Wp.st (fun _ z => XS.ishr X.here hx rfl hd rfl z) k
theorem iushr (X : Stand p l e R s m args below meth c T locs cells slots) (hx : p.tables.exec = Jvm.exec) {x y : Int32} (hd : decode c.code pc = .ok (.iushr, 1)) (hq : pc + 1 = q) (k : Wp p e below Q F T (mkF m q Ls (.int ((x.toUInt32 >>> (y &&& 31).toUInt32).toInt32) :: st))) : Wp p e below Q F T (mkF m pc Ls (.int y :: .int x :: st)) := by
  subst hq
  exact Wp.st (fun _ z => XS.iushr X.here hx rfl hd rfl z) k
theorem lushr (X : Stand p l e R s m args below meth c T locs cells slots) (hx : p.tables.exec = Jvm.exec) {x : Int64} {y : Int32} (hd : decode c.code pc = .ok (.lushr, 1)) (hq : pc + 1 = q) (k : Wp p e below Q F T (mkF m q Ls (.long ((x.toUInt64 >>> (y &&& 0x3f).toInt64.toUInt64).toInt64) :: st))) : Wp p e below Q F T (mkF m pc Ls (.int y :: .long x :: st)) := by
  subst hq
  exact Wp.st (fun _ z => XS.lushr X.here hx rfl hd rfl z) k
theorem idiv (X : Stand p l e R s m args below meth c T locs cells slots) (hx : p.tables.exec = Jvm.exec) {x y : Int32} (hd : decode c.code pc = .ok (.idiv, 1)) (hq : pc + 1 = q) (hy : y ≠ 0) (k : Wp p e below Q F T (mkF m q Ls (.int (x / y) :: st))) : Wp p e below Q F T (mkF m pc Ls (.int y :: .int x :: st)) := by
  subst hq
  exact Wp.st (fun _ z => XS.idiv X.here hx rfl hd rfl hy z) k
theorem irem (X : Stand p l e R s m args below meth c T locs cells slots) (hx : p.tables.exec = Jvm.exec) {x y : Int32} (hd : decode c.code pc = .ok (.irem, 1)) (hq : pc + 1 = q) (hy : y ≠ 0) (k : Wp p e below Q F T (mkF m q Ls (.int (x % y) :: st))) : Wp p e below Q F T (mkF m pc Ls (.int y :: .int x :: st)) := by
  subst hq
  exact Wp.st (fun _ z => iremM X hx rfl hd rfl hy z) k
theorem ldiv (X : Stand p l e R s m args below meth c T locs cells slots) (hx : p.tables.exec = Jvm.exec) {x y : Int64} (hd : decode c.code pc = .ok (.ldiv, 1)) (hq : pc + 1 = q) (hy : y ≠ 0) (k : Wp p e below Q F T (mkF m q Ls (.long (x / y) :: st))) : Wp p e below Q F T (mkF m pc Ls (.long y :: .long x :: st)) := by
  subst hq
  exact Wp.st (fun _ z => XS.ldiv X.here hx rfl hd rfl hy z) k
theorem lrem (X : Stand p l e R s m args below meth c T locs cells slots) (hx : p.tables.exec = Jvm.exec) {x y : Int64} (hd : decode c.code pc = .ok (.lrem, 1)) (hq : pc + 1 = q) (hy : y ≠ 0) (k : Wp p e below Q F T (mkF m q Ls (.long (x - (x / y) * y) :: st))) : Wp p e below Q F T (mkF m pc Ls (.long y :: .long x :: st)) := by
  subst hq
  exact Wp.st (fun _ z => XS.lrem X.here hx rfl hd rfl hy z) k
theorem ineg (X : Stand p l e R s m args below meth c T locs cells slots) (hx : p.tables.exec = Jvm.exec) {x : Int32} (hd : decode c.code pc = .ok (.ineg, 1)) (hq : pc + 1 = q) (k : Wp p e below Q F T (mkF m q Ls (.int (-x) :: st))) : Wp p e below Q F T (mkF m pc Ls (.int x :: st)) := by
  subst hq
  exact Wp.st (fun _ z => XS.ineg X.here hx rfl hd rfl z) k
theorem lneg (X : Stand p l e R s m args below meth c T locs cells slots) (hx : p.tables.exec = Jvm.exec) {x : Int64} (hd : decode c.code pc = .ok (.lneg, 1)) (hq : pc + 1 = q) (k : Wp p e below Q F T (mkF m q Ls (.long (-x) :: st))) : Wp p e below Q F T (mkF m pc Ls (.long x :: st)) := by
  subst hq
  exact Wp.st (fun _ z => XS.lneg X.here hx rfl hd rfl z) k
theorem i2l (X : Stand p l e R s m args below meth c T locs cells slots) (hx : p.tables.exec = Jvm.exec) {x : Int32} (hd : decode c.code pc = .ok (.i2l, 1)) (hq : pc + 1 = q) (k : Wp p e below Q F T (mkF m q Ls (.long x.toInt64 :: st))) : Wp p e below Q F T (mkF m pc Ls (.int x :: st)) := by
  subst hq
  exact Wp.st (fun _ z => XS.i2l X.here hx rfl hd rfl z) k
theorem l2i (X : Stand p l e R s m args below meth c T locs cells slots) (hx : p.tables.exec = Jvm.exec) {x : Int64} (hd : decode c.code pc = .ok (.l2i, 1)) (hq : pc + 1 = q) (k : Wp p e below Q F T (mkF m q Ls (.int x.toInt32 :: st))) : Wp p e below Q F T (mkF m pc Ls (.long x :: st)) := by
  subst hq
  exact Wp.st (fun _ z => XS.l2i X.here hx rfl hd rfl z) k
theorem i2b (X : Stand p l e R s m args below meth c T locs cells slots) (hx : p.tables.exec = Jvm.exec) {x : Int32} (hd : decode c.code pc = .ok (.i2b, 1)) (hq : pc + 1 = q) (k : ∀ v : Int32, v = x.toInt8.toInt32 → Wp p e below Q F T (mkF m q Ls (.int v :: st))) : Wp p e below Q F T (mkF m pc Ls (.int x :: st)) := by
  subst hq
  exact Wp.st (fun _ z => XS.i2b X.here hx rfl hd rfl z) (k _ rfl)
theorem i2c (X : Stand p l e R s m args below meth c T locs cells slots) (hx : p.tables.exec = Jvm.exec) {x : Int32} (hd : decode c.code pc = .ok (.i2c, 1)) (hq : pc + 1 = q) (k : ∀ v : Int32, v = x.toUInt32.toUInt16.toUInt32.toInt32 → Wp p e below Q F T (mkF m q Ls (.int v :: st))) : Wp p e below Q F T (mkF m pc Ls (.int x :: st)) := by
  subst hq
  exact Wp.st (fun _ z => XS.i2c X.here hx rfl hd rfl z) (k _ rfl)
theorem lconst (X : Stand p l e R s m args below meth c T locs cells slots) (hx : p.tables.exec = Jvm.exec) {k : Fin 2} {v : Int64} (hd : decode c.code pc = .ok (.lconst k, 1)) (hq : pc + 1 = q) (hv : Int64.ofNat k = v) (k : Wp p e below Q F T (mkF m q Ls (.long v :: st))) : Wp p e below Q F T (mkF m pc Ls st) := by
  subst hq
  exact Wp.st (fun _ z => by subst hv; exact XS.lconst X.here hx rfl hd z) k
theorem lcmp (X : Stand p l e R s m args below meth c T locs cells slots) (hx : p.tables.exec = Jvm.exec) {x y : Int64} (hd : decode c.code pc = .ok (.lcmp, 1)) (hq : pc + 1 = q) (k : Wp p e below Q F T (mkF m q Ls (.int (lcmpW x y) :: st))) : Wp p e below Q F T (mkF m pc Ls (.long y :: .long x :: st)) := by
  subst hq
  exact Wp.st (fun _ z => XS.lcmp X.here hx rfl hd rfl z) k
theorem dup (X : Stand p l e R s m args below meth c T locs cells slots) (hx : p.tables.exec = Jvm.exec) {x : Value} (hd : decode c.code pc = .ok (.dup, 1)) (hq : pc + 1 = q) (hc : x.category = 1) (k : Wp p e below Q F T (mkF m q Ls (x :: x :: st))) : Wp p e below Q F T (mkF m pc Ls (x :: st)) := by
  subst hq
  exact Wp.st (fun _ z => XS.dup X.here hx rfl hd rfl hc z) k
theorem pop (X : Stand p l e R s m args below meth c T locs cells slots) (hx : p.tables.exec = Jvm.exec) {x : Value} (hd : decode c.code pc = .ok (.pop, 1)) (hq : pc + 1 = q) (hc : x.category = 1) (k : Wp p e below Q F T (mkF m q Ls st)) : Wp p e below Q F T (mkF m pc Ls (x :: st)) := by
  subst hq
  exact Wp.st (fun _ z => XS.pop X.here hx rfl hd rfl hc z) k
theorem iinc (X : Stand p l e R s m args below meth c T locs cells slots) (hx : p.tables.exec = Jvm.exec) {k : Nat} {cst : Int} {v : Int32} {Ls' : Array Slot} (hd : decode c.code pc = .ok (.iinc k cst, 3)) (hq : pc + 3 = q) (hl : Ls[k]? = some (.val (.int v))) (hl' : storeLocals Ls k (.int (v + Int32.ofInt cst)) = some Ls') (k : Wp p e below Q F T (mkF m q Ls' st)) : Wp p e below Q F T (mkF m pc Ls st) := by
  subst hq
  exact Wp.st (fun _ z => XS.iinc X.here hx rfl hd hl hl' z) k
theorem goto (X : Stand p l e R s m args below meth c T locs cells slots) (hx : p.tables.exec = Jvm.exec) {o : Int}  (hd : decode c.code pc = .ok (.goto o, 3)) (ho : 0 ≤ (pc : Int) + o) (hq : ((pc : Int) + o).toNat = q) (k : Wp p e below Q F T (mkF m q Ls st)) : Wp p e below Q F T (mkF m pc Ls st) := Wp.st (fun _ z => XS.goto X.here hx rfl rfl hd ho hq z) k
theorem ifYes (X : Stand p l e R s m args below meth c T locs cells slots) (hx : p.tables.exec = Jvm.exec) {o : Int} {cd : ClassFile.Cond} {x : Int32} (hd : decode c.code pc = .ok (.ifCond cd o, 3)) (ho : 0 ≤ (pc : Int) + o) (hq : ((pc : Int) + o).toNat = q) (hc : ifCond.holds cd x = true) (k : Wp p e below Q F T (mkF m q Ls st)) : Wp p e below Q F T (mkF m pc Ls (.int x :: st)) := Wp.st (fun _ z => XS.ifYes X.here hx rfl rfl hd rfl hc ho hq z) k
theorem icmpYes (X : Stand p l e R s m args below meth c T locs cells slots) (hx : p.tables.exec = Jvm.exec) {o : Int} {cd : ClassFile.Cond} {x y : Int32} (hd : decode c.code pc = .ok (.if_icmp cd o, 3)) (ho : 0 ≤ (pc : Int) + o) (hq : ((pc : Int) + o).toNat = q) (hc : if_icmp.holds cd x y = true) (k : Wp p e below Q F T (mkF m q Ls st)) : Wp p e below Q F T (mkF m pc Ls (.int y :: .int x :: st)) := Wp.st (fun _ z => XS.icmpYes X.here hx rfl rfl hd rfl hc ho hq z) k
theorem ifnonnullYes (X : Stand p l e R s m args below meth c T locs cells slots) (hx : p.tables.exec = Jvm.exec) {o : Int} {b : Addr} (hd : decode c.code pc = .ok (.ifnonnull o, 3)) (ho : 0 ≤ (pc : Int) + o) (hq : ((pc : Int) + o).toNat = q) (k : Wp p e below Q F T (mkF m q Ls st)) : Wp p e below Q F T (mkF m pc Ls (.ref b :: st)) := Wp.st (fun _ z => XS.ifnonnullYes X.here hx rfl rfl hd rfl ho hq z) k
theorem ifNo (X : Stand p l e R s m args below meth c T locs cells slots) (hx : p.tables.exec = Jvm.exec) {cd : ClassFile.Cond} {o : Int} {x : Int32} (hd : decode c.code pc = .ok (.ifCond cd o, 3)) (hq : pc + 3 = q) (hc : ifCond.holds cd x = false) (k : Wp p e below Q F T (mkF m q Ls st)) : Wp p e below Q F T (mkF m pc Ls (.int x :: st)) := by
  subst hq
  exact Wp.st (fun _ z => XS.ifNo X.here hx rfl hd rfl hc z) k
theorem icmpNo (X : Stand p l e R s m args below meth c T locs cells slots) (hx : p.tables.exec = Jvm.exec) {cd : ClassFile.Cond} {o : Int} {x y : Int32} (hd : decode c.code pc = .ok (.if_icmp cd o, 3)) (hq : pc + 3 = q) (hc : if_icmp.holds cd x y = false) (k : Wp p e below Q F T (mkF m q Ls st)) : Wp p e below Q F T (mkF m pc Ls (.int y :: .int x :: st)) := by
  subst hq
  exact Wp.st (fun _ z => XS.icmpNo X.here hx rfl hd rfl hc z) k
theorem new (X : Stand p l e R s m args below meth c T locs cells slots) (hx : p.tables.exec = Jvm.exec) (hZ : Z.Warmed39 s.vm) {own C : String} {index n : Nat} (hown : s.vm.findClass own = some m.cls) (w : (Cond.classLink own index C).before a0 Z = true) (wi : (Cond.instantiable C n).before a0 Z = true) (wz : (Cond.initialized C).before a0 Z = true) (eT : T.heap = h) (hd : decode c.code pc = .ok (.new index, 3)) (hq : pc + 3 = q) (hc : cells + 1 ≤ R.cells) (hl : slots + n ≤ R.slots)
    (k : ∀ (T' : State) (h' : Heap) (a : Addr), h.size = a → Stand p l e R s m args below meth c T' locs (cells + 1) (slots + n) → T'.heap = h' → Ext h h' → Exa Z h' a C → (∀ {O nm d : String} {ty : FieldType}, Laid Z a0 C O nm d → parseFieldDescriptor d = some ty → Fld Z h' a O nm d (defaultValue ty)) → Wp p e below Q F T' (mkF m q Ls (.ref a :: st))) : Wp p e below Q F T (mkF m pc Ls st) := by
  subst hq
  obtain ⟨T', h', X', e', E, A, D, -, st'⟩ := newO X hx hZ hown w wi wz eT (g := mkF m pc Ls st) rfl hd hc hl
  exact Wp.st st' (k T' h' _ rfl X' e' E A D)
theorem newarray (X : Stand p l e R s m args below meth c T locs cells slots) (hx : p.tables.exec = Jvm.exec) (hZ : Z.Warmed39 s.vm) {aty : ArrayType} (w : (Cond.arrayClass (newarray.typeOf aty)).before a0 Z = true) (eT : T.heap = h) {n : Int32} (hd : decode c.code pc = .ok (.newarray aty, 2)) (hq : pc + 2 = q) (hn : ¬ n < 0) (cap : Nat) (hcap : n.toNatClampNeg ≤ cap) (hb : cap * 8 ≤ 536870912) (hc : cells + 1 ≤ R.cells) (hl : slots + cap ≤ R.slots)
    (k : ∀ (T' : State) (h' : Heap) (a : Addr) (kA : ClassId), h.size = a → Stand p l e R s m args below meth c T' locs (cells + 1) (slots + cap) → T'.heap = h' → Ext h h' → Arv Z h' a kA (newarray.typeOf aty) n [] (defaultValue (newarray.typeOf aty)) → Wp p e below Q F T' (mkF m q Ls (.ref a :: st))) : Wp p e below Q F T (mkF m pc Ls (.int n :: st)) := by
  subst hq
  obtain ⟨T', h', kA, X', e', E, A, st'⟩ := newP X hx hZ w eT (g := mkF m pc Ls (.int n :: st)) rfl hd rfl hn hcap hb hc hl
  exact Wp.st st' (k T' h' _ kA rfl X' e' E (Arv.new A hn))
theorem getfield (X : Stand p l e R s m args below meth c T locs cells slots) (hx : p.tables.exec = Jvm.exec) (hZ : Z.Warmed39 s.vm) {own R0 O n d host : String} {index : Nat} (hown : s.vm.findClass own = some m.cls) (w : (Cond.fieldLink own index R0 n d).before a0 Z = true ∨ (Cond.fieldLinkNest own index R0 n d host).before a0 Z = true) (via : Via Z R0 O n d) (eT : T.heap = h) {a : Addr} {v : Value} (hF : Fld Z h a O n d v) (hd : decode c.code pc = .ok (.getfield index, 3)) (hq : pc + 3 = q)
    (k : ∀ (T' : State), Stand p l e R s m args below meth c T' locs cells slots → T'.heap = h → Wp p e below Q F T' (mkF m q Ls (v :: st))) : Wp p e below Q F T (mkF m pc Ls (.ref a :: st)) := by
  subst hq
  obtain ⟨T', X', e', st'⟩ := getF X hx hZ hown w via eT hF (g := mkF m pc Ls (.ref a :: st)) rfl rfl hd
  exact Wp.st st' (k T' X' e')
theorem getstatic (X : Stand p l e R s m args below meth c T locs cells slots) (hx : p.tables.exec = Jvm.exec) (hZ : Z.Warmed39 s.vm) {own R0 O n d host : String} {index : Nat} (hown : s.vm.findClass own = some m.cls) (w : (Cond.fieldLink own index R0 n d).before a0 Z = true ∨ (Cond.fieldLinkNest own index R0 n d host).before a0 Z = true) (via : Via Z R0 O n d) (eT : T.heap = h) {v : Value} (hF : Sta Z h O n d v) (hd : decode c.code pc = .ok (.getstatic index, 3)) (hq : pc + 3 = q)
    (k : ∀ (T' : State), Stand p l e R s m args below meth c T' locs cells slots → T'.heap = h → Wp p e below Q F T' (mkF m q Ls (v :: st))) : Wp p e below Q F T (mkF m pc Ls st) := by
  subst hq
  obtain ⟨T', X', e', st'⟩ := getS2 X hx hZ hown w via eT hF (g := mkF m pc Ls st) rfl hd
  exact Wp.st st' (k T' X' e')
theorem putfield (X : Stand p l e R s m args below meth c T locs cells slots) (hx : p.tables.exec = Jvm.exec) (hZ : Z.Warmed39 s.vm) {own R0 O n d host C : String} {index kk : Nat} {ty : FieldType} (hown : s.vm.findClass own = some m.cls) (w : (Cond.fieldLink own index R0 n d).before a0 Z = true ∨ (Cond.fieldLinkNest own index R0 n d host).before a0 Z = true) (via : Via Z R0 O n d) (eT : T.heap = h) {a : Addr} {v old : Value} (hF : Fld Z h a O n d old) (hE : Exa Z h a C) (hL : (Cond.lays C O n d).before a0 Z = true ∨ ((Cond.laysFinal C O n d).before a0 Z = true ∧ own = O ∧ meth.name = "<init>")) (wi : (Cond.instantiable C kk).before a0 Z = true)
    (hty : parseFieldDescriptor d = some ty) (hn : narrow ty v = v) (hf : fits ty v = true) (hd : decode c.code pc = .ok (.putfield index, 3)) (hq : pc + 3 = q)
    (k : ∀ (T' : State) (h' : Heap) (L' : List Loc), (∀ n0 ws, Fk n0 ws locs → (a ∈ ws ∨ n0 ≤ a) → Fk n0 ws L') → Stand p l e R s m args below meth c T' L' cells slots → T'.heap = h' → Wr h h' a (Jvm.RoadKit.slotOf Z O n d) v → Fld Z h' a O n d v → Wp p e below Q F T' (mkF m q Ls st)) : Wp p e below Q F T (mkF m pc Ls (v :: .ref a :: st)) := by
  subst hq
  obtain ⟨T', h', X', e', W, st'⟩ := putF X hx hZ hown w via eT hF hE hL wi hty hn hf (g := mkF m pc Ls (v :: .ref a :: st)) rfl rfl hd
  exact Wp.st st' (k T' h' _ (fun n0 ws N g => Fk.snoc N g) X' e' W (hF.same W))
theorem putfieldN (X : Stand p l e R s m args below meth c T locs cells slots) (hx : p.tables.exec = Jvm.exec) (hZ : Z.Warmed39 s.vm) {own R0 O n d C : String} {index kk : Nat} {ty : FieldType} (hown : s.vm.findClass own = some m.cls) (w : (Cond.fieldLink own index R0 n d).before a0 Z = true) (via : Via Z R0 O n d) (eT : T.heap = h) {a : Addr} {v v' old : Value} (hF : Fld Z h a O n d old) (hE : Exa Z h a C) (hL : (Cond.lays C O n d).before a0 Z = true ∨ ((Cond.laysFinal C O n d).before a0 Z = true ∧ own = O ∧ meth.name = "<init>")) (wi : (Cond.instantiable C kk).before a0 Z = true)
    (hty : parseFieldDescriptor d = some ty) (hn : narrow ty v = v') (hf : fits ty v' = true) (hd : decode c.code pc = .ok (.putfield index, 3)) (hq : pc + 3 = q)
    (k : ∀ (T' : State) (h' : Heap) (L' : List Loc), (∀ n0 ws, Fk n0 ws locs → (a ∈ ws ∨ n0 ≤ a) → Fk n0 ws L') → Stand p l e R s m args below meth c T' L' cells slots → T'.heap = h' → Wr h h' a (Jvm.RoadKit.slotOf Z O n d) v' → Fld Z h' a O n d v' → Wp p e below Q F T' (mkF m q Ls st)) : Wp p e below Q F T (mkF m pc Ls (v :: .ref a :: st)) := by
  subst hq
  obtain ⟨T', h', X', e', W, st'⟩ := putFN X hx hZ hown w via eT hF hE hL wi hty hn hf (g := mkF m pc Ls (v :: .ref a :: st)) rfl rfl hd
  exact Wp.st st' (k T' h' _ (fun n0 ws N g => Fk.snoc N g) X' e' W (hF.same W))
theorem objinit (X : Stand p l e R s m args below meth c T locs cells slots) (hx : p.tables.exec = Jvm.exec) (hZ : Z.Warmed39 s.vm) {own : String} {idx : Nat} (hown : s.vm.findClass own = some m.cls) (w1 : (Cond.methodLink own idx Lib.objectInit).before a0 Z = true) (w2 : (Cond.instanceMethod Lib.objectInit).before a0 Z = true)
    (w3 : (Cond.code Lib.objectInit ⟨#[0xb1]⟩ 1 none).before a0 Z = true) (eT : T.heap = h) (hsize : Ls.size = c.maxLocals) {a : Addr} (hd : decode c.code pc = .ok (.invokespecial idx, 3)) (hq : pc + 3 = q) (hf : 1 ≤ R.frames) (W : Nat) (hW : (st.map fun v => v.category).sum ≤ W) (hl : W + 12 ≤ R.locals)
    (k : ∀ (T' : State), Stand p l e R s m args below meth c T' locs cells slots → T'.heap = h → Wp p e below Q F T' (mkF m q Ls st)) : Wp p e below Q F T (mkF m pc Ls (.ref a :: st)) := by
  subst hq
  obtain ⟨T', X', e', st'⟩ := initO X hx hZ hown w1 w2 w3 eT (g := mkF m pc Ls (.ref a :: st)) rfl hsize rfl hd hf (W := W) (by show 2 * 0 + _ ≤ _; omega) hl
  exact Wp.st st' (k T' X' e')
theorem castY (X : Stand p l e R s m args below meth c T locs cells slots) (hx : p.tables.exec = Jvm.exec) (hZ : Z.Warmed39 s.vm) {own K : String} {index : Nat} (hown : s.vm.findClass own = some m.cls) (w : (Cond.classLink own index K).before a0 Z = true) (eT : T.heap = h) {a : Addr} (hI : Ins Z h a K true) (hd : decode c.code pc = .ok (.checkcast index, 3)) (hq : pc + 3 = q)
    (k : ∀ (T' : State), Stand p l e R s m args below meth c T' locs cells slots → T'.heap = h → Wp p e below Q F T' (mkF m q Ls (.ref a :: st))) : Wp p e below Q F T (mkF m pc Ls (.ref a :: st)) := by
  subst hq
  obtain ⟨T', X', e', st'⟩ := Jvm.RoadKit.castY X hx hZ hown w eT hI (g := mkF m pc Ls (.ref a :: st)) rfl rfl hd
  exact Wp.st st' (k T' X' e')
theorem ldcInt (X : Stand p l e R s m args below meth c T locs cells slots) (hx : p.tables.exec = Jvm.exec) (hZ : Z.Warmed39 s.vm) {own : String} {index : Nat} {v : Int32} (hown : s.vm.findClass own = some m.cls) (w : (Cond.constant own index v).before a0 Z = true) (hd : decode c.code pc = .ok (.ldc index, 2)) (hq : pc + 2 = q) (k : Wp p e below Q F T (mkF m q Ls (.int v :: st))) : Wp p e below Q F T (mkF m pc Ls st) := by
  subst hq
  exact Wp.st (X.ldcInt hx hown (mvT hZ w) (g := mkF m pc Ls st) rfl hd) k
theorem ldc2Long (X : Stand p l e R s m args below meth c T locs cells slots) (hx : p.tables.exec = Jvm.exec) (hZ : Z.Warmed39 s.vm) {own : String} {index : Nat} {v : Int64} (hown : s.vm.findClass own = some m.cls) (w : (Cond.constantLong own index v).before a0 Z = true) (hd : decode c.code pc = .ok (.ldc2_w index, 3)) (hq : pc + 3 = q) (k : Wp p e below Q F T (mkF m q Ls (.long v :: st))) : Wp p e below Q F T (mkF m pc Ls st) := by
  subst hq
  exact Wp.st (X.ldc2Long hx hown (mvT hZ w) (g := mkF m pc Ls st) rfl hd) k
/-- arrays -/
theorem arraylength (X : Stand p l e R s m args below meth c T locs cells slots) (hx : p.tables.exec = Jvm.exec) (hZ : Z.Warmed39 s.vm) (eT : T.heap = h) {a : Addr} {kA : ClassId} {ty : FieldType} {n : Int32} {vs : List Value} {dv : Value} (hA : Arv Z h a kA ty n vs dv) (hd : decode c.code pc = .ok (.arraylength, 1)) (hq : pc + 1 = q) (k : Wp p e below Q F T (mkF m q Ls (.int n :: st))) : Wp p e below Q F T (mkF m pc Ls (.ref a :: st)) := by
  subst hq
  obtain ⟨cl, Ar, -, S, M, -, -⟩ := hA
  refine Wp.st (X.arraylength hx (by rw [eT]; exact Ar.1) (State.isArrayOf_alike hZ.alike Ar.2.1) (g := mkF m pc Ls (.ref a :: st)) rfl rfl hd) ?_
  rw [len_of S M]; exact k
theorem setCore {Z : State} {h h' : Heap} {a : Addr} {cl : Cell} {kA : ClassId} {ty : FieldType} {n j : Int32} {vs : List Value} {dv v : Value} (Ar : Arr Z h a cl ty) (q1 : cl.cls = kA) (S : cl.slots.size = n.toNatClampNeg) (M : ¬ n < 0) (H : Has cl vs dv) (G : ∀ i, i < cl.slots.size → fits ty (vs.getD i dv) = true) (hv : fits ty v = true) (W : Wr h h' a j.toNatClampNeg v) (hj : j.toNatClampNeg < vs.length) : Arv Z h' a kA ty n (vs.set j.toNatClampNeg v) dv :=
  Arv.set Ar q1 S M H G hv W _ rfl hj
theorem caload (X : Stand p l e R s m args below meth c T locs cells slots) (hx : p.tables.exec = Jvm.exec) (hZ : Z.Warmed39 s.vm) (eT : T.heap = h) {a : Addr} {kA : ClassId} {n j : Int32} {vs : List Value} {dv : Value} {v : Int32} (hA : Arv Z h a kA .char n vs dv) (hj0 : ¬ j < 0) (hjn : j < n) (hv : vs.getD j.toNatClampNeg dv = .int v) (hd : decode c.code pc = .ok (.caload, 1)) (hq : pc + 1 = q) (k : Wp p e below Q F T (mkF m q Ls ((.int v) :: st))) : Wp p e below Q F T (mkF m pc Ls (.int j :: .ref a :: st)) := by
  subst hq
  obtain ⟨cl, Ar, -, S, M, H, -⟩ := hA
  have hin := inb_of S ⟨hj0, hjn⟩
  exact Wp.st (X.caload hx (j := j) (v := .int v) (by rw [eT]; exact Ar.1) (State.isArrayOf_alike hZ.alike Ar.2.1) Ar.2.2 hin (H.at hin hv) (g := mkF m pc Ls (.int j :: .ref a :: st)) rfl rfl hd) k
theorem laload (X : Stand p l e R s m args below meth c T locs cells slots) (hx : p.tables.exec = Jvm.exec) (hZ : Z.Warmed39 s.vm) (eT : T.heap = h) {a : Addr} {kA : ClassId} {n j : Int32} {vs : List Value} {dv : Value} {v : Int64} (hA : Arv Z h a kA .long n vs dv) (hj0 : ¬ j < 0) (hjn : j < n) (hv : vs.getD j.toNatClampNeg dv = .long v) (hd : decode c.code pc = .ok (.laload, 1)) (hq : pc + 1 = q) (k : Wp p e below Q F T (mkF m q Ls ((.long v) :: st))) : Wp p e below Q F T (mkF m pc Ls (.int j :: .ref a :: st)) := by
  subst hq
  obtain ⟨cl, Ar, -, S, M, H, -⟩ := hA
  have hin := inb_of S ⟨hj0, hjn⟩
  exact Wp.st (X.laload hx (j := j) (v := .long v) (by rw [eT]; exact Ar.1) (State.isArrayOf_alike hZ.alike Ar.2.1) Ar.2.2 hin (H.at hin hv) (g := mkF m pc Ls (.int j :: .ref a :: st)) rfl rfl hd) k
theorem baload (X : Stand p l e R s m args below meth c T locs cells slots) (hx : p.tables.exec = Jvm.exec) (hZ : Z.Warmed39 s.vm) (eT : T.heap = h) {a : Addr} {kA : ClassId} {n j : Int32} {vs : List Value} {dv : Value} {v : Int32} (hA : Arv Z h a kA .byte n vs dv) (hj0 : ¬ j < 0) (hjn : j < n) (hv : vs.getD j.toNatClampNeg dv = .int v) (hd : decode c.code pc = .ok (.baload, 1)) (hq : pc + 1 = q) (k : Wp p e below Q F T (mkF m q Ls ((.int v) :: st))) : Wp p e below Q F T (mkF m pc Ls (.int j :: .ref a :: st)) := by
  subst hq
  obtain ⟨cl, Ar, -, S, M, H, -⟩ := hA
  have hin := inb_of S ⟨hj0, hjn⟩
  exact Wp.st (X.baloadBytes hx (j := j) (v := .int v) (by rw [eT]; exact Ar.1) (State.isArrayOf_alike hZ.alike Ar.2.1) Ar.2.2 hin (H.at hin hv) (g := mkF m pc Ls (.int j :: .ref a :: st)) rfl rfl hd) k
theorem castore (X : Stand p l e R s m args below meth c T locs cells slots) (hx : p.tables.exec = Jvm.exec) (hZ : Z.Warmed39 s.vm) (eT : T.heap = h) {a : Addr} {kA : ClassId} {n j : Int32} {vs : List Value} {dv : Value} {v : Int32} (hA : Arv Z h a kA .char n vs dv) (hj0 : ¬ j < 0) (hjn : j < n) (i : Nat) (hi : j.toNatClampNeg = i) (hlen : i < vs.length) {w : Int32} (hw : (nar .char v) = w) (hd : decode c.code pc = .ok (.castore, 1)) (hq : pc + 1 = q)
    (k : ∀ (T' : State) (h' : Heap) (L' : List Loc), (∀ n0 ws, Fk n0 ws locs → (a ∈ ws ∨ n0 ≤ a) → Fk n0 ws L') → Stand p l e R s m args below meth c T' L' cells slots → T'.heap = h' → Wr h h' a i (.int w) → Arv Z h' a kA .char n (vs.set i (.int w)) dv → Wp p e below Q F T' (mkF m q Ls st)) : Wp p e below Q F T (mkF m pc Ls ((.int v) :: .int j :: .ref a :: st)) := by
  subst hq hi hw
  obtain ⟨cl, Ar, q1, S, M, H, G⟩ := hA
  obtain ⟨T', h', X', e', W, st'⟩ := stC X hx hZ eT Ar (j := j) (inb_of S ⟨hj0, hjn⟩) (g := mkF m pc Ls ((.int v) :: .int j :: .ref a :: st)) rfl rfl hd
  exact Wp.st st' (k T' h' _ (fun n0 ws N g => Fk.snoc N g) X' e' W (setCore Ar q1 S M H G (fits_nar_char _) W hlen))
theorem bastore (X : Stand p l e R s m args below meth c T locs cells slots) (hx : p.tables.exec = Jvm.exec) (hZ : Z.Warmed39 s.vm) (eT : T.heap = h) {a : Addr} {kA : ClassId} {n j : Int32} {vs : List Value} {dv : Value} {v : Int32} (hA : Arv Z h a kA .byte n vs dv) (hj0 : ¬ j < 0) (hjn : j < n) (i : Nat) (hi : j.toNatClampNeg = i) (hlen : i < vs.length) {w : Int32} (hw : (nar .byte v) = w) (hd : decode c.code pc = .ok (.bastore, 1)) (hq : pc + 1 = q)
    (k : ∀ (T' : State) (h' : Heap) (L' : List Loc), (∀ n0 ws, Fk n0 ws locs → (a ∈ ws ∨ n0 ≤ a) → Fk n0 ws L') → Stand p l e R s m args below meth c T' L' cells slots → T'.heap = h' → Wr h h' a i (.int w) → Arv Z h' a kA .byte n (vs.set i (.int w)) dv → Wp p e below Q F T' (mkF m q Ls st)) : Wp p e below Q F T (mkF m pc Ls ((.int v) :: .int j :: .ref a :: st)) := by
  subst hq hi hw
  obtain ⟨cl, Ar, q1, S, M, H, G⟩ := hA
  obtain ⟨T', h', X', e', W, st'⟩ := stB X hx hZ eT Ar (j := j) (inb_of S ⟨hj0, hjn⟩) (g := mkF m pc Ls ((.int v) :: .int j :: .ref a :: st)) rfl rfl hd
  exact Wp.st st' (k T' h' _ (fun n0 ws N g => Fk.snoc N g) X' e' W (setCore Ar q1 S M H G (fits_nar_byte _) W hlen))
theorem lastore (X : Stand p l e R s m args below meth c T locs cells slots) (hx : p.tables.exec = Jvm.exec) (hZ : Z.Warmed39 s.vm) (eT : T.heap = h) {a : Addr} {kA : ClassId} {n j : Int32} {vs : List Value} {dv : Value} {v : Int64} (hA : Arv Z h a kA .long n vs dv) (hj0 : ¬ j < 0) (hjn : j < n) (i : Nat) (hi : j.toNatClampNeg = i) (hlen : i < vs.length) {w : Int64} (hw : (v) = w) (hd : decode c.code pc = .ok (.lastore, 1)) (hq : pc + 1 = q)
    (k : ∀ (T' : State) (h' : Heap) (L' : List Loc), (∀ n0 ws, Fk n0 ws locs → (a ∈ ws ∨ n0 ≤ a) → Fk n0 ws L') → Stand p l e R s m args below meth c T' L' cells slots → T'.heap = h' → Wr h h' a i (.long w) → Arv Z h' a kA .long n (vs.set i (.long w)) dv → Wp p e below Q F T' (mkF m q Ls st)) : Wp p e below Q F T (mkF m pc Ls ((.long v) :: .int j :: .ref a :: st)) := by
  subst hq hi hw
  obtain ⟨cl, Ar, q1, S, M, H, G⟩ := hA
  obtain ⟨T', h', X', e', W, st'⟩ := stJ X hx hZ eT Ar (j := j) (inb_of S ⟨hj0, hjn⟩) (g := mkF m pc Ls ((.long v) :: .int j :: .ref a :: st)) rfl rfl hd
  exact Wp.st st' (k T' h' _ (fun n0 ws N g => Fk.snoc N g) X' e' W (setCore Ar q1 S M H G rfl W hlen))
/-- calls: what comes back, in the continuation -/
abbrev Go (p : Program) (l : Launch) (e : Env) (R : Room) (s : State) (m : MethodId) (args : Array Value) (below : List Frame) (meth : Method) (c : Code) (locs : List Loc) (cells slots : Nat) (Q : Option Value → State → List Loc → Prop) (F : Outcome → State → List Loc → Prop) (q : Nat) (Ls : Array Slot) (rest : List Value) (kc ks : Nat) (Qc : Option Value → Heap → List Loc → Prop) : Prop :=
  ∀ (T' : State) (h' : Heap) (v : Option Value) (L : List Loc), Stand p l e R s m args below meth c T' (locs ++ L) (cells + kc) (slots + ks) → T'.heap = h' → Qc v h' L → Wp p e below Q F T' (mkF m q Ls (v.toList ++ rest))
theorem callS (X : Stand p l e R s m args below meth c T locs cells slots) (hx : p.tables.exec = Jvm.exec) (hZ : Z.Warmed39 s.vm) {own : String} {index : Nat} {y : MethodName} {bytes : ByteArray} {maxL : Nat} {ret : Option FieldType} (hown : s.vm.findClass own = some m.cls) (w1 : (Cond.methodLink own index y).before a0 Z = true) (w2 : (Cond.static y).before a0 Z = true) (w3 : (Cond.initialized y.cls).before a0 Z = true) (w4 : (Cond.code y bytes maxL ret).before a0 Z = true)
    (hy : y.cls ≠ "java/lang/invoke/MethodHandle" ∧ y.cls ≠ "java/lang/invoke/VarHandle") {W : Nat} {as' : List Value} {kc ks : Nat} {Qc : Option Value → Heap → List Loc → Prop} (hK : Pay l R p e below s args y 3 W as'.toArray h kc ks Qc) (eT : T.heap = h) (hsize : Ls.size = c.maxLocals) {rest : List Value} (hlen : ∀ sig, parseMethodDescriptor y.desc = some sig → as'.length = sig.parameters.length)
    (hstack : st = as'.reverse ++ rest) (hW : (rest.map fun v => v.category).sum ≤ W) (hd : decode c.code pc = .ok (.invokestatic index, 3)) (hq : pc + 3 = q) (hc : cells + kc ≤ R.cells) (hs : slots + ks ≤ R.slots)
    (k : Go p l e R s m args below meth c locs cells slots Q F q Ls rest kc ks Qc) : Wp p e below Q F T (mkF m pc Ls st) := by
  subst hq
  obtain ⟨v, vm₁, ⟨T', L', k', n'⟩, -, X', ⟨L, hQ, r1, r2, r3⟩, st'⟩ := Jvm.LawKit.callS X hx (y := y) hown (mvT hZ w1) (mvT hZ w2) (mvT hZ w3) (mvT hZ w4) hy hK (g := mkF m pc Ls st) rfl hsize hlen hstack (by show 2 * 0 + _ ≤ _; omega) hd (fun _ _ => ⟨rfl, eT, hc, hs⟩)
  dsimp only [Pt.U, Pt.locs, Pt.cells, Pt.slots] at X' r1 r2 r3 st' hQ
  subst r1 r2 r3
  exact Wp.st st' (k T' _ v L X' rfl hQ)
theorem callI (X : Stand p l e R s m args below meth c T locs cells slots) (hx : p.tables.exec = Jvm.exec) (hZ : Z.Warmed39 s.vm) {own : String} {index : Nat} {y : MethodName} {bytes : ByteArray} {maxL : Nat} (hy1 : y.name = "<init>") (hown : s.vm.findClass own = some m.cls) (w1 : (Cond.methodLink own index y).before a0 Z = true) (w2 : (Cond.instanceMethod y).before a0 Z = true) (w4 : (Cond.code y bytes maxL none).before a0 Z = true)
    (hy : y.cls ≠ "java/lang/invoke/MethodHandle" ∧ y.cls ≠ "java/lang/invoke/VarHandle") {W : Nat} {a : Addr} {as' : List Value} {kc ks : Nat} {Qc : Option Value → Heap → List Loc → Prop} (hK : Pay l R p e below s args y 3 W (.ref a :: as').toArray h kc ks Qc) (eT : T.heap = h) (hsize : Ls.size = c.maxLocals) {rest : List Value} (hlen : ∀ sig, parseMethodDescriptor y.desc = some sig → as'.length = sig.parameters.length)
    (hstack : st = as'.reverse ++ .ref a :: rest) (hW : (rest.map fun v => v.category).sum ≤ W) (hd : decode c.code pc = .ok (.invokespecial index, 3)) (hq : pc + 3 = q) (hc : cells + kc ≤ R.cells) (hs : slots + ks ≤ R.slots)
    (k : Go p l e R s m args below meth c locs cells slots Q F q Ls rest kc ks Qc) : Wp p e below Q F T (mkF m pc Ls st) := by
  subst hq
  obtain ⟨v, vm₁, ⟨T', L', k', n'⟩, -, X', ⟨L, hQ, r1, r2, r3⟩, st'⟩ := X.specialBack hx (y := y) hy1 hown (mvT hZ w1) (mvT hZ w2) (mvT hZ w4) hy hK (g := mkF m pc Ls st) rfl hsize (Steps.refl _) hlen hstack (by show 2 * 0 + _ ≤ _; omega) hd (fun _ _ => ⟨rfl, eT, hc, hs⟩)
  dsimp only [Pt.U, Pt.locs, Pt.cells, Pt.slots] at X' r1 r2 r3 st' hQ
  subst r1 r2 r3
  exact Wp.tr st' (k T' _ v L X' rfl hQ)
theorem callV (X : Stand p l e R s m args below meth c T locs cells slots) (hx : p.tables.exec = Jvm.exec) (hZ : Z.Warmed39 s.vm) {own C : String} {index : Nat} {y z : MethodName} (hown : s.vm.findClass own = some m.cls) (w1 : (Cond.methodLink own index y).before a0 Z = true) (w2 : (Cond.declares y).before a0 Z = true) (hnf : NotFace s y) (w3 : (Cond.selects C y z).before a0 Z = true) (w4 : (Cond.instanceMethod z).before a0 Z = true)
    (hy : y.cls ≠ "java/lang/invoke/MethodHandle" ∧ y.cls ≠ "java/lang/invoke/VarHandle") {W : Nat} {a : Addr} {as' : List Value} {kc ks : Nat} {Qc : Option Value → Heap → List Loc → Prop} (hK : Pay l R p e below s args z 3 W (.ref a :: as').toArray h kc ks Qc) (eT : T.heap = h) (hE : Exa Z h a C) (hsize : Ls.size = c.maxLocals) {rest : List Value} (hlen : ∀ sig, parseMethodDescriptor y.desc = some sig → as'.length = sig.parameters.length)
    (hstack : st = as'.reverse ++ .ref a :: rest) (hW : (rest.map fun v => v.category).sum ≤ W) (hd : decode c.code pc = .ok (.invokevirtual index, 3)) (hq : pc + 3 = q) (hc : cells + kc ≤ R.cells) (hs : slots + ks ≤ R.slots)
    (k : Go p l e R s m args below meth c locs cells slots Q F q Ls rest kc ks Qc) : Wp p e below Q F T (mkF m pc Ls st) := by
  subst hq
  obtain ⟨cq, kq, qa, qb, qc⟩ := isOf hZ eT hE
  obtain ⟨v, vm₁, ⟨T', L', k', n'⟩, -, X', ⟨L, hQ, r1, r2, r3⟩, st'⟩ := X.virtualBack hx (y := y) (z := z) hown (mvT hZ w1) (mvT hZ w2) hnf (mvT hZ w3) (mvT hZ w4) hy hK qa qc (g := mkF m pc Ls st) rfl hsize (Steps.refl _) hlen hstack (by show 2 * 0 + _ ≤ _; omega) hd (fun _ _ => ⟨rfl, eT, hc, hs⟩)
  dsimp only [Pt.U, Pt.locs, Pt.cells, Pt.slots] at X' r1 r2 r3 st' hQ
  subst r1 r2 r3
  exact Wp.tr st' (k T' _ v L X' rfl hQ)
/-- ends, narrow: the body's own frame at the leave -/
theorem retI' (X : Stand p l e R s m args below meth c T locs cells slots) (hx : p.tables.exec = Jvm.exec) (hlk : meth.locks = false) (hr : meth.sig.returnType = some .int) {z : Int32} (hd : decode c.code pc = .ok (.ireturn, 1)) {C S : Nat} (hC : cells ≤ C) (hS : slots ≤ S) {Qc : Option Value → Heap → List Loc → Prop} (eT : T.heap = h) (k : Qc (some (.int z)) h locs) : Wp p e below (fun v t L => Qc v t.heap L) (NF s C S) T (mkF m pc Ls (.int z :: st)) := by
  obtain ⟨fs, h1, h2, h3, hW, hs⟩ := X.leave (v := some (.int z)) (fun h => by rw [hr] at h; cases h)
  refine ⟨_, _, _, ?_, h2, h3, (by subst eT; exact k), ⟨_, rfl⟩, hW, hs.mono hC hS⟩
  exact retOut X hx hr rfl (Or.inl ⟨rfl, Or.inl rfl, _, rfl⟩) hd h1
theorem retZ' (X : Stand p l e R s m args below meth c T locs cells slots) (hx : p.tables.exec = Jvm.exec) (hlk : meth.locks = false) {t : FieldType} (hr : meth.sig.returnType = some t) (ht : t = .boolean ∨ t = .byte ∨ t = .char ∨ t = .short) {z : Int32} (hd : decode c.code pc = .ok (.ireturn, 1)) {C S : Nat} (hC : cells ≤ C) (hS : slots ≤ S) {Qc : Option Value → Heap → List Loc → Prop} (eT : T.heap = h) (k : Qc (some (.int (nar t z))) h locs) : Wp p e below (fun v t L => Qc v t.heap L) (NF s C S) T (mkF m pc Ls (.int z :: st)) := by
  obtain ⟨fs, h1, h2, h3, hW, hs⟩ := X.leave (v := some (.int (nar t z))) (fun h => by rw [hr] at h; cases h)
  refine ⟨_, _, _, ?_, h2, h3, (by subst eT; exact k), ⟨_, rfl⟩, hW, hs.mono hC hS⟩
  exact retN X hx (t := t) hr ht hd h1
theorem retA' (X : Stand p l e R s m args below meth c T locs cells slots) (hx : p.tables.exec = Jvm.exec) (hlk : meth.locks = false) {t : FieldType} (hr : meth.sig.returnType = some t) (ht : t.isReference = true) {w : Value} (hw : w.isRef = true) (hd : decode c.code pc = .ok (.areturn, 1)) {C S : Nat} (hC : cells ≤ C) (hS : slots ≤ S) {Qc : Option Value → Heap → List Loc → Prop} (eT : T.heap = h) (k : Qc (some w) h locs) : Wp p e below (fun v t L => Qc v t.heap L) (NF s C S) T (mkF m pc Ls (w :: st)) := by
  obtain ⟨fs, h1, h2, h3, hW, hs⟩ := X.leave (v := some w) (fun h => by rw [hr] at h; cases h)
  refine ⟨_, _, _, ?_, h2, h3, (by subst eT; exact k), ⟨_, rfl⟩, hW, hs.mono hC hS⟩
  exact retOut X hx hr (narR ht) (Or.inr (Or.inr (Or.inr (Or.inr ⟨rfl, ht, hw⟩)))) hd h1
theorem ret0' (X : Stand p l e R s m args below meth c T locs cells slots) (hx : p.tables.exec = Jvm.exec) (hlk : meth.locks = false) (hr : meth.sig.returnType = none) (hd : decode c.code pc = .ok (.return_, 1)) {C S : Nat} (hC : cells ≤ C) (hS : slots ≤ S) {Qc : Option Value → Heap → List Loc → Prop} (eT : T.heap = h) (k : Qc none h locs) : Wp p e below (fun v t L => Qc v t.heap L) (NF s C S) T (mkF m pc Ls []) := by
  obtain ⟨fs, h1, h2, h3, hW, hs⟩ := X.leave (v := none) (fun _ => rfl)
  refine ⟨_, _, _, ?_, h2, h3, (by subst eT; exact k), ⟨_, rfl⟩, hW, hs.mono hC hS⟩
  exact X.returnOut hx hr hd h1
end B
end Wk
end Jvm.OwnW
namespace Jvm.OwnW
open Sem ClassFile Op Lib Jvm.Stand Jvm.Free Jvm.LawKit Jvm.RoadKit
section C
variable {p : Program} {l : Launch} {e : Env} {R : Room} {s : State} {m : MethodId} {args : Array Value} {below : List Frame} {meth : Method} {c : Code} {T : State} {locs : List Loc} {cells slots : Nat} {Z : State} {a0 : Array Value} {h : Heap} {vm0 : Vm}
/-- the constant's entry is booked in the tables vm -/
def LitV (Z : State) (vm : Vm) (own : String) (i : Nat) (a : Addr) : Prop := Lit (Z.setVm vm) own i a
theorem LitV.warm {vm1 : Vm} {own : String} {i : Nat} {a : Addr} (L : LitV Z vm0 own i a) (hW : (s.setVm vm0).Warmed39 vm1) : LitV Z vm1 own i a := by
  have L' : Lit (s.setVm vm0) own i a := L
  have q := Lit.stays L' hW
  exact q
theorem ibWarm {vm1 : Vm} {Ts : List String} (I : IB Z vm0 Ts) (hW : (s.setVm vm0).WarmedH vm1) : IB Z vm1 Ts := by
  obtain ⟨more, e, q⟩ := I
  exact ⟨more, hW.interned_eq.trans e, q⟩
theorem ibMono {Ts Ts' : List String} (I : IB Z vm0 Ts) (q : ∀ t ∈ Ts, t ∈ Ts') : IB Z vm0 Ts' := by
  obtain ⟨more, e, r⟩ := I
  exact ⟨more, e, fun x hx => by obtain ⟨t, h1, h2⟩ := r x hx; exact ⟨t, q t h1, h2⟩⟩
theorem sinceMono {vm1 : Vm} {n n' : Nat} (h : s.Since vm1 n) (q : n ≤ n') : s.Since vm1 n' := ⟨h.1, fun j p a b => ⟨(h.2 j p a b).1, Nat.lt_of_lt_of_le (h.2 j p a b).2 q⟩⟩
/-- a body's contract: wide (it may load String constants) -/
abbrev CtrW (l : Launch) (Z : State) (y : MethodName) (bytes : ByteArray) (maxL : Nat) (ret : Option FieldType) (ws : List Jvm.Cond) (rm : Room) (as' : Array Value) (h0 : Heap) (P : Vm → Prop) (Q : Option Value → Vm → Heap → List Loc → Prop) : Prop :=
  MetFree l y (head1 (Jvm.Cond.code y bytes maxL ret :: ws) rm) (fun a U => a = as' ∧ Z.Warmed39 U.vm ∧ U.heap = h0 ∧ P U.vm) (fun _ _ _ _ _ => True) (fun _ U o U' => ∃ v L, o = .returned v ∧ Q v U'.vm U'.heap L ∧ ReturnedEndW U o U' L rm.cells rm.slots)
theorem CtrW.intro {y : MethodName} {bytes : ByteArray} {maxL : Nat} {ret : Option FieldType} {ws : List Jvm.Cond} {rm : Room} {as' : Array Value} {h0 : Heap} {P : Vm → Prop} {Q : Option Value → Vm → Heap → List Loc → Prop} {Ls : MethodId → Array Slot} (hn : plainFor y = true) (hef : ∀ m, entryFrame m as' maxL = mkF m 0 (Ls m) [])
    (body : ∀ (p : Program) (e : Env) (s : State) (m : MethodId) (below : List Frame) (meth : Method) (c : Code) (s₁ : State) (vm : Vm), p.tables.exec = Jvm.exec → c.code = bytes → c.maxLocals = maxL → meth.sig.returnType = ret → meth.locks = false → Z.Warmed39 vm → vm.findClass y.cls = some m.cls → meth.name = y.name → s.heap = h0 → Stand p l e rm (s.setVm vm) m as' below meth c s₁ [] 0 0 → s₁.heap = h0 → s.Since vm h0.size → P vm →
      Wp p e below (fun v t L => Q v t.vm t.heap L) (WF s rm.cells rm.slots) s₁ (mkF m 0 (Ls m) [])) : CtrW l Z y bytes maxL ret ws rm as' h0 P Q := by
  refine MetFree.of_bodySF hn hisR ?_
  intro p e s m args below meth c s₁ Bd hml0 hP hK
  obtain ⟨rfl, hZ, hh, hPv⟩ := hP
  obtain ⟨t, v, L, h1, h2, h3, h4, h5⟩ := body p e s m below meth c s₁ s.vm Bd.exec Bd.bytes hml0 Bd.returns Bd.notSynchronized hZ (findClass_of_methodNamed Bd.named) (name_of_methodNamed Bd.named Bd.method).1 hh (Stand.of_body Bd) (by rw [← hh, Bd.state]; rfl) ((State.WarmedH.refl s).since _) hPv
  exact ⟨t, _, castTop (hef m) h1, h2, h3, v, L, rfl, h4, h5⟩
abbrev PayW (l : Launch) (R : Room) (p : Program) (e : Env) (below : List Frame) (s : State) (args : Array Value) (y : MethodName) (len W : Nat) (as' : Array Value) (h : Heap) (kc ks : Nat) (Q : Option Value → Vm → Heap → List Loc → Prop) : Prop :=
  BackS l R p e below s args y len W (fun A a => a = as' ∧ A.U.heap = h ∧ A.cells + kc ≤ R.cells ∧ A.slots + ks ≤ R.slots) (fun A _ v B => ∃ L, Q v B.U.vm B.U.heap L ∧ B.locs = A.locs ++ L ∧ B.cells = A.cells + kc ∧ B.slots = A.slots + ks)
theorem payW {y : MethodName} {bytes : ByteArray} {maxL : Nat} {ret : Option FieldType} {rm : Room} {len W : Nat} {as' : Array Value} {P : Vm → Prop} {Q : Option Value → Vm → Heap → List Loc → Prop}
    (hM : CtrW l Z y bytes maxL ret [] rm as' h P Q) (hZ : Z.Warmed39 s.vm) (wc : (Cond.code y bytes maxL ret).before a0 Z = true) (wz : (Cond.initialized y.cls).before a0 Z = true) (hf : rm.frames + 1 ≤ R.frames) (hl : W + (maxL + 11) + rm.locals ≤ R.locals) (hP : ∀ vm, s.WarmedH vm → P vm) :
    PayW l R p e below s args y len W as' h rm.cells rm.slots Q :=
  BackS.of_freeW (bytes := bytes) (maxL := maxL) (ret := ret) (E := fun _ _ o t L k n => k = rm.cells ∧ n = rm.slots ∧ ∃ v, o = .returned v ∧ Q v t.vm t.heap L) hM hf hl
    (fun m meth c A a Y hp => have hU : Z.Warmed39 A.U.vm := wtrans hZ Y.warmed
      ⟨by show (Cond.and _ .tt).before a A.U = true; rw [Cond.before_and, mv hU wc]; rfl, mv hU wc, mv hU wz, hp.2.2.1, hp.2.2.2⟩)
    (fun m meth c A a g mk Y hp => ⟨hp.1, wtrans hZ Y.warmed, hp.2.1, hP _ Y.warmed⟩) (fun _ _ _ _ _ _ _ _ _ => trivial)
    (fun _ _ _ _ ⟨v, L, h1, h2, h3⟩ => ⟨L, _, _, h3, rfl, rfl, v, h1, h2⟩)
    (fun m meth c A a g mk v t L k n Y hp _ _ ⟨e1, e2, v', e3, e4⟩ => by cases e3; subst e1 e2; exact ⟨L, e4, rfl, rfl, rfl⟩)
end C
namespace Wk
section D
variable {p : Program} {l : Launch} {e : Env} {R : Room} {s : State} {m : MethodId} {args : Array Value} {below : List Frame} {meth : Method} {c : Code} {T : State} {locs : List Loc} {cells slots : Nat} {Z : State} {a0 : Array Value} {h : Heap} {Q : Option Value → State → List Loc → Prop} {F : Outcome → State → List Loc → Prop} {pc q : Nat} {Ls : Array Slot} {st : List Value} {vm0 : Vm}
/-- behind a call that may have interned -/
abbrev GoW (p : Program) (l : Launch) (e : Env) (R : Room) (s : State) (m : MethodId) (args : Array Value) (below : List Frame) (meth : Method) (c : Code) (locs : List Loc) (cells slots : Nat) (Q : Option Value → State → List Loc → Prop) (F : Outcome → State → List Loc → Prop) (q : Nat) (Ls : Array Slot) (rest : List Value) (Z : State) (vm0 : Vm) (own : String) (kc ks : Nat) (Qc : Option Value → Vm → Heap → List Loc → Prop) : Prop :=
  ∀ (T' : State) (h' : Heap) (v : Option Value) (L : List Loc) (vm1 : Vm), Stand p l e R (s.setVm vm1) m args below meth c T' (locs ++ L) (cells + kc) (slots + ks) → T'.heap = h' → s.Since vm1 h'.size → Z.Warmed39 vm1 → vm1.findClass own = some m.cls → (s.setVm vm0).Warmed39 vm1 → Qc v vm1 h' L → Wp p e below Q F T' (mkF m q Ls (v.toList ++ rest))
theorem callSW (X : Stand p l e R (s.setVm vm0) m args below meth c T locs cells slots) (hx : p.tables.exec = Jvm.exec) {k0 : Nat} (hS : s.Since vm0 k0) (hk : k0 ≤ h.size) (hZ : Z.Warmed39 vm0) {own : String} {index : Nat} {y : MethodName} {bytes : ByteArray} {maxL : Nat} {ret : Option FieldType} (hown : vm0.findClass own = some m.cls) (w1 : (Cond.methodLink own index y).before a0 Z = true) (w2 : (Cond.static y).before a0 Z = true) (w3 : (Cond.initialized y.cls).before a0 Z = true) (w4 : (Cond.code y bytes maxL ret).before a0 Z = true)
    (hy : y.cls ≠ "java/lang/invoke/MethodHandle" ∧ y.cls ≠ "java/lang/invoke/VarHandle") {W : Nat} {as' : List Value} {kc ks : Nat} {Qc : Option Value → Vm → Heap → List Loc → Prop} (hK : PayW l R p e below (s.setVm vm0) args y 3 W as'.toArray h kc ks Qc) (eT : T.heap = h) (hsize : Ls.size = c.maxLocals) {rest : List Value} (hlen : ∀ sig, parseMethodDescriptor y.desc = some sig → as'.length = sig.parameters.length)
    (hstack : st = as'.reverse ++ rest) (hW : (rest.map fun v => v.category).sum ≤ W) (hd : decode c.code pc = .ok (.invokestatic index, 3)) (hq : pc + 3 = q) (hc : cells + kc ≤ R.cells) (hs : slots + ks ≤ R.slots)
    (k : GoW p l e R s m args below meth c locs cells slots Q F q Ls rest Z vm0 own kc ks Qc) : Wp p e below Q F T (mkF m pc Ls st) := by
  subst hq
  have hZ' : Z.Warmed39 (s.setVm vm0).vm := hZ
  have hown' : (s.setVm vm0).vm.findClass own = some m.cls := hown
  obtain ⟨v, vm₁, ⟨T', L', k', n'⟩, -, X', h2, g2, ⟨L, hQ, r1, r2, r3⟩, st'⟩ := callSS X hx (y := y) hown' (mvT hZ' w1) (mvT hZ' w2) (mvT hZ' w3) (mvT hZ' w4) hy hK (g := mkF m pc Ls st) rfl hsize hlen hstack (by show 2 * 0 + _ ≤ _; omega) hd (fun _ _ => ⟨rfl, eT, hc, hs⟩)
  dsimp only [Pt.U, Pt.locs, Pt.cells, Pt.slots] at X' r1 r2 r3 st' hQ h2 g2
  subst r1 r2 r3
  obtain ⟨X2, hS2, hZ2, ho2⟩ := rebS hS (by rw [eT]; exact hk : k0 ≤ T.heap.size) X' h2 g2 hZ' hown'
  exact Wp.tr st' (k T' _ v L T'.vm X2 rfl hS2 hZ2 ho2 h2.1 hQ)
theorem callIW (X : Stand p l e R (s.setVm vm0) m args below meth c T locs cells slots) (hx : p.tables.exec = Jvm.exec) {k0 : Nat} (hS : s.Since vm0 k0) (hk : k0 ≤ h.size) (hZ : Z.Warmed39 vm0) {own : String} {index : Nat} {y : MethodName} {bytes : ByteArray} {maxL : Nat} (hy1 : y.name = "<init>") (hown : vm0.findClass own = some m.cls) (w1 : (Cond.methodLink own index y).before a0 Z = true) (w2 : (Cond.instanceMethod y).before a0 Z = true) (w4 : (Cond.code y bytes maxL none).before a0 Z = true)
    (hy : y.cls ≠ "java/lang/invoke/MethodHandle" ∧ y.cls ≠ "java/lang/invoke/VarHandle") {W : Nat} {a : Addr} {as' : List Value} {kc ks : Nat} {Qc : Option Value → Vm → Heap → List Loc → Prop} (hK : PayW l R p e below (s.setVm vm0) args y 3 W (.ref a :: as').toArray h kc ks Qc) (eT : T.heap = h) (hsize : Ls.size = c.maxLocals) {rest : List Value} (hlen : ∀ sig, parseMethodDescriptor y.desc = some sig → as'.length = sig.parameters.length)
    (hstack : st = as'.reverse ++ .ref a :: rest) (hW : (rest.map fun v => v.category).sum ≤ W) (hd : decode c.code pc = .ok (.invokespecial index, 3)) (hq : pc + 3 = q) (hc : cells + kc ≤ R.cells) (hs : slots + ks ≤ R.slots)
    (k : GoW p l e R s m args below meth c locs cells slots Q F q Ls rest Z vm0 own kc ks Qc) : Wp p e below Q F T (mkF m pc Ls st) := by
  subst hq
  have hZ' : Z.Warmed39 (s.setVm vm0).vm := hZ
  have hown' : (s.setVm vm0).vm.findClass own = some m.cls := hown
  obtain ⟨v, vm₁, ⟨T', L', k', n'⟩, -, X', h2, g2, ⟨L, hQ, r1, r2, r3⟩, st'⟩ := X.specialBackS hx (y := y) hy1 hown' (mvT hZ' w1) (mvT hZ' w2) (mvT hZ' w4) hy hK (g := mkF m pc Ls st) rfl hsize (Steps.refl _) hlen hstack (by show 2 * 0 + _ ≤ _; omega) hd (fun _ _ => ⟨rfl, eT, hc, hs⟩)
  dsimp only [Pt.U, Pt.locs, Pt.cells, Pt.slots] at X' r1 r2 r3 st' hQ h2 g2
  subst r1 r2 r3
  obtain ⟨X2, hS2, hZ2, ho2⟩ := rebS hS (by rw [eT]; exact hk : k0 ≤ T.heap.size) X' h2 g2 hZ' hown'
  exact Wp.tr st' (k T' _ v L T'.vm X2 rfl hS2 hZ2 ho2 h2.1 hQ)
theorem callVW (X : Stand p l e R (s.setVm vm0) m args below meth c T locs cells slots) (hx : p.tables.exec = Jvm.exec) {k0 : Nat} (hS : s.Since vm0 k0) (hk : k0 ≤ h.size) (hZ : Z.Warmed39 vm0) {own C : String} {index : Nat} {y z : MethodName} (hown : vm0.findClass own = some m.cls) (w1 : (Cond.methodLink own index y).before a0 Z = true) (w2 : (Cond.declares y).before a0 Z = true) (hnf : NotFace (s.setVm vm0) y) (w3 : (Cond.selects C y z).before a0 Z = true) (w4 : (Cond.instanceMethod z).before a0 Z = true)
    (hy : y.cls ≠ "java/lang/invoke/MethodHandle" ∧ y.cls ≠ "java/lang/invoke/VarHandle") {W : Nat} {a : Addr} {as' : List Value} {kc ks : Nat} {Qc : Option Value → Vm → Heap → List Loc → Prop} (hK : PayW l R p e below (s.setVm vm0) args z 3 W (.ref a :: as').toArray h kc ks Qc) (eT : T.heap = h) (hE : Exa Z h a C) (hsize : Ls.size = c.maxLocals) {rest : List Value} (hlen : ∀ sig, parseMethodDescriptor y.desc = some sig → as'.length = sig.parameters.length)
    (hstack : st = as'.reverse ++ .ref a :: rest) (hW : (rest.map fun v => v.category).sum ≤ W) (hd : decode c.code pc = .ok (.invokevirtual index, 3)) (hq : pc + 3 = q) (hc : cells + kc ≤ R.cells) (hs : slots + ks ≤ R.slots)
    (k : GoW p l e R s m args below meth c locs cells slots Q F q Ls rest Z vm0 own kc ks Qc) : Wp p e below Q F T (mkF m pc Ls st) := by
  subst hq
  have hZ' : Z.Warmed39 (s.setVm vm0).vm := hZ
  have hown' : (s.setVm vm0).vm.findClass own = some m.cls := hown
  obtain ⟨cq, kq, qa, qb, qc⟩ := isOf hZ' eT hE
  obtain ⟨v, vm₁, ⟨T', L', k', n'⟩, -, X', h2, g2, ⟨L, hQ, r1, r2, r3⟩, st'⟩ := X.virtualBackS hx (y := y) (z := z) hown' (mvT hZ' w1) (mvT hZ' w2) hnf (mvT hZ' w3) (mvT hZ' w4) hy hK qa qc (g := mkF m pc Ls st) rfl hsize (Steps.refl _) hlen hstack (by show 2 * 0 + _ ≤ _; omega) hd (fun _ _ => ⟨rfl, eT, hc, hs⟩)
  dsimp only [Pt.U, Pt.locs, Pt.cells, Pt.slots] at X' r1 r2 r3 st' hQ h2 g2
  subst r1 r2 r3
  obtain ⟨X2, hS2, hZ2, ho2⟩ := rebS hS (by rw [eT]; exact hk : k0 ≤ T.heap.size) X' h2 g2 hZ' hown'
  exact Wp.tr st' (k T' _ v L T'.vm X2 rfl hS2 hZ2 ho2 h2.1 hQ)
/-- a String constant, its text not yet loaded since the case's start -/
theorem ldcNew (X : Stand p l e R (s.setVm vm0) m args below meth c T locs cells slots) (hx : p.tables.exec = Jvm.exec) (hZ : Z.Warmed39 vm0) {own text : String} {index : Nat} (hown : vm0.findClass own = some m.cls) (w : (Cond.stringLink own index text).before a0 Z = true) (wS : ∀ a ∈ Bundle.stringAtoms, a.before a0 Z = true) (eT : T.heap = h) {k0 : Nat} (hS : s.Since vm0 k0) (hk : k0 ≤ h.size) (N : Fr s.heap.size locs) (O : Old Z Z.heap.size s.heap) {Ts : List String} (I : IB Z vm0 Ts) (hnot : text ∉ Ts) (hh : Jvm.Lit.constHeld Z own index) (hcw : Jvm.Lit.compactW.before a0 Z = true)
    {vs : List Value} {z : Int32} (ht : (∀ c ∈ text.toList, c.toNat < 256) ∧ text.toList.map (fun c => Value.int (Jvm.Lit.byteI c.toNat.toUInt16)) = vs) (hz : ¬ z < 0) (hl : z.toNatClampNeg = vs.length) (hd : decode c.code pc = .ok (.ldc index, 2)) (hq : pc + 2 = q) (n : Nat) (hn : 4 * text.toList.length ≤ n) (hbig : n ≤ 536870912) (hc : cells + 2 ≤ R.cells) (hl' : slots + (n + 4) ≤ R.slots)
    (k : ∀ (T' : State) (h' : Heap) (a b : Addr) (kb : ClassId) (vm1 : Vm), Stand p l e R (s.setVm vm1) m args below meth c T' locs (cells + 2) (slots + (n + 4)) → T'.heap = h' → Ext h h' → s.Since vm1 h'.size → Z.Warmed39 vm1 → vm1.findClass own = some m.cls → (s.setVm vm0).Warmed39 vm1 → Exa Z h' a "java/lang/String" → Fld Z h' a "java/lang/String" "coder" "B" (.int 0) → Fld Z h' a "java/lang/String" "value" "[B" (.ref b) → Arv Z h' b kb .byte z vs (.int 0) → IB Z vm1 (text :: Ts) → LitV Z vm1 own index a → Wp p e below Q F T' (mkF m q Ls (.ref a :: st))) : Wp p e below Q F T (mkF m pc Ls st) := by
  subst hq
  have h00 : (s.setVm vm0).Since vm0 h.size := (State.WarmedH.refl (s.setVm vm0)).since _
  obtain ⟨a, T', h', k1, b, kb, X', e', E, hS', hk', hZ', ho', A1, A2, A3, A4, -, -, I', L', st'⟩ := ldcSVL (s := s.setVm vm0) (vm0 := vm0) X hx hZ hown w wS eT h00 (Nat.le_refl _) N (fun b cl q => O.2.2 b cl q) I hnot hh hcw ht hz hl (g := mkF m pc Ls st) rfl hd hn hbig hc hl'
  exact Wp.st st' (k T' h' a b kb T'.vm X' e' E (hS.trans (sinceMono hS' hk') (Nat.le_trans hk E.1)) hZ' ho' hS'.1 A1 A2 A3 A4 I' L')
/-- .. loaded already -/
theorem ldcOld (X : Stand p l e R (s.setVm vm0) m args below meth c T locs cells slots) (hx : p.tables.exec = Jvm.exec) (hZ : Z.Warmed39 vm0) {own text : String} {index : Nat} (hown : vm0.findClass own = some m.cls) (w : (Cond.stringLink own index text).before a0 Z = true) {a : Addr} (L : LitV Z vm0 own index a) (hd : decode c.code pc = .ok (.ldc index, 2)) (hq : pc + 2 = q) (k : Wp p e below Q F T (mkF m q Ls (.ref a :: st))) : Wp p e below Q F T (mkF m pc Ls st) := by
  subst hq
  exact Wp.st (ldcAgain X hx hZ hown w (L : Lit (s.setVm vm0) own index a) (g := mkF m pc Ls st) rfl hd) k
theorem retZW (X : Stand p l e R (s.setVm vm0) m args below meth c T locs cells slots) (hx : p.tables.exec = Jvm.exec) {k0 : Nat} (hS : s.Since vm0 k0) (hk : k0 ≤ h.size) (hlk : meth.locks = false) {t : FieldType} (hr : meth.sig.returnType = some t) (ht : t = .boolean ∨ t = .byte ∨ t = .char ∨ t = .short) {z : Int32} (hd : decode c.code pc = .ok (.ireturn, 1)) {C S : Nat} (hC : cells ≤ C) (hSl : slots ≤ S) {Qc : Option Value → Vm → Heap → List Loc → Prop} (eT : T.heap = h) (k : ∀ vm, (s.setVm vm0).WarmedH vm → Qc (some (.int (nar t z))) vm h locs) : Wp p e below (fun v t L => Qc v t.vm t.heap L) (WF s C S) T (mkF m pc Ls (.int z :: st)) := by
  obtain ⟨fs, h1, h2, h3, hs⟩ := X.leaveW hS (by rw [eT]; exact hk) (v := some (.int (nar t z))) (fun h => by rw [hr] at h; cases h)
  refine ⟨_, _, _, ?_, h2, h3, (by subst eT; exact k _ X.warmed), hs.1, hs.2.1, hs.2.2.1, hs.2.2.2.mono hC hSl⟩
  exact retN X hx (t := t) hr ht hd h1
theorem retAW (X : Stand p l e R (s.setVm vm0) m args below meth c T locs cells slots) (hx : p.tables.exec = Jvm.exec) {k0 : Nat} (hS : s.Since vm0 k0) (hk : k0 ≤ h.size) (hlk : meth.locks = false) {t : FieldType} (hr : meth.sig.returnType = some t) (ht : t.isReference = true) {w : Value} (hw : w.isRef = true) (hd : decode c.code pc = .ok (.areturn, 1)) {C S : Nat} (hC : cells ≤ C) (hSl : slots ≤ S) {Qc : Option Value → Vm → Heap → List Loc → Prop} (eT : T.heap = h) (k : ∀ vm, (s.setVm vm0).WarmedH vm → Qc (some w) vm h locs) : Wp p e below (fun v t L => Qc v t.vm t.heap L) (WF s C S) T (mkF m pc Ls (w :: st)) := by
  obtain ⟨fs, h1, h2, h3, hs⟩ := X.leaveW hS (by rw [eT]; exact hk) (v := some w) (fun h => by rw [hr] at h; cases h)
  refine ⟨_, _, _, ?_, h2, h3, (by subst eT; exact k _ X.warmed), hs.1, hs.2.1, hs.2.2.1, hs.2.2.2.mono hC hSl⟩
  exact retOut X hx hr (narR ht) (Or.inr (Or.inr (Or.inr (Or.inr ⟨rfl, ht, hw⟩)))) hd h1
theorem ret0W (X : Stand p l e R (s.setVm vm0) m args below meth c T locs cells slots) (hx : p.tables.exec = Jvm.exec) {k0 : Nat} (hS : s.Since vm0 k0) (hk : k0 ≤ h.size) (hlk : meth.locks = false) (hr : meth.sig.returnType = none) (hd : decode c.code pc = .ok (.return_, 1)) {C S : Nat} (hC : cells ≤ C) (hSl : slots ≤ S) {Qc : Option Value → Vm → Heap → List Loc → Prop} (eT : T.heap = h) (k : ∀ vm, (s.setVm vm0).WarmedH vm → Qc none vm h locs) : Wp p e below (fun v t L => Qc v t.vm t.heap L) (WF s C S) T (mkF m pc Ls []) := by
  obtain ⟨fs, h1, h2, h3, hs⟩ := X.leaveW hS (by rw [eT]; exact hk) (v := none) (fun _ => rfl)
  refine ⟨_, _, _, ?_, h2, h3, (by subst eT; exact k _ X.warmed), hs.1, hs.2.1, hs.2.2.1, hs.2.2.2.mono hC hSl⟩
  exact X.returnOut hx hr hd h1
end D
end Wk
end Jvm.OwnW
namespace Jvm.OwnW
open Jvm Jvm.ClassFile Sem Op Lib Jvm.Free Jvm.Stand Jvm.LawKit Jvm.RoadKit Bundle
/-- what lies in the target behind a copy of n places -/
def cpF (vs : List Value) (dv : Value) (sp : Nat) (vd : List Value) (dd : Value) (dp n z : Nat) : List Value := (List.range z).map fun j => if dp ≤ j ∧ j < dp + n then vs.getD (sp + (j - dp)) dv else vd.getD j dd
theorem cpF_at {vs : List Value} {dv : Value} {sp : Nat} {vd : List Value} {dd : Value} {dp n z j : Nat} (h : j < z) : (cpF vs dv sp vd dd dp n z).getD j dd = if dp ≤ j ∧ j < dp + n then vs.getD (sp + (j - dp)) dv else vd.getD j dd := by
  simp [cpF, List.getD_eq_getElem?_getD, h]
theorem natOf {x : Int32} (q : ¬ x < 0) : x.toInt = (x.toNatClampNeg : Int) := by
  rw [Int32.lt_iff_toInt_lt] at q
  have z0 : (0 : Int32).toInt = 0 := rfl
  simp only [Int32.toNatClampNeg]
  omega
theorem Fk.cp {n : Nat} {ws : List Addr} {L : List Loc} {b : Addr} {p q : Nat} (N : Fk n ws L) (g : b ∈ ws ∨ n ≤ b) : Fk n ws (L ++ copyLocs b p q) := fun y hy => (List.mem_append.mp hy).elim (N y) fun z => by rw [copyLocs_base z]; exact g
/-- a class that declares a selected method is no interface: her own methods are found in her -/
theorem sameSelf {Z : State} {a0 : Array Value} {y y2 : MethodName} {C : String} (sel : (Cond.selects C y2 y2).before a0 Z = true) (hy : y2.cls = y.cls) (ins : (Cond.instanceMethod y).before a0 Z = true) (hmh : y.cls ≠ "java/lang/invoke/MethodHandle" ∧ y.cls ≠ "java/lang/invoke/VarHandle") : (Cond.sameMethod y.cls y.cls y.name y.desc).before a0 Z = true := by
  obtain ⟨m, meth, hn, -, -, -⟩ := Cond.instanceMethod_spec ins
  obtain ⟨c2, r2, m2, -, -, q3, -, kP, hkP, hkPi⟩ := Cond.selects_spec sel
  have f1 := findClass_of_methodNamed hn
  have f2 := findClass_of_methodNamed q3
  rw [hy, f1] at f2
  have em : m2.cls = m.cls := (Option.some.inj f2).symm
  have hf := State.methodFound?_of_named hn hmh
  have hn' : Z.methodNamed? ⟨y.cls, y.name, y.desc⟩ = some m := hn
  simp [Cond.before, Cond.holds, Cond.value, f1, hf, hn', ← em, hkP, hkPi]
theorem declOf {Z : State} {a0 : Array Value} {y : MethodName} {bytes : ByteArray} {ml : Nat} {ret : Option FieldType} (ins : (Cond.instanceMethod y).before a0 Z = true) (code : (Cond.code y bytes ml ret).before a0 Z = true) : (Cond.declares y).before a0 Z = true := by
  obtain ⟨m, meth, hn, hm, hs, -⟩ := Cond.instanceMethod_spec ins
  obtain ⟨m2, cM, q1, -, -, -, -, -, -, hsig⟩ := Cond.code_spec hn code
  cases hm.symm.trans q1
  simp [Cond.before, Cond.holds, Cond.value, hn, hm, hs, hsig]
theorem nfSib {s : State} {args : Array Value} {C : String} {y y2 : MethodName} (sel : (Cond.selects C y2 y2).before args s = true) (hy : y2.cls = y.cls) : NotFace s y := fun r0 h0 => by
  obtain ⟨c2, r2, m2, -, -, q3, -, kP, hkP, hkPi⟩ := Cond.selects_spec sel
  have f1 := findClass_of_methodNamed h0
  have f2 := findClass_of_methodNamed q3
  rw [hy, f1] at f2
  have em : m2.cls = r0.cls := (Option.some.inj f2).symm
  exact ⟨kP, em ▸ hkP, hkPi⟩
namespace Wk
variable {p : Program} {l : Launch} {e : Env} {R : Room} {s : State} {m : MethodId} {args : Array Value} {below : List Frame} {meth : Method} {c : Code} {T : State} {locs : List Loc} {cells slots : Nat} {Z : State} {a0 : Array Value} {h : Heap} {Q : Option Value → State → List Loc → Prop} {F : Outcome → State → List Loc → Prop} {pc q : Nat} {Ls : Array Slot} {st : List Value}
theorem cpB (X : Stand p l e R s m args below meth c T locs cells slots) (hx : p.tables.exec = Jvm.exec) (hZ : Z.Warmed39 s.vm) {own : String} {index : Nat} (hown : s.vm.findClass own = some m.cls)
    (w1 : (Cond.methodLink own index Jvm.Stand.acN).before a0 Z = true) (w2 : (Cond.native Jvm.Stand.acN).before a0 Z = true) (w3 : (Cond.static Jvm.Stand.acN).before a0 Z = true) (w4 : (Cond.initialized "java/lang/System").before a0 Z = true) (eT : T.heap = h)
    {a b : Addr} {k1 k2 : ClassId} {z1 z2 sp dp nn : Int32} {vs vd : List Value} {dv dd : Value} (A : Arv Z h a k1 .byte z1 vs dv) (B : Arv Z h b k2 .byte z2 vd dd)
    (h1 : ¬ sp < 0) (h2 : ¬ dp < 0) (h3 : ¬ nn < 0) (h4 : sp.toNatClampNeg + nn.toNatClampNeg ≤ z1.toNatClampNeg) (h5 : dp.toNatClampNeg + nn.toNatClampNeg ≤ z2.toNatClampNeg)
    (hsize : Ls.size = c.maxLocals) (hd : decode c.code pc = .ok (.invokestatic index, 3)) (hq : pc + 3 = q) (hf : 1 ≤ R.frames) (W : Nat) (hW : (st.map fun v => v.category).sum ≤ W) (hl : W + (nativeFrameWords "java/lang/System" "arraycopy" 5 + 11) ≤ R.locals)
    (kk : ∀ (T' : State) (h' : Heap) (L' : List Loc), (∀ n0 ws, Fk n0 ws locs → (b ∈ ws ∨ n0 ≤ b) → Fk n0 ws L') → Stand p l e R s m args below meth c T' L' cells slots → T'.heap = h' → Keep h h' [b] →
      Arv Z h' b k2 .byte z2 (cpF vs dv sp.toNatClampNeg vd dd dp.toNatClampNeg nn.toNatClampNeg z2.toNatClampNeg) dd → Wp p e below Q F T' (mkF m q Ls st)) :
    Wp p e below Q F T (mkF m pc Ls (.int nn :: .int dp :: .ref b :: .int sp :: .ref a :: st)) := by
  subst hq
  obtain ⟨cs, As, -, Ss, -, Hs, Gs⟩ := A
  obtain ⟨cd, Ad, qd, Sd, Nd, Hd, Gd⟩ := B
  obtain ⟨os, ks, hks, sc, hsk⟩ := State.isArrayOf_alike hZ.alike As.2.1
  obtain ⟨od, kd, hkd, dc, hdk⟩ := State.isArrayOf_alike hZ.alike Ad.2.1
  have src : ∀ i, i < nn.toNatClampNeg → cs.slots.getD (sp.toNatClampNeg + i) .null = vs.getD (sp.toNatClampNeg + i) dv := fun i hi => by
    rw [Array.getD_eq_getD_getElem?, Hs _ (by omega)]
    rfl
  obtain ⟨vm₁, hW₁, X', st'⟩ := X.arraycopyK hx hown (mvT hZ w1) (mvT hZ w2) (mvT hZ w3) (mvT hZ w4) (by rw [eT]; exact As.1) (by rw [eT]; exact Ad.1) os od As.2.2 Ad.2.2 hks hkd hsk hdk (by decide) h1 h2 h3 (by rw [natOf h1, natOf h3, Ss]; omega) (by rw [natOf h2, natOf h3, Sd]; omega)
    (fun vm₁ _ i hi => by
      rw [src i hi]
      have q := Gs (sp.toNatClampNeg + i) (by omega)
      refine ⟨q, ?_⟩
      generalize vs.getD (sp.toNatClampNeg + i) dv = u at q
      cases u <;> first | trivial | (simp [fits] at q)) (g := mkF m pc Ls (.int nn :: .int dp :: .ref b :: .int sp :: .ref a :: st)) rfl hsize rfl hd hf (by show 2 * 0 + _ + _ ≤ _; omega)
  have hb : b < h.size := Ad.lt
  have eh : ((T.setVm vm₁).setCell b (copied cs cd sp dp nn)).heap = h.setIfInBounds b (copied cs cd sp dp nn) := by rw [← eT]; rfl
  have fc := cd.storeRun_facts dp.toNatClampNeg (cs.stretch sp.toNatClampNeg nn.toNatClampNeg)
  have f1 : (copied cs cd sp dp nn).cls = cd.cls := fc.1
  have f2 : (copied cs cd sp dp nn).vm = cd.vm := fc.2.1
  have f3 : (copied cs cd sp dp nn).slots.size = cd.slots.size := fc.2.2.1
  have ln : (cs.stretch sp.toNatClampNeg nn.toNatClampNeg).length = nn.toNatClampNeg := by simp [Cell.stretch]
  have val : ∀ j, j < cd.slots.size → (copied cs cd sp dp nn).slots[j]? = some ((cpF vs dv sp.toNatClampNeg vd dd dp.toNatClampNeg nn.toNatClampNeg z2.toNatClampNeg).getD j dd) ∧ fits .byte ((cpF vs dv sp.toNatClampNeg vd dd dp.toNatClampNeg nn.toNatClampNeg z2.toNatClampNeg).getD j dd) = true := fun j hj => by
    rw [cpF_at (by omega)]
    have g := Cell.storeRun_get cd dp.toNatClampNeg (cs.stretch sp.toNatClampNeg nn.toNatClampNeg) j (by omega)
    rw [ln] at g
    by_cases cc : dp.toNatClampNeg ≤ j ∧ j < dp.toNatClampNeg + nn.toNatClampNeg
    · rw [if_pos cc] at g ⊢
      have e2 : (cs.stretch sp.toNatClampNeg nn.toNatClampNeg)[j - dp.toNatClampNeg]? = some (vs.getD (sp.toNatClampNeg + (j - dp.toNatClampNeg)) dv) := by
        rw [← src _ (by omega)]
        simp [Cell.stretch, show j - dp.toNatClampNeg < nn.toNatClampNeg by omega]
      exact ⟨g.trans e2, Gs _ (by omega)⟩
    · rw [if_neg cc] at g ⊢
      exact ⟨g.trans (Hd j hj), Gd j hj⟩
  refine Wp.st st' (kk _ _ _ (fun n0 ws N g => Fk.cp N g) X' eh ⟨by simp, fun x c q r => ?_, fun x c q => ?_⟩ ⟨copied cs cd sp dp nn, ⟨Array.getElem?_setIfInBounds_self_of_lt hb, ?_, by rw [f2]; exact Ad.2.2⟩, f1.trans qd, f3.trans Sd, Nd, fun j hj => (val j (f3 ▸ hj)).1, fun j hj => (val j (f3 ▸ hj)).2⟩)
  · rw [Array.getElem?_setIfInBounds_ne fun z => r (by simp [z])]
    exact q
  · by_cases u : b = x
    · subst u
      cases Ad.1.symm.trans q
      exact ⟨_, Array.getElem?_setIfInBounds_self_of_lt hb, f1, f2, f3⟩
    · exact ⟨c, by rw [Array.getElem?_setIfInBounds_ne u]; exact q, rfl, rfl, rfl⟩
  · have t := Ad.2.1
    unfold State.isArrayOf at t ⊢
    rw [f1, f2]
    exact t
theorem callU (X : Stand p l e R s m args below meth c T locs cells slots) (hx : p.tables.exec = Jvm.exec) (hZ : Z.Warmed39 s.vm) {own C : String} {index : Nat} {y : MethodName} {bytes : ByteArray} {maxL : Nat} {ret : Option FieldType} (hown : s.vm.findClass own = some m.cls) (w1 : (Cond.methodLink own index y).before a0 Z = true) (w2 : (Cond.sameMethod y.cls y.cls y.name y.desc).before a0 Z = true) (w3 : (Cond.instanceMethod y).before a0 Z = true) (w5 : (Cond.superclass own y.cls).before a0 Z = true) (w4 : (Cond.code y bytes maxL ret).before a0 Z = true)
    (hn : y.name ≠ "<init>") {W : Nat} {a : Addr} {as' : List Value} {kc ks : Nat} {Qc : Option Value → Heap → List Loc → Prop} (hK : Pay l R p e below s args y 3 W (.ref a :: as').toArray h kc ks Qc) (eT : T.heap = h) (hE : Exa Z h a C) (hsize : Ls.size = c.maxLocals) {rest : List Value} (hlen : ∀ sig, parseMethodDescriptor y.desc = some sig → as'.length = sig.parameters.length)
    (hstack : st = as'.reverse ++ .ref a :: rest) (hW : (rest.map fun v => v.category).sum ≤ W) (hd : decode c.code pc = .ok (.invokespecial index, 3)) (hq : pc + 3 = q) (hc : cells + kc ≤ R.cells) (hs : slots + ks ≤ R.slots)
    (k : Go p l e R s m args below meth c locs cells slots Q F q Ls rest kc ks Qc) : Wp p e below Q F T (mkF m pc Ls st) := by
  subst hq
  obtain ⟨v, vm₁, ⟨T', L', k', n'⟩, -, X', ⟨L, hQ, r1, r2, r3⟩, st'⟩ := superBack X hx hZ hown w1 w2 w3 w5 hn hK eT (Ins.self hE) (g := mkF m pc Ls st) rfl hsize w4 hlen hstack (by show 2 * 0 + _ ≤ _; omega) hd (fun _ _ => ⟨rfl, eT, hc, hs⟩)
  dsimp only [Pt.U, Pt.locs, Pt.cells, Pt.slots] at X' r1 r2 r3 st' hQ
  subst r1 r2 r3
  exact Wp.tr st' (k T' _ v L X' rfl hQ)
theorem newarrayE (X : Stand p l e R s m args below meth c T locs cells slots) (hx : p.tables.exec = Jvm.exec) (hZ : Z.Warmed39 s.vm) {aty : ArrayType} (w : (Cond.arrayClass (newarray.typeOf aty)).before a0 Z = true) (eT : T.heap = h) {n : Int32} (hd : decode c.code pc = .ok (.newarray aty, 2)) (hq : pc + 2 = q) (hn : ¬ n < 0) (cap : Nat) (hcap : n.toNatClampNeg ≤ cap) (hb : cap * 8 ≤ 536870912) (hc : cells + 1 ≤ R.cells) (hl : slots + cap ≤ R.slots) {ad : String} (had : "[" ++ (newarray.typeOf aty).toString = ad)
    (k : ∀ (T' : State) (h' : Heap) (a : Addr) (kA : ClassId), h.size = a → Stand p l e R s m args below meth c T' locs (cells + 1) (slots + cap) → T'.heap = h' → Ext h h' → Arv Z h' a kA (newarray.typeOf aty) n [] (defaultValue (newarray.typeOf aty)) → Exa Z h' a ad → Wp p e below Q F T' (mkF m q Ls (.ref a :: st))) : Wp p e below Q F T (mkF m pc Ls (.int n :: st)) := by
  subst hq
  obtain ⟨T', h', kA, X', e', E, A, Ea, st'⟩ := newPE X hx hZ w eT (g := mkF m pc Ls (.int n :: st)) rfl hd rfl hn hcap hb hc hl had
  exact Wp.st st' (k T' h' _ kA rfl X' e' E (Arv.new A hn) Ea)
theorem clone (X : Stand p l e R s m args below meth c T locs cells slots) (hx : p.tables.exec = Jvm.exec) (hZ : Z.Warmed39 s.vm) {own ad : String} {index : Nat} (hown : s.vm.findClass own = some m.cls)
    (w1 : (Cond.methodLink own index ⟨ad, "clone", "()Ljava/lang/Object;"⟩).before a0 Z = true) (w2 : (Cond.sameMethod ad "java/lang/Object" "clone" "()Ljava/lang/Object;").before a0 Z = true) (w3 : (Cond.native ⟨"java/lang/Object", "clone", "()Ljava/lang/Object;"⟩).before a0 Z = true)
    (w4 : (Cond.instanceMethod ⟨"java/lang/Object", "clone", "()Ljava/lang/Object;"⟩).before a0 Z = true) (w5 : (Cond.selects ad ⟨ad, "clone", "()Ljava/lang/Object;"⟩ ⟨"java/lang/Object", "clone", "()Ljava/lang/Object;"⟩).before a0 Z = true) (w6 : (Cond.castable ad "java/lang/Cloneable").before a0 Z = true)
    (eT : T.heap = h) {a : Addr} {k : ClassId} {ty : FieldType} {z : Int32} {vs : List Value} {dv : Value} (B : Arv Z h a k ty z vs dv) (E : Exa Z h a ad) (hsize : Ls.size = c.maxLocals) (hd : decode c.code pc = .ok (.invokevirtual index, 3)) (hq : pc + 3 = q)
    (hf : 1 ≤ R.frames) (W cap : Nat) (hW : (st.map fun v => v.category).sum ≤ W) (hl : W + 14 ≤ R.locals) (hcap : z.toNatClampNeg ≤ cap) (hc : cells + 1 ≤ R.cells) (hsl : slots + cap ≤ R.slots)
    (kk : ∀ (T' : State) (h' : Heap) (a' : Addr), h.size = a' → Stand p l e R s m args below meth c T' locs (cells + 1) (slots + cap) → T'.heap = h' → Ext h h' → Arv Z h' a' k ty z vs dv → Exa Z h' a' ad → Wp p e below Q F T' (mkF m q Ls (.ref a' :: st))) : Wp p e below Q F T (mkF m pc Ls (.ref a :: st)) := by
  subst hq
  obtain ⟨cl, A, q1, S, q3, H, G⟩ := B
  have FC : FitC Z cl := fitC_of A fun i hi v hv => by
    rw [H i hi] at hv
    cases hv
    exact G i hi
  obtain ⟨T', h', X', e', ex, A', E', st'⟩ := cloneA X hx hZ hown w1 w2 w3 w4 w5 w6 eT A E FC (g := mkF m pc Ls (.ref a :: st)) rfl hsize rfl hd hf (W := W) (cap := cap) (by show 2 * 0 + _ ≤ _; omega) hl (by rw [S]; exact hcap) hc hsl
  exact Wp.st st' (kk T' h' _ rfl X' e' ex ⟨cloneOf cl, A', q1, S, q3, H, G⟩ E')
end Wk
theorem own_shl0 (x : Int32) : x <<< ((0 : Int32) &&& 31) = x := by
  have h0 : ((0 : Int32) &&& 31) = 0 := by decide
  rw [h0]
  simp
theorem own_latb {v c : Int32} (h : Lat c) (hv : v = (c.toInt8.toInt32 &&& (255 : Int32)).toUInt32.toUInt16.toUInt32.toInt32) : c = v := by
  have key : c.toInt8.toInt32 &&& (255 : Int32) = c &&& (255 : Int32) := by
    apply Int32.toBitVec_inj.mp
    have hb : (c.toInt8.toInt32).toBitVec = (c.toBitVec.signExtend 8).signExtend 32 := by simp
    have k255 : ∀ j, j < 32 → ((255 : Int32).toBitVec).getLsbD j = decide (j < 8) := by decide
    apply BitVec.eq_of_getLsbD_eq
    intro i hi
    simp only [Int32.toBitVec_and, hb, BitVec.getLsbD_and, k255 i hi]
    by_cases hi8 : i < 8
    · simp [BitVec.getLsbD_signExtend, hi8, hi, -BitVec.getLsbD_eq_getElem]
    · simp [hi8]
  rw [key] at hv
  have e2 := eq255 hv
  have id : c &&& (255 : Int32) = c := by
    have r := h.chr.rng
    have r2 := h.2
    rw [Int32.lt_iff_toInt_lt] at r2
    have e1 : (255 : Int32).toInt = 255 := rfl
    apply Int32.toBitVec_inj.mp
    apply BitVec.eq_of_toNat_eq
    have hn : c.toBitVec.toNat < 256 := by
      obtain ⟨e, -⟩ := toNat_of_toInt r.1
      omega
    rw [Int32.toBitVec_and, BitVec.toNat_and]
    show c.toBitVec.toNat &&& (2 ^ 8 - 1) = _
    rw [Nat.and_two_pow_sub_one_eq_mod]
    omega
  rw [e2, id]
end Jvm.OwnW
namespace Jvm.OwnW
open Jvm Jvm.ClassFile Sem Op Lib Jvm.Free Jvm.Stand Jvm.LawKit Jvm.RoadKit Bundle
/-- an array of the start, by its words -/
theorem lenStart {args : Array Value} {s : State} {t : Term} {n : Int32} {a : Addr} {cl : Cell} {ty : FieldType} (hA : Arr s s.heap a cl ty) (ev : t.eval args s none [] s = some (.ref a)) (hL : (Cond.eq (Term.length t) (.int n)).value args s none s [] = some true) : cl.slots.size < 2 ^ 31 ∧ cl.slots.size.toInt32 = n := by
  have q := fieldI hL
  have fin : s.arrayAt? a = some cl := IntBox.arrayAt_of hA.1 hA.2.1 hA.2.2
  simp only [Term.eval, ev, fin, Option.bind_eq_bind, Option.bind_some] at q
  by_cases hs : cl.slots.size < 2 ^ 31
  · exact ⟨hs, by simpa [hs] using q⟩
  · simp [hs] at q
end Jvm.OwnW
/- laws to paste: Road.backV (cut by pick.py; bodies as the Statement names them) -/
namespace Jvm.Pilot.@@N@@
namespace StrChars
open Jvm Sem ClassFile Op Lib Jvm.Stand Jvm.Free.XT Jvm.Free.ALB Jvm.Free.JM Jvm.Free
open Jvm.Lib.Cold (StaticIs)
/-- a char array whose places are chars -/
def Ch (a : Addr) (A : Cell) (U : State) : Prop := Arr .char a A U ∧ Typed .char A
theorem Ch.mv {a : Addr} {A : Cell} {U U' : State} (h : Ch a A U) (hal : U.vm.Alike U'.vm) (hh : U'.heap = U.heap) : Ch a A U' := ⟨h.1.mv hal hh, h.2⟩
theorem Ch.keep {a : Addr} {A : Cell} {U U' : State} (h : Ch a A U) (hal : U.vm.Alike U'.vm) (hk : U'.heap[a]? = some A) : Ch a A U' := ⟨h.1.keep hal hk, h.2⟩
/-- what place i of a char[]'s cell holds -/
def cv (A : Cell) (i : Nat) : Int32 := match A.slots[i]? with | some (.int x) => x | _ => 0
theorem Ch.get {a : Addr} {A : Cell} {U : State} (h : Ch a A U) {i : Nat} (hi : i < A.slots.size) : A.slots[i]? = some (.int (cv A i)) := by
  have e := Array.getElem?_eq_getElem hi
  have f := h.2 i _ e
  unfold cv; rw [e]
  generalize A.slots[i] = v at f
  cases v <;> simp [fits] at f ⊢
/-- the byte that i2b leaves of a char -/
def lo8 (x : Int32) : Int32 := x.toInt8.toInt32
theorem fits_lo8 (y : Int32) : fits .byte (.int (lo8 y)) = true := by
  have h1 := y.toInt8.le_toInt
  have h2 := y.toInt8.toInt_lt
  simp only [lo8, fits, Bool.and_eq_true, decide_eq_true_eq, Int32.le_iff_toInt_le, Int8.toInt_toInt32, show (-128 : Int32).toInt = -128 from by decide, show (127 : Int32).toInt = 127 from by decide]
  omega
/-- A' is A but that each place j of lo .. hi - 1 holds f j -/
def Laid (A A' : Cell) (lo hi : Nat) (f : Nat → Value) : Prop := A'.cls = A.cls ∧ A'.vm = A.vm ∧ A'.slots.size = A.slots.size ∧ ∀ i, A'.slots[i]? = if lo ≤ i ∧ i < hi then some (f i) else A.slots[i]?
theorem Laid.zero (A : Cell) (lo : Nat) (f : Nat → Value) : Laid A A lo (lo + 0) f := ⟨rfl, rfl, rfl, fun i => by rw [if_neg (by omega)]⟩
theorem Laid.step {A Ak : Cell} {lo k : Nat} {f : Nat → Value} {v : Value} (h : Laid A Ak lo k f) (hlo : lo ≤ k) (hk : k < Ak.slots.size) (hv : v = f k) : Laid A (Ak.setSlot k v) lo (k + 1) f := by
  refine ⟨h.1, h.2.1, by simpa [Cell.setSlot] using h.2.2.1, fun i => ?_⟩
  by_cases e : k = i
  · subst e; rw [Cell.slots_setSlot_self v hk, if_pos (by omega), hv]
  · rw [Cell.slots_setSlot_ne v e, h.2.2.2 i]
    by_cases q : lo ≤ i ∧ i < k
    · rw [if_pos q, if_pos (by omega)]
    · rw [if_neg q, if_neg (by omega)]
def U16 : String := "java/lang/StringUTF16"
namespace Cmp5
def yN : MethodName := ⟨"java/lang/StringUTF16", "compress", "([CI[BII)I"⟩
abbrev yB : ByteArray := jdk_52_method_21_code
theorem d0 : decode yB 0 = .ok (.iconst 0, 1) := by decide +kernel
theorem d1 : decode yB 1 = .ok (.istore 5, 2) := by decide +kernel
theorem d3 : decode yB 3 = .ok (.iload 5, 2) := by decide +kernel
theorem d5 : decode yB 5 = .ok (.iload 4, 2) := by decide +kernel
theorem d7 : decode yB 7 = .ok (.if_icmp (.ge) 37, 3) := by decide +kernel
theorem d10 : decode yB 10 = .ok (.aload_n 0, 1) := by decide +kernel
theorem d11 : decode yB 11 = .ok (.iload_n 1, 1) := by decide +kernel
theorem d12 : decode yB 12 = .ok (.caload, 1) := by decide +kernel
theorem d13 : decode yB 13 = .ok (.istore 6, 2) := by decide +kernel
theorem d15 : decode yB 15 = .ok (.iload 6, 2) := by decide +kernel
theorem d17 : decode yB 17 = .ok (.sipush 255, 3) := by decide +kernel
theorem d20 : decode yB 20 = .ok (.if_icmp (.le) 6, 3) := by decide +kernel
theorem d26 : decode yB 26 = .ok (.aload_n 2, 1) := by decide +kernel
theorem d27 : decode yB 27 = .ok (.iload_n 3, 1) := by decide +kernel
theorem d28 : decode yB 28 = .ok (.iload 6, 2) := by decide +kernel
theorem d30 : decode yB 30 = .ok (.i2b, 1) := by decide +kernel
theorem d31 : decode yB 31 = .ok (.bastore, 1) := by decide +kernel
theorem d32 : decode yB 32 = .ok (.iinc 1 1, 3) := by decide +kernel
theorem d35 : decode yB 35 = .ok (.iinc 3 1, 3) := by decide +kernel
theorem d38 : decode yB 38 = .ok (.iinc 5 1, 3) := by decide +kernel
theorem d41 : decode yB 41 = .ok (.goto (-38), 3) := by decide +kernel
theorem d44 : decode yB 44 = .ok (.iload 4, 2) := by decide +kernel
theorem d46 : decode yB 46 = .ok (.ireturn, 1) := by decide +kernel
def site : List Cond := []
def tab : Cond := tabOf yN yB 7 (some .int) site
def P (b : Addr) (A : Cell) (d : Addr) (B : Cell) (o q len : Nat) (args : Array Value) (s : State) : Prop := args = #[.ref b, .int (Int32.ofNat o), .ref d, .int (Int32.ofNat q), .int (Int32.ofNat len)] ∧ Ch b A s ∧ Arr .byte d B s ∧ b ≠ d ∧ o + len ≤ A.slots.size ∧ q + len ≤ B.slots.size ∧ ∀ i, i < len → ¬ 255 < cv A (o + i)
def E (b : Addr) (A : Cell) (d : Addr) (B : Cell) (o q len : Nat) (r : Option Value) (s u : State) : Prop := r = some (.int (Int32.ofNat len)) ∧ ∃ B', Put d B' s u ∧ Laid B B' q (q + len) (fun j => Value.int (lo8 (cv A (o + (j - q)))))
/-- no char of the range above 255: len; the places written hold each char's low byte -/
theorem law (l : Launch) (b : Addr) (A : Cell) (d : Addr) (B : Cell) (o q len : Nat) : Law l yN 5 5 0 0 yB 7 (some .int) site (P b A d B o q len) (E b A d B o q len) (copyLocs d q len) 0 0 := by
  refine Law.of_walk (plainFor_of_name (by decide +kernel)) (by decide +kernel) (by decide +kernel) (by decide) (fun _ _ h => by rw [h.1]; rfl) (fun _ U U' hal hh h => ⟨h.1, h.2.1.mv hal hh, h.2.2.1.mv hal hh, h.2.2.2⟩) (fun r U U' V V' h1 hal h2 h => ⟨h.1, h.2.elim fun B' q => ⟨B', q.1.mv h1 h2, q.2⟩⟩) ?_
  intro p e s m args below meth c s₁ X0 hexec hbytes hml hret hlk hnm hown hh0 W hP
  obtain ⟨rfl, hA, hB, hne, l1, l2, hp⟩ := hP
  have c1 : Steps p.tables e below (s₁.setTop (entryFrame m #[.ref b, .int (Int32.ofNat o), .ref d, .int (Int32.ofNat q), .int (Int32.ofNat len)] 7)) (s₁.setTop (mkF m 0 #[.val (.ref b), .val (.int (Int32.ofNat o)), .val (.ref d), .val (.int (Int32.ofNat q)), .val (.int (Int32.ofNat len)), .unset, .unset] [])) := entry rfl
  have hA0 := hA.1.mv X0.warmed.alike hh0
  have hB0 := hB.mv X0.warmed.alike hh0
  have a31 := hA.1.2.2.2
  have c2 : Steps p.tables e below (s₁.setTop (entryFrame m #[.ref b, .int (Int32.ofNat o), .ref d, .int (Int32.ofNat q), .int (Int32.ofNat len)] 7)) (s₁.setTop (mkF m 3 #[.val (.ref b), .val (.int (Int32.ofNat o)), .val (.ref d), .val (.int (Int32.ofNat q)), .val (.int (Int32.ofNat len)), .val (.int 0), .unset] [])) := c1.trans (by
    refine iconstV X0.here hexec rfl 0 (hb hbytes d0) (by decide) ?_
    refine XS.istore X0.here hexec rfl (hb hbytes d1) rfl rfl ?_
    exact Steps.refl _)
  have loop : ∀ (r i : Nat), i + r = len → ∀ (z : Slot), (z = .unset ∨ ∃ w, z = .val w ∧ w.category = 1) → ∀ (Tl : State) (Bk : Cell), Stand p l e { frames := 0, locals := 0, cells := 0, slots := 0 } s m #[.ref b, .int (Int32.ofNat o), .ref d, .int (Int32.ofNat q), .int (Int32.ofNat len)] below meth c Tl ([] ++ copyLocs d q i) 0 0 → Put d Bk s₁ Tl → Laid B Bk q (q + i) (fun j => Value.int (lo8 (cv A (o + (j - q))))) →
      Steps p.tables e below (s₁.setTop (entryFrame m #[.ref b, .int (Int32.ofNat o), .ref d, .int (Int32.ofNat q), .int (Int32.ofNat len)] 7)) (Tl.setTop (mkF m 3 #[.val (.ref b), .val (.int (Int32.ofNat (o + i))), .val (.ref d), .val (.int (Int32.ofNat (q + i))), .val (.int (Int32.ofNat len)), .val (.int (Int32.ofNat i)), z] [])) → ∃ (T' : State) (B' : Cell) (z' : Slot), Stand p l e { frames := 0, locals := 0, cells := 0, slots := 0 } s m #[.ref b, .int (Int32.ofNat o), .ref d, .int (Int32.ofNat q), .int (Int32.ofNat len)] below meth c T' ([] ++ copyLocs d q len) 0 0 ∧ Put d B' s₁ T' ∧ Laid B B' q (q + len) (fun j => Value.int (lo8 (cv A (o + (j - q))))) ∧
      Steps p.tables e below (s₁.setTop (entryFrame m #[.ref b, .int (Int32.ofNat o), .ref d, .int (Int32.ofNat q), .int (Int32.ofNat len)] 7)) (T'.setTop (mkF m 3 #[.val (.ref b), .val (.int (Int32.ofNat (o + len))), .val (.ref d), .val (.int (Int32.ofNat (q + len))), .val (.int (Int32.ofNat len)), .val (.int (Int32.ofNat len)), z'] [])) := by
    intro r
    induction r with
    | zero =>
      intro i hi z hz Tl Bk Xl pl fl cl
      have hil : i = len := by omega
      rw [hil] at Xl fl cl
      exact ⟨Tl, Bk, z, Xl, pl, fl, cl⟩
    | succ r ih =>
      intro i hi z hz Tl Bk Xl pl fl cl
      have all := X0.warmed.alike.symm.trans Xl.warmed.alike
      have hAl := hA0.keep all (pl.other hne hA0.1)
      have hBk := hB0.like all pl.1 fl.1 fl.2.1 fl.2.2.1
      have hlt : q + i < Bk.slots.size := by rw [fl.2.2.1]; omega
      have c3 : Steps p.tables e below (s₁.setTop (entryFrame m #[.ref b, .int (Int32.ofNat o), .ref d, .int (Int32.ofNat q), .int (Int32.ofNat len)] 7)) (Tl.setTop (mkF m 12 #[.val (.ref b), .val (.int (Int32.ofNat (o + i))), .val (.ref d), .val (.int (Int32.ofNat (q + i))), .val (.int (Int32.ofNat len)), .val (.int (Int32.ofNat i)), z] [.int (Int32.ofNat (o + i)), .ref b])) := cl.trans (by
        refine XS.iload Xl.here hexec rfl (hb hbytes d3) rfl ?_
        refine XS.iload Xl.here hexec rfl (hb hbytes d5) rfl ?_
        refine XS.icmpNo Xl.here hexec rfl (hb hbytes d7) rfl (ii_ge_f (lt32 (by omega) (by omega))) ?_
        refine XS.aloadN Xl.here hexec rfl (hb hbytes d10) rfl rfl ?_
        refine XS.iloadN Xl.here hexec rfl (hb hbytes d11) rfl ?_
        exact Steps.refl _)
      have c4 : Steps p.tables e below (s₁.setTop (entryFrame m #[.ref b, .int (Int32.ofNat o), .ref d, .int (Int32.ofNat q), .int (Int32.ofNat len)] 7)) (Tl.setTop (mkF m 13 #[.val (.ref b), .val (.int (Int32.ofNat (o + i))), .val (.ref d), .val (.int (Int32.ofNat (q + i))), .val (.int (Int32.ofNat len)), .val (.int (Int32.ofNat i)), z] [.int (cv A (o + i))])) := c3.trans (by
        refine Xl.aget hexec hAl rfl (hA.get (i := o + i) (by omega)) rfl rfl (hb hbytes d12) ?_
        exact Steps.refl _)
      have c5 : Steps p.tables e below (s₁.setTop (entryFrame m #[.ref b, .int (Int32.ofNat o), .ref d, .int (Int32.ofNat q), .int (Int32.ofNat len)] 7)) (Tl.setTop (mkF m 15 #[.val (.ref b), .val (.int (Int32.ofNat (o + i))), .val (.ref d), .val (.int (Int32.ofNat (q + i))), .val (.int (Int32.ofNat len)), .val (.int (Int32.ofNat i)), .val (.int (cv A (o + i)))] [])) := c4.trans (by
        refine XS.istoreS Xl.here hexec rfl (hb hbytes d13) rfl rfl hz ?_
        exact Steps.refl _)
      have c6 : Steps p.tables e below (s₁.setTop (entryFrame m #[.ref b, .int (Int32.ofNat o), .ref d, .int (Int32.ofNat q), .int (Int32.ofNat len)] 7)) (Tl.setTop (mkF m 31 #[.val (.ref b), .val (.int (Int32.ofNat (o + i))), .val (.ref d), .val (.int (Int32.ofNat (q + i))), .val (.int (Int32.ofNat len)), .val (.int (Int32.ofNat i)), .val (.int (cv A (o + i)))] [.int (lo8 (cv A (o + i))), .int (Int32.ofNat (q + i)), .ref d])) := c5.trans (by
        refine XS.iload Xl.here hexec rfl (hb hbytes d15) rfl ?_
        refine sipushV Xl.here hexec rfl 255 (hb hbytes d17) (by decide) ?_
        refine XS.icmpYes Xl.here hexec rfl (pc0 := 20) rfl (hb hbytes d20) rfl (ii_le_t (hp i (by omega))) (by decide) rfl ?_
        refine XS.aloadN Xl.here hexec rfl (hb hbytes d26) rfl rfl ?_
        refine XS.iloadN Xl.here hexec rfl (hb hbytes d27) rfl ?_
        refine XS.iload Xl.here hexec rfl (hb hbytes d28) rfl ?_
        refine i2b Xl.here hexec rfl (hb hbytes d30) rfl ?_
        exact Steps.refl _)
      obtain ⟨T7, X7, p7, st7⟩ := Xl.aput hexec hBk rfl hlt rfl (fits_lo8 (cv A (o + i))) (g := (mkF m 31 #[.val (.ref b), .val (.int (Int32.ofNat (o + i))), .val (.ref d), .val (.int (Int32.ofNat (q + i))), .val (.int (Int32.ofNat len)), .val (.int (Int32.ofNat i)), .val (.int (cv A (o + i)))] [.int (lo8 (cv A (o + i))), .int (Int32.ofNat (q + i)), .ref d])) rfl (rest := []) rfl (hb hbytes d31)
      have c8 : Steps p.tables e below (s₁.setTop (entryFrame m #[.ref b, .int (Int32.ofNat o), .ref d, .int (Int32.ofNat q), .int (Int32.ofNat len)] 7)) (T7.setTop (mkF m 32 #[.val (.ref b), .val (.int (Int32.ofNat (o + i))), .val (.ref d), .val (.int (Int32.ofNat (q + i))), .val (.int (Int32.ofNat len)), .val (.int (Int32.ofNat i)), .val (.int (cv A (o + i)))] [])) := c6.trans (st7 _ (Steps.refl _))
      have c9 : Steps p.tables e below (s₁.setTop (entryFrame m #[.ref b, .int (Int32.ofNat o), .ref d, .int (Int32.ofNat q), .int (Int32.ofNat len)] 7)) (T7.setTop (mkF m 3 #[.val (.ref b), .val (.int (Int32.ofNat (o + i) + 1)), .val (.ref d), .val (.int (Int32.ofNat (q + i) + 1)), .val (.int (Int32.ofNat len)), .val (.int (Int32.ofNat i + 1)), .val (.int (cv A (o + i)))] [])) := c8.trans (by
        refine iincV X7.here hexec rfl 1 (hb hbytes d32) (by decide) rfl rfl ?_
        refine iincV X7.here hexec rfl 1 (hb hbytes d35) (by decide) rfl rfl ?_
        refine iincV X7.here hexec rfl 1 (hb hbytes d38) (by decide) rfl rfl ?_
        refine XS.goto X7.here hexec rfl (pc0 := 41) rfl (hb hbytes d41) (by decide) rfl ?_
        exact Steps.refl _)
      have c10 : Steps p.tables e below (s₁.setTop (entryFrame m #[.ref b, .int (Int32.ofNat o), .ref d, .int (Int32.ofNat q), .int (Int32.ofNat len)] 7)) (T7.setTop (mkF m 3 #[.val (.ref b), .val (.int (Int32.ofNat (o + (i + 1)))), .val (.ref d), .val (.int (Int32.ofNat (q + (i + 1)))), .val (.int (Int32.ofNat len)), .val (.int (Int32.ofNat (i + 1))), .val (.int (cv A (o + i)))] [])) := by
        have := c9
        rw [succ32, succ32, succ32] at this
        exact this
      exact ih (i + 1) (by omega) _ (Or.inr ⟨_, rfl, rfl⟩) T7 _ (by rw [copyLocs_step, ← List.append_assoc]; exact X7) (pl.trans p7) (fl.step (by omega) hlt (by simp)) c10
  obtain ⟨T9, B9, z9, X9, p9, f9, g9⟩ := loop len 0 (by omega) .unset (Or.inl rfl) s₁ B (by simpa [copyLocs] using X0) ⟨hB0.1, fun _ _ => rfl, rfl⟩ (Laid.zero _ _ _) c2
  have c11 : Steps p.tables e below (s₁.setTop (entryFrame m #[.ref b, .int (Int32.ofNat o), .ref d, .int (Int32.ofNat q), .int (Int32.ofNat len)] 7)) (T9.setTop (mkF m 46 #[.val (.ref b), .val (.int (Int32.ofNat (o + len))), .val (.ref d), .val (.int (Int32.ofNat (q + len))), .val (.int (Int32.ofNat len)), .val (.int (Int32.ofNat len)), z9] [.int (Int32.ofNat len)])) := g9.trans (by
    refine XS.iload X9.here hexec rfl (hb hbytes d3) rfl ?_
    refine XS.iload X9.here hexec rfl (hb hbytes d5) rfl ?_
    refine XS.icmpYes X9.here hexec rfl (pc0 := 7) rfl (hb hbytes d7) rfl (ii_ge_t (nlt32 (by omega) (Nat.le_refl _))) (by decide) rfl ?_
    refine XS.iload X9.here hexec rfl (hb hbytes d44) rfl ?_
    exact Steps.refl _)
  exact ⟨T9, some (.int (Int32.ofNat len)), _, _, _, X9, by simp, rfl, rfl, (fun h => by cases h), ⟨rfl, B9, p9.from hh0, f9⟩, fun fs hl => c11.trans (X9.ireturnOut hexec hret rfl (Or.inl rfl) (hb hbytes d46) hl)⟩
end Cmp5
namespace Cmp3
def yN : MethodName := ⟨"java/lang/StringUTF16", "compress", "([CII)[B"⟩
abbrev yB : ByteArray := jdk_52_method_16_code
theorem d0 : decode yB 0 = .ok (.iload_n 2, 1) := by decide +kernel
theorem d1 : decode yB 1 = .ok (.newarray .byte, 2) := by decide +kernel
theorem d3 : decode yB 3 = .ok (.astore_n 3, 1) := by decide +kernel
theorem d4 : decode yB 4 = .ok (.aload_n 0, 1) := by decide +kernel
theorem d5 : decode yB 5 = .ok (.iload_n 1, 1) := by decide +kernel
theorem d6 : decode yB 6 = .ok (.aload_n 3, 1) := by decide +kernel
theorem d7 : decode yB 7 = .ok (.iconst 0, 1) := by decide +kernel
theorem d8 : decode yB 8 = .ok (.iload_n 2, 1) := by decide +kernel
theorem d9 : decode yB 9 = .ok (.invokestatic 115, 3) := by decide +kernel
theorem d12 : decode yB 12 = .ok (.istore 4, 2) := by decide +kernel
theorem d14 : decode yB 14 = .ok (.iload 4, 2) := by decide +kernel
theorem d16 : decode yB 16 = .ok (.iload_n 2, 1) := by decide +kernel
theorem d17 : decode yB 17 = .ok (.if_icmp (.eq) 40, 3) := by decide +kernel
theorem d57 : decode yB 57 = .ok (.aload_n 3, 1) := by decide +kernel
theorem d58 : decode yB 58 = .ok (.areturn, 1) := by decide +kernel
def site : List Cond := [.arrayClass .byte, Cmp5.tab] ++ staticW U16 115 Cmp5.yN
def tab : Cond := tabOf yN yB 6 (some (.array .byte)) site
def P (b : Addr) (A : Cell) (o len : Nat) (args : Array Value) (s : State) : Prop := args = #[.ref b, .int (Int32.ofNat o), .int (Int32.ofNat len)] ∧ Ch b A s ∧ o + len ≤ A.slots.size ∧ len ≤ 536870912 ∧ ∀ i, i < len → ¬ 255 < cv A (o + i)
def E (b : Addr) (A : Cell) (o len : Nat) (r : Option Value) (s u : State) : Prop := NewArr .byte "[B" len (fun j => .int (lo8 (cv A (o + j)))) r s u ∧ u.heap.size = s.heap.size + 1
/-- no char of the range above 255: a new byte[] of their low bytes -/
theorem law (l : Launch) (b : Addr) (A : Cell) (o len : Nat) : Law l yN 3 3 1 18 yB 6 (some (.array .byte)) site (P b A o len) (E b A o len) [] 1 len := by
  refine Law.of_walk (plainFor_of_name (by decide +kernel)) (by decide +kernel) (by decide +kernel) (by decide) (fun _ _ h => by rw [h.1]; rfl) (fun _ U U' hal hh h => ⟨h.1, h.2.1.mv hal hh, h.2.2⟩) (fun r U U' V V' h1 hal h2 h => ⟨NewArr.mv r U U' V V' h1 hal h2 h.1, by rw [h1, h2]; exact h.2⟩) ?_
  intro p e s m args below meth c s₁ X0 hexec hbytes hml hret hlk hnm hown hh0 W hP
  obtain ⟨rfl, hA, l1, l2, hp⟩ := hP
  have a31 := hA.1.2.2.2
  have c1 : Steps p.tables e below (s₁.setTop (entryFrame m #[.ref b, .int (Int32.ofNat o), .int (Int32.ofNat len)] 6)) (s₁.setTop (mkF m 0 #[.val (.ref b), .val (.int (Int32.ofNat o)), .val (.int (Int32.ofNat len)), .unset, .unset, .unset] [])) := entry rfl
  have c2 : Steps p.tables e below (s₁.setTop (entryFrame m #[.ref b, .int (Int32.ofNat o), .int (Int32.ofNat len)] 6)) (s₁.setTop (mkF m 1 #[.val (.ref b), .val (.int (Int32.ofNat o)), .val (.int (Int32.ofNat len)), .unset, .unset, .unset] [.int (Int32.ofNat len)])) := c1.trans (by
    refine XS.iloadN X0.here hexec rfl (hb hbytes d0) rfl ?_
    exact Steps.refl _)
  obtain ⟨T3, B3, X3, ba3, bs3, bv3, bh3, bf3, st3⟩ := X0.anew hexec (atype := .byte) (wk W (.arrayClass .byte)) rfl (by show len * 1 ≤ _; omega) (by omega) (g := (mkF m 1 #[.val (.ref b), .val (.int (Int32.ofNat o)), .val (.int (Int32.ofNat len)), .unset, .unset, .unset] [.int (Int32.ofNat len)])) rfl (hb hbytes d1) (rest := []) rfl (Nat.le_refl _) (by show 0 + len ≤ len; omega)
  rw [hh0] at ba3 st3
  have kp3 : XT.Kept s T3 := (XT.Kept.of_eq hh0).push bh3
  have hA3 := hA.keep X3.warmed.alike (kp3 _ _ hA.1.1)
  have hne : b ≠ s.heap.size := hA.1.ne
  have c4 : Steps p.tables e below (s₁.setTop (entryFrame m #[.ref b, .int (Int32.ofNat o), .int (Int32.ofNat len)] 6)) (T3.setTop (mkF m 3 #[.val (.ref b), .val (.int (Int32.ofNat o)), .val (.int (Int32.ofNat len)), .unset, .unset, .unset] [.ref s.heap.size])) := c2.trans (st3 _ (Steps.refl _))
  have c5 : Steps p.tables e below (s₁.setTop (entryFrame m #[.ref b, .int (Int32.ofNat o), .int (Int32.ofNat len)] 6)) (T3.setTop (mkF m 9 #[.val (.ref b), .val (.int (Int32.ofNat o)), .val (.int (Int32.ofNat len)), .val (.ref s.heap.size), .unset, .unset] [.int (Int32.ofNat len), .int 0, .ref s.heap.size, .int (Int32.ofNat o), .ref b])) := c4.trans (by
    refine XS.astoreN X3.here hexec rfl (hb hbytes d3) rfl rfl rfl ?_
    refine XS.aloadN X3.here hexec rfl (hb hbytes d4) rfl rfl ?_
    refine XS.iloadN X3.here hexec rfl (hb hbytes d5) rfl ?_
    refine XS.aloadN X3.here hexec rfl (hb hbytes d6) rfl rfl ?_
    refine iconstV X3.here hexec rfl 0 (hb hbytes d7) (by decide) ?_
    refine XS.iloadN X3.here hexec rfl (hb hbytes d8) rfl ?_
    exact Steps.refl _)
  obtain ⟨v6, T6, X6, E6, g6⟩ := X3.callS hexec (Cmp5.law l b A s.heap.size B3 o 0 len) hown (wks W (staticW U16 115 Cmp5.yN)) (wk W Cmp5.tab) (W := 0) (Nat.le_of_ble_eq_true rfl) (Nat.le_of_ble_eq_true rfl) (Nat.le_refl _) (by show 0 + len + 0 ≤ len; omega) (g := (mkF m 9 #[.val (.ref b), .val (.int (Int32.ofNat o)), .val (.int (Int32.ofNat len)), .val (.ref s.heap.size), .unset, .unset] [.int (Int32.ofNat len), .int (Int32.ofNat 0), .ref s.heap.size, .int (Int32.ofNat o), .ref b])) rfl (by rw [hml]; rfl) c5 (argsL := [.ref b, .int (Int32.ofNat o), .ref s.heap.size, .int (Int32.ofNat 0), .int (Int32.ofNat len)]) (rest := []) rfl rfl (by show 2 * 0 + 0 ≤ _; decide) (hb hbytes d9) (⟨rfl, hA3, ba3, hne, l1, by rw [bs3]; simp, hp⟩)
  obtain ⟨rfl, B6, p6, f6⟩ := E6
  have c7 : Steps p.tables e below (s₁.setTop (entryFrame m #[.ref b, .int (Int32.ofNat o), .int (Int32.ofNat len)] 6)) (T6.setTop (mkF m 12 #[.val (.ref b), .val (.int (Int32.ofNat o)), .val (.int (Int32.ofNat len)), .val (.ref s.heap.size), .unset, .unset] [.int (Int32.ofNat len)])) := g6
  have c8 : Steps p.tables e below (s₁.setTop (entryFrame m #[.ref b, .int (Int32.ofNat o), .int (Int32.ofNat len)] 6)) (T6.setTop (mkF m 58 #[.val (.ref b), .val (.int (Int32.ofNat o)), .val (.int (Int32.ofNat len)), .val (.ref s.heap.size), .val (.int (Int32.ofNat len)), .unset] [.ref s.heap.size])) := c7.trans (by
    refine XS.istore X6.here hexec rfl (hb hbytes d12) rfl rfl ?_
    refine XS.iload X6.here hexec rfl (hb hbytes d14) rfl ?_
    refine XS.iloadN X6.here hexec rfl (hb hbytes d16) rfl ?_
    refine XS.icmpYes X6.here hexec rfl (pc0 := 17) rfl (hb hbytes d17) rfl (ii_eq_t rfl) (by decide) rfl ?_
    refine XS.aloadN X6.here hexec rfl (hb hbytes d57) rfl rfl ?_
    exact Steps.refl _)
  have X8 := X6.wide (L' := []) (cells' := 1) (slots' := len) (fun x hx hlt => by
    simp only [List.nil_append, copyLocs, List.mem_map, List.mem_range] at hx
    obtain ⟨i, -, rfl⟩ := hx
    exact absurd hlt (Nat.lt_irrefl _)) (Nat.le_refl _) (by omega)
  exact ⟨T6, some (.ref s.heap.size), _, _, _, X8, rfl, rfl, rfl, (fun h => by cases h), ⟨⟨rfl, B6, ba3.like (X3.warmed.alike.symm.trans X6.warmed.alike) p6.1 f6.1 f6.2.1 f6.2.2.1, f6.2.1.trans bv3, by rw [X6.warmed.alike.findClass, f6.1]; exact bf3, by rw [f6.2.2.1, bs3]; simp, fun j hj => by rw [f6.2.2.2 j, if_pos (by omega)]; rfl, kp3.put p6 (Nat.le_refl _)⟩, by rw [p6.2.2, bh3, hh0]; simp⟩, fun fs hl => c8.trans (X8.areturnOut hexec rfl hret rfl (hb hbytes d58) hl)⟩
end Cmp3
namespace CodL
def yN : MethodName := ⟨"java/lang/StringUTF16", "coderFromArrayLen", "([BI)B"⟩
abbrev yB : ByteArray := jdk_52_method_15_code
theorem d0 : decode yB 0 = .ok (.iload_n 1, 1) := by decide +kernel
theorem d1 : decode yB 1 = .ok (.aload_n 0, 1) := by decide +kernel
theorem d2 : decode yB 2 = .ok (.arraylength, 1) := by decide +kernel
theorem d3 : decode yB 3 = .ok (.isub, 1) := by decide +kernel
theorem d4 : decode yB 4 = .ok (.bipush 31, 2) := by decide +kernel
theorem d6 : decode yB 6 = .ok (.iushr, 1) := by decide +kernel
theorem d7 : decode yB 7 = .ok (.i2b, 1) := by decide +kernel
theorem d8 : decode yB 8 = .ok (.ireturn, 1) := by decide +kernel
def site : List Cond := []
def tab : Cond := tabOf yN yB 2 (some .byte) site
def P (d : Addr) (B : Cell) (args : Array Value) (s : State) : Prop := args = #[.ref d, .int (Int32.ofNat B.slots.size)] ∧ Arr .byte d B s
def E (r : Option Value) (s u : State) : Prop := XT.PureE (some (.int 0)) r s u
/-- an array as long as the number of chars: LATIN1 -/
theorem law (l : Launch) (d : Addr) (B : Cell) : Law l yN 2 2 0 0 yB 2 (some .byte) site (P d B) E [] 0 0 := by
  refine Law.of_walk (plainFor_of_name (by decide +kernel)) (by decide +kernel) (by decide +kernel) (by decide) (fun _ _ h => by rw [h.1]; rfl) (fun _ U U' hal hh h => ⟨h.1, h.2.mv hal hh⟩) (fun r U U' V V' h1 hal h2 h => XT.PureE.mv r U U' V V' h1 hal h2 h) ?_
  intro p e s m args below meth c s₁ X0 hexec hbytes hml hret hlk hnm hown hh0 W hP
  obtain ⟨rfl, hB⟩ := hP
  have hB0 := hB.mv X0.warmed.alike hh0
  have c1 : Steps p.tables e below (s₁.setTop (entryFrame m #[.ref d, .int (Int32.ofNat B.slots.size)] 2)) (s₁.setTop (mkF m 0 #[.val (.ref d), .val (.int (Int32.ofNat B.slots.size))] [])) := entry rfl
  have c2 : Steps p.tables e below (s₁.setTop (entryFrame m #[.ref d, .int (Int32.ofNat B.slots.size)] 2)) (s₁.setTop (mkF m 2 #[.val (.ref d), .val (.int (Int32.ofNat B.slots.size))] [.ref d, .int (Int32.ofNat B.slots.size)])) := c1.trans (by
    refine XS.iloadN X0.here hexec rfl (hb hbytes d0) rfl ?_
    refine XS.aloadN X0.here hexec rfl (hb hbytes d1) rfl rfl ?_
    exact Steps.refl _)
  have c3 : Steps p.tables e below (s₁.setTop (entryFrame m #[.ref d, .int (Int32.ofNat B.slots.size)] 2)) (s₁.setTop (mkF m 8 #[.val (.ref d), .val (.int (Int32.ofNat B.slots.size))] [.int (lo8 (ushr (Int32.ofNat B.slots.size - Int32.ofNat B.slots.size) 31))])) := c2.trans (by
    refine X0.alen hexec hB0 rfl rfl (hb hbytes d2) ?_
    refine XS.isub X0.here hexec rfl (hb hbytes d3) rfl ?_
    refine bipushV X0.here hexec rfl 31 (hb hbytes d4) (by decide) ?_
    refine iushr X0.here hexec rfl (hb hbytes d6) rfl ?_
    refine i2b X0.here hexec rfl (hb hbytes d7) rfl ?_
    exact Steps.refl _)
  have e0 : lo8 (ushr (Int32.ofNat B.slots.size - Int32.ofNat B.slots.size) 31) = 0 := by rw [Int32.sub_self]; decide
  rw [e0] at c3
  exact ⟨s₁, some (.int 0), _, _, _, X0, rfl, rfl, rfl, (fun h => by cases h), ⟨rfl, hh0⟩, fun fs hl => c3.trans (X0.ireturnOut hexec hret rfl (Or.inr (Or.inr (Or.inl rfl))) (hb hbytes d8) hl)⟩
end CodL
/-- the String at a is Latin-1 over a new byte[] (the heap's one new cell): the low bytes of the len chars of A from o on; every cell but a is kept -/
def Got (a : Addr) (D : Cell) (fV fC : Field) (A : Cell) (o len : Nat) (r : Option Value) (s u : State) : Prop := r = none ∧ ∃ D' V : Cell, Blank "java/lang/String" a D' u ∧ Same D D' [fV.slot, fC.slot] ∧ D'.slots[fV.slot]? = some (.ref s.heap.size) ∧ D'.slots[fC.slot]? = some (.int 0) ∧ Arr .byte s.heap.size V u ∧ V.vm = .none ∧ u.vm.findClass "[B" = some V.cls ∧ V.slots.size = len ∧ (∀ j, j < len → V.slots[j]? = some (.int (lo8 (cv A (o + j))))) ∧ (∀ (y : Addr) (c : Cell), y ≠ a → s.heap[y]? = some c → u.heap[y]? = some c) ∧ u.heap.size = s.heap.size + 1
theorem Got.mv {a : Addr} {D A : Cell} {fV fC : Field} {o len : Nat} : ∀ r (U U' V V' : State), U'.heap = U.heap → V.vm.Alike V'.vm → V'.heap = V.heap → Got a D fV fC A o len r U V → Got a D fV fC A o len r U' V' :=
  fun r U U' V V' h1 hal h2 ⟨e0, D', X, a1, a2, a3, a4, a5, a6, a7, a8, a9, a10, a11⟩ => ⟨e0, D', X, a1.mv hal h2, a2, by rw [h1]; exact a3, a4, by rw [h1]; exact a5.mv hal h2, a6, by rw [hal.findClass]; exact a7, a8, a9, by rw [h1, h2]; exact a10, by rw [h1, h2]; exact a11⟩
namespace New4
def yN : MethodName := ⟨"java/lang/String", "<init>", "([CIILjava/lang/Void;)V"⟩
abbrev yB : ByteArray := jdk_42_method_149_code
theorem d0 : decode yB 0 = .ok (.aload_n 0, 1) := by decide +kernel
theorem d1 : decode yB 1 = .ok (.invokespecial 1, 3) := by decide +kernel
theorem d4 : decode yB 4 = .ok (.iload_n 3, 1) := by decide +kernel
theorem d5 : decode yB 5 = .ok (.ifCond (.ne) 22, 3) := by decide +kernel
theorem d27 : decode yB 27 = .ok (.getstatic 38, 3) := by decide +kernel
theorem d30 : decode yB 30 = .ok (.ifCond (.eq) 28, 3) := by decide +kernel
theorem d33 : decode yB 33 = .ok (.aload_n 1, 1) := by decide +kernel
theorem d34 : decode yB 34 = .ok (.iload_n 2, 1) := by decide +kernel
theorem d35 : decode yB 35 = .ok (.iload_n 3, 1) := by decide +kernel
theorem d36 : decode yB 36 = .ok (.invokestatic 177, 3) := by decide +kernel
theorem d39 : decode yB 39 = .ok (.astore 5, 2) := by decide +kernel
theorem d41 : decode yB 41 = .ok (.aload_n 0, 1) := by decide +kernel
theorem d42 : decode yB 42 = .ok (.aload 5, 2) := by decide +kernel
theorem d44 : decode yB 44 = .ok (.iload_n 3, 1) := by decide +kernel
theorem d45 : decode yB 45 = .ok (.invokestatic 47, 3) := by decide +kernel
theorem d48 : decode yB 48 = .ok (.putfield 15, 3) := by decide +kernel
theorem d51 : decode yB 51 = .ok (.aload_n 0, 1) := by decide +kernel
theorem d52 : decode yB 52 = .ok (.aload 5, 2) := by decide +kernel
theorem d54 : decode yB 54 = .ok (.putfield 9, 3) := by decide +kernel
theorem d57 : decode yB 57 = .ok (.return_, 1) := by decide +kernel
def site : List Cond := [.fieldLink "java/lang/String" 38 "java/lang/String" "COMPACT_STRINGS" "Z", Cmp3.tab, CodL.tab, .laysFinal "java/lang/String" "java/lang/String" "value" "[B", .fieldLink "java/lang/String" 9 "java/lang/String" "value" "[B", .laysFinal "java/lang/String" "java/lang/String" "coder" "B", .fieldLink "java/lang/String" 15 "java/lang/String" "coder" "B"] ++ objW "java/lang/String" 1 ++ staticW "java/lang/String" 177 Cmp3.yN ++ staticW "java/lang/String" 47 CodL.yN
def tab : Cond := tabOf yN yB 6 none site
def P (a : Addr) (D : Cell) (fV fC : Field) (b : Addr) (A : Cell) (z : Int32) (o len : Nat) (args : Array Value) (s : State) : Prop := args = #[.ref a, .ref b, .int (Int32.ofNat o), .int (Int32.ofNat len), .null] ∧ Blank "java/lang/String" a D s ∧ Found "java/lang/String" "value" "[B" fV s ∧ Found "java/lang/String" "coder" "B" fC s ∧ Ch b A s ∧ StaticIs s "java/lang/String" "COMPACT_STRINGS" "Z" (.int z) ∧ ¬ z = 0 ∧ 0 < len ∧ o + len ≤ A.slots.size ∧ len ≤ 536870912 ∧ ∀ i, i < len → ¬ 255 < cv A (o + i)
def E (a : Addr) (D : Cell) (fV fC : Field) (A : Cell) (o len : Nat) (r : Option Value) (s u : State) : Prop := Got a D fV fC A o len r s u
/-- len > 0, no char of the range above 255: a Latin-1 String of their low bytes -/
theorem law (l : Launch) (a : Addr) (D : Cell) (fV fC : Field) (b : Addr) (A : Cell) (z : Int32) (o len : Nat) : Law l yN 5 4 2 35 yB 6 none site (P a D fV fC b A z o len) (E a D fV fC A o len) [⟨a, fC.slot⟩, ⟨a, fV.slot⟩] 1 len := by
  refine Law.of_walk (plainFor_of_name (by decide +kernel)) (by decide +kernel) (by decide +kernel) (by decide) (fun _ _ h => by rw [h.1]; rfl) (fun _ U U' hal hh h => ⟨h.1, h.2.1.mv hal hh, h.2.2.1.al hal, h.2.2.2.1.al hal, h.2.2.2.2.1.mv hal hh, h.2.2.2.2.2.1.there hal hh, h.2.2.2.2.2.2⟩) (fun r U U' V V' h1 hal h2 h => Got.mv r U U' V V' h1 hal h2 h) ?_
  intro p e s m args below meth c s₁ X0 hexec hbytes hml hret hlk hnm hown hh0 W hP
  obtain ⟨rfl, hB, f1, f2, hA, s1, hz, l0, l1, l2, hp⟩ := hP
  have a31 := hA.1.2.2.2
  have c1 : Steps p.tables e below (s₁.setTop (entryFrame m #[.ref a, .ref b, .int (Int32.ofNat o), .int (Int32.ofNat len), .null] 6)) (s₁.setTop (mkF m 0 #[.val (.ref a), .val (.ref b), .val (.int (Int32.ofNat o)), .val (.int (Int32.ofNat len)), .val .null, .unset] [])) := entry rfl
  have c2 : Steps p.tables e below (s₁.setTop (entryFrame m #[.ref a, .ref b, .int (Int32.ofNat o), .int (Int32.ofNat len), .null] 6)) (s₁.setTop (mkF m 1 #[.val (.ref a), .val (.ref b), .val (.int (Int32.ofNat o)), .val (.int (Int32.ofNat len)), .val .null, .unset] [.ref a])) := c1.trans (by
    refine XS.aloadN X0.here hexec rfl (hb hbytes d0) rfl rfl ?_
    exact Steps.refl _)
  obtain ⟨T3, X3, q3, st3⟩ := X0.oinit hexec hown (wks W (objW "java/lang/String" 1)) (g := (mkF m 1 #[.val (.ref a), .val (.ref b), .val (.int (Int32.ofNat o)), .val (.int (Int32.ofNat len)), .val .null, .unset] [.ref a])) rfl (by rw [hml]; rfl) (rest := []) rfl (hb hbytes d1) (W := 0) (by show 2 * 0 + 0 ≤ _; decide) (Nat.le_of_ble_eq_true rfl) (Nat.le_of_ble_eq_true rfl)
  have hh3 := q3.trans hh0
  have c4 : Steps p.tables e below (s₁.setTop (entryFrame m #[.ref a, .ref b, .int (Int32.ofNat o), .int (Int32.ofNat len), .null] 6)) (T3.setTop (mkF m 27 #[.val (.ref a), .val (.ref b), .val (.int (Int32.ofNat o)), .val (.int (Int32.ofNat len)), .val .null, .unset] [])) := (c2.trans (st3 _ (Steps.refl _))).trans (by
    refine XS.iloadN X3.here hexec rfl (hb hbytes d4) rfl ?_
    refine XS.ifYes X3.here hexec rfl (pc0 := 5) rfl (hb hbytes d5) rfl (i0_ne_t (nz32 (by omega) l0)) (by decide) rfl ?_
    exact Steps.refl _)
  obtain ⟨T5, X5, q5, st5⟩ := X3.sget hexec hown (wk W (.fieldLink "java/lang/String" 38 "java/lang/String" "COMPACT_STRINGS" "Z")) s1 (fun _ _ h => by rw [hh3]; exact h) (g := (mkF m 27 #[.val (.ref a), .val (.ref b), .val (.int (Int32.ofNat o)), .val (.int (Int32.ofNat len)), .val .null, .unset] [])) rfl (hb hbytes d27)
  have hh5 := q5.trans hh3
  have c6 : Steps p.tables e below (s₁.setTop (entryFrame m #[.ref a, .ref b, .int (Int32.ofNat o), .int (Int32.ofNat len), .null] 6)) (T5.setTop (mkF m 30 #[.val (.ref a), .val (.ref b), .val (.int (Int32.ofNat o)), .val (.int (Int32.ofNat len)), .val .null, .unset] [.int z])) := c4.trans (st5 _ (Steps.refl _))
  have c7 : Steps p.tables e below (s₁.setTop (entryFrame m #[.ref a, .ref b, .int (Int32.ofNat o), .int (Int32.ofNat len), .null] 6)) (T5.setTop (mkF m 36 #[.val (.ref a), .val (.ref b), .val (.int (Int32.ofNat o)), .val (.int (Int32.ofNat len)), .val .null, .unset] [.int (Int32.ofNat len), .int (Int32.ofNat o), .ref b])) := c6.trans (by
    refine XS.ifNo X5.here hexec rfl (hb hbytes d30) rfl (i0_eq_f hz) ?_
    refine XS.aloadN X5.here hexec rfl (hb hbytes d33) rfl rfl ?_
    refine XS.iloadN X5.here hexec rfl (hb hbytes d34) rfl ?_
    refine XS.iloadN X5.here hexec rfl (hb hbytes d35) rfl ?_
    exact Steps.refl _)
  obtain ⟨v8, T8, X8, E8, g8⟩ := X5.callS hexec (Cmp3.law l b A o len) hown (wks W (staticW "java/lang/String" 177 Cmp3.yN)) (wk W Cmp3.tab) (W := 0) (Nat.le_of_ble_eq_true rfl) (Nat.le_of_ble_eq_true rfl) (Nat.le_refl _) (by show 0 + len ≤ len; omega) (g := (mkF m 36 #[.val (.ref a), .val (.ref b), .val (.int (Int32.ofNat o)), .val (.int (Int32.ofNat len)), .val .null, .unset] [.int (Int32.ofNat len), .int (Int32.ofNat o), .ref b])) rfl (by rw [hml]; rfl) c7 (argsL := [.ref b, .int (Int32.ofNat o), .int (Int32.ofNat len)]) (rest := []) rfl rfl (by show 2 * 0 + 0 ≤ _; decide) (hb hbytes d36) (⟨rfl, hA.mv X5.warmed.alike hh5, l1, l2, hp⟩)
  obtain ⟨e8, z8⟩ := E8
  obtain ⟨rfl, N, n1, n2, n3, n4, n5, n6⟩ := NewArr.mv _ T5 s _ _ hh5.symm (Vm.Alike.refl _) rfl e8
  rw [hh5] at z8
  have hB1 := hB.keep X8.warmed.alike (n6 _ _ hB.1)
  have hne : s.heap.size ≠ a := (Nat.ne_of_lt (Array.getElem?_eq_some_iff.mp hB.1).1).symm
  have c9 : Steps p.tables e below (s₁.setTop (entryFrame m #[.ref a, .ref b, .int (Int32.ofNat o), .int (Int32.ofNat len), .null] 6)) (T8.setTop (mkF m 39 #[.val (.ref a), .val (.ref b), .val (.int (Int32.ofNat o)), .val (.int (Int32.ofNat len)), .val .null, .unset] [.ref s.heap.size])) := g8
  have c10 : Steps p.tables e below (s₁.setTop (entryFrame m #[.ref a, .ref b, .int (Int32.ofNat o), .int (Int32.ofNat len), .null] 6)) (T8.setTop (mkF m 45 #[.val (.ref a), .val (.ref b), .val (.int (Int32.ofNat o)), .val (.int (Int32.ofNat len)), .val .null, .val (.ref s.heap.size)] [.int (Int32.ofNat N.slots.size), .ref s.heap.size, .ref a])) := by
    have hc : Steps p.tables e below (s₁.setTop (entryFrame m #[.ref a, .ref b, .int (Int32.ofNat o), .int (Int32.ofNat len), .null] 6)) (T8.setTop (mkF m 45 #[.val (.ref a), .val (.ref b), .val (.int (Int32.ofNat o)), .val (.int (Int32.ofNat len)), .val .null, .val (.ref s.heap.size)] [.int (Int32.ofNat len), .ref s.heap.size, .ref a])) := c9.trans (by
      refine XS.astore X8.here hexec rfl (hb hbytes d39) rfl rfl rfl ?_
      refine XS.aloadN X8.here hexec rfl (hb hbytes d41) rfl rfl ?_
      refine XS.aload X8.here hexec rfl (hb hbytes d42) rfl rfl ?_
      refine XS.iloadN X8.here hexec rfl (hb hbytes d44) rfl ?_
      exact Steps.refl _)
    rw [n4]; exact hc
  obtain ⟨v11, T11, X11, E11, g11⟩ := X8.callS hexec (CodL.law l s.heap.size N) hown (wks W (staticW "java/lang/String" 47 CodL.yN)) (wk W CodL.tab) (W := 1) (Nat.le_of_ble_eq_true rfl) (Nat.le_of_ble_eq_true rfl) (Nat.le_refl _) (by show 0 + len + 0 ≤ len; omega) (g := (mkF m 45 #[.val (.ref a), .val (.ref b), .val (.int (Int32.ofNat o)), .val (.int (Int32.ofNat len)), .val .null, .val (.ref s.heap.size)] [.int (Int32.ofNat N.slots.size), .ref s.heap.size, .ref a])) rfl (by rw [hml]; rfl) c10 (argsL := [.ref s.heap.size, .int (Int32.ofNat N.slots.size)]) (rest := [.ref a]) rfl rfl (by show 2 * 0 + (1 + 0) ≤ _; decide) (hb hbytes d45) (⟨rfl, n1⟩)
  obtain ⟨rfl, q11⟩ := E11
  have hB11 := hB1.mv (X8.warmed.alike.symm.trans X11.warmed.alike) q11
  have c12 : Steps p.tables e below (s₁.setTop (entryFrame m #[.ref a, .ref b, .int (Int32.ofNat o), .int (Int32.ofNat len), .null] 6)) (T11.setTop (mkF m 48 #[.val (.ref a), .val (.ref b), .val (.int (Int32.ofNat o)), .val (.int (Int32.ofNat len)), .val .null, .val (.ref s.heap.size)] [.int 0, .ref a])) := g11
  obtain ⟨T13, X13, p13, bl13, sl13, st13⟩ := X11.finit hexec hown (wk W (.fieldLink "java/lang/String" 15 "java/lang/String" "coder" "B")) (Or.inr ⟨_, (wk W (.laysFinal "java/lang/String" "java/lang/String" "coder" "B"))⟩) (Or.inl ⟨rfl, hnm⟩) f2 (Or.inl rfl) hB11 (t := .byte) (by decide +kernel) rfl (g := (mkF m 48 #[.val (.ref a), .val (.ref b), .val (.int (Int32.ofNat o)), .val (.int (Int32.ofNat len)), .val .null, .val (.ref s.heap.size)] [.int 0, .ref a])) rfl (rest := []) rfl (hb hbytes d48)
  have c14 : Steps p.tables e below (s₁.setTop (entryFrame m #[.ref a, .ref b, .int (Int32.ofNat o), .int (Int32.ofNat len), .null] 6)) (T13.setTop (mkF m 54 #[.val (.ref a), .val (.ref b), .val (.int (Int32.ofNat o)), .val (.int (Int32.ofNat len)), .val .null, .val (.ref s.heap.size)] [.ref s.heap.size, .ref a])) := (c12.trans (st13 _ (Steps.refl _))).trans (by
    refine XS.aloadN X13.here hexec rfl (hb hbytes d51) rfl rfl ?_
    refine XS.aload X13.here hexec rfl (hb hbytes d52) rfl rfl ?_
    exact Steps.refl _)
  obtain ⟨T15, X15, p15, bl15, sl15, st15⟩ := X13.finit hexec hown (wk W (.fieldLink "java/lang/String" 9 "java/lang/String" "value" "[B")) (Or.inr ⟨_, (wk W (.laysFinal "java/lang/String" "java/lang/String" "value" "[B"))⟩) (Or.inl ⟨rfl, hnm⟩) f1 (Or.inl rfl) bl13 (t := (.array .byte)) (by decide +kernel) rfl (g := (mkF m 54 #[.val (.ref a), .val (.ref b), .val (.int (Int32.ofNat o)), .val (.int (Int32.ofNat len)), .val .null, .val (.ref s.heap.size)] [.ref s.heap.size, .ref a])) rfl (rest := []) rfl (hb hbytes d54)
  have c16 : Steps p.tables e below (s₁.setTop (entryFrame m #[.ref a, .ref b, .int (Int32.ofNat o), .int (Int32.ofNat len), .null] 6)) (T15.setTop (mkF m 57 #[.val (.ref a), .val (.ref b), .val (.int (Int32.ofNat o)), .val (.int (Int32.ofNat len)), .val .null, .val (.ref s.heap.size)] [])) := c14.trans (st15 _ (Steps.refl _))
  have ap := apart (Or.inr ⟨_, (wk W (.laysFinal "java/lang/String" "java/lang/String" "value" "[B"))⟩) (Or.inr ⟨_, (wk W (.laysFinal "java/lang/String" "java/lang/String" "coder" "B"))⟩) f1 f2 (t₁ := .array .byte) (t₂ := .byte) (by decide +kernel) (by decide +kernel) (by decide)
  have al := X8.warmed.alike.symm.trans X15.warmed.alike
  have n7 : T11.heap[s.heap.size]? = some N := by rw [q11]; exact n1.1
  exact ⟨T15, none, _, _, _, X15, by simp, rfl, by omega, (fun _ => rfl), ⟨rfl, _, N, bl15, ((Same.refl D _).set _ (by simp)).set _ (by simp), sl15, (Cell.slots_setSlot_ne _ ap).trans sl13, n1.keep al (p15.other hne (p13.other hne n7)), n2, by rw [al.findClass]; exact n3, n4, n5, fun y c h1 h2 => p15.other h1 (p13.other h1 (by rw [q11]; exact n6 y c h2)), by rw [p15.2.2, p13.2.2, q11]; exact z8⟩, fun fs hl => c16.trans (X15.returnOut hexec hret (hb hbytes d57) hl)⟩
end New4
namespace New1
def yN : MethodName := ⟨"java/lang/String", "<init>", "([C)V"⟩
abbrev yB : ByteArray := jdk_42_method_3_code
theorem d0 : decode yB 0 = .ok (.aload_n 0, 1) := by decide +kernel
theorem d1 : decode yB 1 = .ok (.aload_n 1, 1) := by decide +kernel
theorem d2 : decode yB 2 = .ok (.iconst 0, 1) := by decide +kernel
theorem d3 : decode yB 3 = .ok (.aload_n 1, 1) := by decide +kernel
theorem d4 : decode yB 4 = .ok (.arraylength, 1) := by decide +kernel
theorem d5 : decode yB 5 = .ok (.aconst_null, 1) := by decide +kernel
theorem d6 : decode yB 6 = .ok (.invokespecial 27, 3) := by decide +kernel
theorem d9 : decode yB 9 = .ok (.return_, 1) := by decide +kernel
def site : List Cond := [New4.tab] ++ initW "java/lang/String" 27 New4.yN
def tab : Cond := tabOf yN yB 2 none site
def P (a : Addr) (D : Cell) (fV fC : Field) (b : Addr) (A : Cell) (z : Int32) (args : Array Value) (s : State) : Prop := args = #[.ref a, .ref b] ∧ Blank "java/lang/String" a D s ∧ Found "java/lang/String" "value" "[B" fV s ∧ Found "java/lang/String" "coder" "B" fC s ∧ Ch b A s ∧ StaticIs s "java/lang/String" "COMPACT_STRINGS" "Z" (.int z) ∧ ¬ z = 0 ∧ 0 < A.slots.size ∧ A.slots.size ≤ 536870912 ∧ ∀ i, i < A.slots.size → ¬ 255 < cv A i
def E (a : Addr) (D : Cell) (fV fC : Field) (A : Cell) (r : Option Value) (s u : State) : Prop := Got a D fV fC A 0 A.slots.size r s u
/-- new String(chars), not empty, no char above 255: a Latin-1 String of their low bytes -/
theorem law (l : Launch) (a : Addr) (D : Cell) (fV fC : Field) (b : Addr) (A : Cell) (z : Int32) : Law l yN 2 1 3 52 yB 2 none site (P a D fV fC b A z) (E a D fV fC A) [⟨a, fC.slot⟩, ⟨a, fV.slot⟩] 1 A.slots.size := by
  refine Law.of_walk (plainFor_of_name (by decide +kernel)) (by decide +kernel) (by decide +kernel) (by decide) (fun _ _ h => by rw [h.1]; rfl) (fun _ U U' hal hh h => ⟨h.1, h.2.1.mv hal hh, h.2.2.1.al hal, h.2.2.2.1.al hal, h.2.2.2.2.1.mv hal hh, h.2.2.2.2.2.1.there hal hh, h.2.2.2.2.2.2⟩) (fun r U U' V V' h1 hal h2 h => Got.mv r U U' V V' h1 hal h2 h) ?_
  intro p e s m args below meth c s₁ X0 hexec hbytes hml hret hlk hnm hown hh0 W hP
  obtain ⟨rfl, hB, f1, f2, hA, s1, hz, l0, l2, hp⟩ := hP
  have c1 : Steps p.tables e below (s₁.setTop (entryFrame m #[.ref a, .ref b] 2)) (s₁.setTop (mkF m 0 #[.val (.ref a), .val (.ref b)] [])) := entry rfl
  have c2 : Steps p.tables e below (s₁.setTop (entryFrame m #[.ref a, .ref b] 2)) (s₁.setTop (mkF m 6 #[.val (.ref a), .val (.ref b)] [.null, .int (Int32.ofNat A.slots.size), .int 0, .ref b, .ref a])) := c1.trans (by
    refine XS.aloadN X0.here hexec rfl (hb hbytes d0) rfl rfl ?_
    refine XS.aloadN X0.here hexec rfl (hb hbytes d1) rfl rfl ?_
    refine iconstV X0.here hexec rfl 0 (hb hbytes d2) (by decide) ?_
    refine XS.aloadN X0.here hexec rfl (hb hbytes d3) rfl rfl ?_
    refine X0.alen hexec (hA.1.mv X0.warmed.alike hh0) rfl rfl (hb hbytes d4) ?_
    refine XS.aconstNull X0.here hexec rfl (hb hbytes d5) ?_
    exact Steps.refl _)
  obtain ⟨v3, T3, X3, E3, g3⟩ := X0.callN hexec (New4.law l a D fV fC b A z 0 A.slots.size) rfl hown (wks W (initW "java/lang/String" 27 New4.yN)) (W New4.tab (by simp only [site, List.mem_cons, List.mem_append, true_or, or_true])) (W := 0) (Nat.le_of_ble_eq_true rfl) (Nat.le_of_ble_eq_true rfl) (Nat.le_refl _) (by show 0 + A.slots.size ≤ A.slots.size; omega) (g := (mkF m 6 #[.val (.ref a), .val (.ref b)] [.null, .int (Int32.ofNat A.slots.size), .int (Int32.ofNat 0), .ref b, .ref a])) rfl (by rw [hml]; rfl) c2 (argsL := [.ref b, .int (Int32.ofNat 0), .int (Int32.ofNat A.slots.size), .null]) (rest := []) rfl rfl (by show 2 * 0 + 0 ≤ _; decide) (hb hbytes d6) (⟨rfl, hB.mv X0.warmed.alike hh0, f1.al X0.warmed.alike, f2.al X0.warmed.alike, hA.mv X0.warmed.alike hh0, s1.there X0.warmed.alike hh0, hz, l0, by omega, l2, fun i hi => by rw [Nat.zero_add]; exact hp i hi⟩)
  have e0 := Got.mv _ s₁ s _ _ hh0.symm (Vm.Alike.refl _) rfl E3
  obtain rfl := e0.1
  have c4 : Steps p.tables e below (s₁.setTop (entryFrame m #[.ref a, .ref b] 2)) (T3.setTop (mkF m 9 #[.val (.ref a), .val (.ref b)] [])) := g3
  exact ⟨T3, none, _, _, _, X3, by simp, rfl, by omega, (fun _ => rfl), e0, fun fs hl => c4.trans (X3.returnOut hexec hret (hb hbytes d9) hl)⟩
theorem pays {l : Launch} {R : Room} {p : Program} {e : Env} {below : List Frame} {s : State} {sargs : Array Value} {len W : Nat} (a : Addr) (D : Cell) (fV fC : Field) (b : Addr) (A : Cell) (z : Int32) (htab : tab.before sargs s = true) (hfr : 4 ≤ R.frames) (hlo : W + 65 ≤ R.locals) :
    Back l R p e below s sargs yN len W (fun A₁ a₁ => A₁.cells + 1 ≤ R.cells ∧ A₁.slots + A.slots.size ≤ R.slots ∧ P a D fV fC b A z a₁ A₁.U) (fun A₁ _ v₁ B₁ => E a D fV fC A v₁ A₁.U B₁.U ∧ B₁.locs = A₁.locs ++ [⟨a, fC.slot⟩, ⟨a, fV.slot⟩] ∧ B₁.cells = A₁.cells + 1 ∧ B₁.slots = A₁.slots + A.slots.size) :=
  (law l a D fV fC b A z).pays htab hfr (by omega)
end New1
end StrChars
namespace StrChars.Road
open Jvm Sem ClassFile Op Lib Jvm.Stand Jvm.Free Jvm.Free.XT
open Jvm.Lib.Cold (StaticIs)
abbrev ST : String := "java/lang/String"
/-- every table word that New1's law asks, flat -/
abbrev words : List Jvm.Cond := [.code New1.yN New1.yB 2 none, .initialized ST, .methodLink ST 27 New4.yN, .instanceMethod New4.yN,
  .code New4.yN New4.yB 6 none, .fieldLink ST 38 ST "COMPACT_STRINGS" "Z", .laysFinal ST ST "value" "[B", .fieldLink ST 9 ST "value" "[B", .laysFinal ST ST "coder" "B", .fieldLink ST 15 ST "coder" "B",
  .methodLink ST 1 Lib.objectInit, .instanceMethod Lib.objectInit, .code Lib.objectInit ⟨#[0xb1]⟩ 1 none, .methodLink ST 177 Cmp3.yN, .static Cmp3.yN, .methodLink ST 47 CodL.yN, .static CodL.yN,
  .code Cmp3.yN Cmp3.yB 6 (some (.array .byte)), .initialized U16, .arrayClass .byte, .methodLink U16 115 Cmp5.yN, .static Cmp5.yN, .code Cmp5.yN Cmp5.yB 7 (some .int), .code CodL.yN CodL.yB 2 (some .byte)]
theorem tab_of {a : Array Value} {s : State} (h : ∀ w ∈ words, w.before a s = true) : New1.tab.before a s = true := by
  have h5 : Cmp5.tab.before a s = true := unparts (wk h (.code Cmp5.yN Cmp5.yB 7 (some .int))) (wks h (.initialized Cmp5.yN.cls :: Cmp5.site))
  have hc : CodL.tab.before a s = true := unparts (wk h (.code CodL.yN CodL.yB 2 (some .byte))) (wks h (.initialized CodL.yN.cls :: CodL.site))
  have q5 : ∀ w ∈ Cmp5.tab :: words, w.before a s = true := fun w hw => (List.mem_cons.mp hw).elim (fun e => e ▸ h5) (h w)
  have h3 : Cmp3.tab.before a s = true := unparts (wk q5 (.code Cmp3.yN Cmp3.yB 6 (some (.array .byte)))) (wks q5 (.initialized Cmp3.yN.cls :: Cmp3.site))
  have q3 : ∀ w ∈ Cmp3.tab :: CodL.tab :: words, w.before a s = true := fun w hw => (List.mem_cons.mp hw).elim (fun e => e ▸ h3) fun hw => (List.mem_cons.mp hw).elim (fun e => e ▸ hc) (h w)
  have h4 : New4.tab.before a s = true := unparts (wk q3 (.code New4.yN New4.yB 6 none)) (wks q3 (.initialized New4.yN.cls :: New4.site))
  have q4 : ∀ w ∈ New4.tab :: words, w.before a s = true := fun w hw => (List.mem_cons.mp hw).elim (fun e => e ▸ h4) (h w)
  exact unparts (wk q4 (.code New1.yN New1.yB 2 none)) (wks q4 (.initialized New1.yN.cls :: New1.site))
/-- the words ride from the start Z to the walk's own state -/
theorem moved {Z s : State} {a0 args : Array Value} (hZ : Z.Warmed39 s.vm) (hw : ∀ d ∈ words, d.before a0 Z = true) : ∀ d ∈ words, d.before args s = true := fun d hd => by
  have q := hw d hd
  have t : ∀ d ∈ words, d = .arrayClass .byte ∨ (d.onTables && d.keepsFace) = true := by decide +kernel
  rcases t d hd with rfl | t
  · exact RoadKit.mvA hZ q
  · exact RoadKit.mv hZ q t
/-- WHAT COMES BACK, over the tables of the start Z: h the heap at the call, h' behind it -/
def Q (Z : State) (x : Addr) (A : Cell) (h : Heap) (v : Option Value) (h' : Heap) (L : List Loc) : Prop := v = none ∧ (∀ y ∈ L, y.base = x) ∧ RoadKit.Keep h h' [x] ∧ h'.size = h.size + 1 ∧ RoadKit.Exa Z h' x ST ∧ RoadKit.Fld Z h' x ST "value" "[B" (.ref h.size) ∧ RoadKit.Fld Z h' x ST "coder" "B" (.int 0) ∧
  (∃ V : Cell, RoadKit.Arr Z h' h.size V .byte ∧ V.vm = .none ∧ Z.vm.findClass "[B" = some V.cls ∧ V.slots.size = A.slots.size ∧ ∀ j, j < A.slots.size → V.slots[j]? = some (.int (lo8 (cv A j)))) ∧
  ∀ (O n d : String) (w : Value), RoadKit.Fld Z h x O n d w → RoadKit.slotOf Z O n d ≠ RoadKit.slotOf Z ST "value" "[B" → RoadKit.slotOf Z O n d ≠ RoadKit.slotOf Z ST "coder" "B" → RoadKit.Fld Z h' x O n d w
/-- **new String(chars) AT A CALL, IN THE ROAD'S FORM**: for specialBack behind newO: x the fresh String, b the char[] with the cell A -/
theorem back {p : Program} {l : Launch} {e : Env} {R : Room} {s : State} {args : Array Value} {below : List Frame} {len W : Nat} {Z : State} {a0 : Array Value} {h : Heap} (hZ : Z.Warmed39 s.vm) (hw : ∀ d ∈ words, d.before a0 Z = true) {kI : Nat} (wi : (Jvm.Cond.instantiable ST kI).before a0 Z = true)
    {x b : Addr} {A : Cell} {z : Int32} {v0 c0 : Value} (E : RoadKit.Exa Z h x ST) (V : RoadKit.Fld Z h x ST "value" "[B" v0) (C : RoadKit.Fld Z h x ST "coder" "B" c0) (K : RoadKit.Arr Z h b A .char) (hty : Typed .char A) (S : RoadKit.Sta Z h ST "COMPACT_STRINGS" "Z" (.int z)) (hz : ¬ z = 0)
    (l0 : 0 < A.slots.size) (l2 : A.slots.size ≤ 536870912) (hp : ∀ i, i < A.slots.size → ¬ 255 < cv A i) (hfr : 4 ≤ R.frames) (hlo : W + 65 ≤ R.locals) :
    Back l R p e below s args New1.yN len W (fun P a => a = #[.ref x, .ref b] ∧ P.U.heap = h ∧ P.cells + 1 ≤ R.cells ∧ P.slots + A.slots.size ≤ R.slots)
      (fun P _ v B => ∃ L, Q Z x A h v B.U.heap L ∧ B.locs = P.locs ++ L ∧ B.cells = P.cells + 1 ∧ B.slots = P.slots + A.slots.size) := by
  intro m meth c P g ig mk a X hg hsize hdg hW hn hp'
  obtain ⟨rfl, rfl, r1, r2⟩ := hp'
  have al : Z.vm.Alike P.U.vm := hZ.alike.trans X.warmed.alike
  obtain ⟨D, cfV, kV, iV, fV, hD, gV, stV, knV, obV, asV, slV⟩ := id V
  obtain ⟨D', cfC, kC, iC, fC, hD', gC, stC, -, -, asC, slC⟩ := id C
  cases hD.symm.trans hD'
  obtain ⟨D2, kD, e1, e2, e3, e4, e5⟩ := id E
  cases hD.symm.trans e1
  obtain ⟨c2, k2, i1, i2, i3, -⟩ := Cond.instantiable_spec wi
  cases e2.symm.trans i1
  cases e3.symm.trans i2
  obtain ⟨kU, u1, u2⟩ := al.2.2 _ _ e3
  have hB : Blank ST x D P.U := ⟨hD, ⟨knV, fun q hq => by rw [hq] at obV; cases obV⟩, by rw [al.findClass]; exact e2, kU, u1, by rw [u2]; exact i3, by rw [u2]; exact e5 i3⟩
  have F1 : Found ST "value" "[B" fV P.U := ⟨SBG.found_only al ⟨cfV, kV, iV, gV⟩, stV⟩
  have F2 : Found ST "coder" "B" fC P.U := ⟨SBG.found_only al ⟨cfC, kC, iC, gC⟩, stC⟩
  have hA : Ch b A P.U := ⟨⟨K.1, State.isArrayOf_alike al K.2.1, K.2.2, by omega⟩, hty⟩
  have hS : StaticIs P.U ST "COMPACT_STRINGS" "Z" (.int z) := by
    obtain ⟨cfS, iS, kS, fS, st, cS, t1, t2, t3, t4, t5, t6, t7⟩ := S
    exact StaticIs.there (s := { Z with heap := P.U.heap }) ⟨cfS, iS, kS, fS, st, cS, t1, t2, t3, t4, t5, (fun q => by rw [q] at t6; cases t6), t7⟩ al rfl
  obtain ⟨v, B, X', ⟨⟨hv, E', V', q1, q2, q3, q4, q5, q6, q7, q8, q9, q10, q11⟩, hl, hc, hs⟩, st⟩ := New1.pays x D fV fC b A z (tab_of (moved hZ hw)) hfr hlo m meth c P g ig mk _ X hg hsize hdg hW hn ⟨r1, r2, rfl, hB, F1, F2, hA, hS, hz, l0, l2, hp⟩
  have al' : Z.vm.Alike B.U.vm := hZ.alike.trans X'.warmed.alike
  have hsz : E'.slots.size = D.slots.size := by
    obtain ⟨-, -, -, kB, w1, w2, w3⟩ := q1
    obtain ⟨kB', y1, y2⟩ := al'.2.2 _ _ e3
    rw [q2.2.1] at w1
    cases w1.symm.trans y1
    rw [w3, e5 i3, y2]
  refine ⟨v, B, X', ⟨_, ⟨hv, ?_, ⟨by omega, fun y cy hy hn' => q10 y cy (by simpa using hn') hy, fun y cy hy => ?_⟩, q11, ⟨E', _, q1.1, by rw [q2.2.1]; exact e2, by rw [q2.2.1]; exact e3, by rw [q2.1]; exact obV, fun _ => by rw [hsz]; exact e5 i3⟩,
    ⟨E', cfV, kV, iV, fV, q1.1, gV, stV, by rw [q2.1]; exact knV, by rw [q2.1]; exact obV, by rw [q2.2.1]; exact asV, q3⟩, ⟨E', cfC, kC, iC, fC, q1.1, gC, stC, by rw [q2.1]; exact knV, by rw [q2.1]; exact obV, by rw [q2.2.1]; exact asC, q4⟩,
    ⟨V', ⟨q5.1, State.isArrayOf_alike al'.symm q5.2.1, q5.2.2.1⟩, q6, by rw [← al'.findClass]; exact q7, q8, fun j hj => by have := q9 j hj; rwa [Nat.zero_add] at this⟩, fun O n d w F n1 n2 => ?_⟩, hl, hc, hs⟩, st⟩
  · intro y hy
    simp only [List.mem_cons, List.not_mem_nil, or_false] at hy
    rcases hy with rfl | rfl <;> rfl
  · by_cases q : y = x
    · subst q
      cases hD.symm.trans hy
      exact ⟨E', q1.1, q2.2.1, q2.1, hsz⟩
    · exact ⟨cy, q10 y cy q hy, rfl, rfl, rfl⟩
  · obtain ⟨D3, cf, k, i, f, g1, g2, g3, g4, g5, g6, g7⟩ := F
    cases hD.symm.trans g1
    simp only [RoadKit.slotOf, g2, gV, gC, Option.map_some, Option.getD_some] at n1 n2
    exact ⟨E', cf, k, i, f, q1.1, g2, g3, by rw [q2.1]; exact g4, by rw [q2.1]; exact g5, by rw [q2.2.1]; exact g6, by rw [q2.2.2 f.slot (by simp [n1, n2])]; exact g7⟩
end StrChars.Road
namespace StrChars.Road
open Jvm Sem ClassFile Op Lib Jvm.Stand Jvm.Free Jvm.Free.XT
/-- WHAT COMES BACK, the byte[] as a list of values -/
def QA (Z : State) (x : Addr) (zn : Int32) (cs : List Int32) (h : Heap) (v : Option Value) (h' : Heap) (L : List Loc) : Prop := v = none ∧ (∀ y ∈ L, y.base = x) ∧ RoadKit.Keep h h' [x] ∧ h'.size = h.size + 1 ∧ RoadKit.Exa Z h' x ST ∧ RoadKit.Fld Z h' x ST "value" "[B" (.ref h.size) ∧ RoadKit.Fld Z h' x ST "coder" "B" (.int 0) ∧
  (∃ kb, Z.vm.findClass "[B" = some kb ∧ RoadKit.Arv Z h' h.size kb .byte zn (cs.map fun c => .int (lo8 c)) (.int 0)) ∧
  ∀ (O n d : String) (w : Value), RoadKit.Fld Z h x O n d w → RoadKit.slotOf Z O n d ≠ RoadKit.slotOf Z ST "value" "[B" → RoadKit.slotOf Z O n d ≠ RoadKit.slotOf Z ST "coder" "B" → RoadKit.Fld Z h' x O n d w
/-- **new String(chars) AT A CALL, THE ARRAYS AS LISTS**: the char[] at b holds cs, not empty, no char above 255 -/
theorem backArv {p : Program} {l : Launch} {e : Env} {R : Room} {s : State} {args : Array Value} {below : List Frame} {len W : Nat} {Z : State} {a0 : Array Value} {h : Heap} (hZ : Z.Warmed39 s.vm) (hw : ∀ d ∈ words, d.before a0 Z = true) {kI : Nat} (wi : (Jvm.Cond.instantiable ST kI).before a0 Z = true)
    {x b : Addr} {k : ClassId} {zn z : Int32} {cs : List Int32} {dv v0 c0 : Value} (E : RoadKit.Exa Z h x ST) (V : RoadKit.Fld Z h x ST "value" "[B" v0) (C : RoadKit.Fld Z h x ST "coder" "B" c0) (K : RoadKit.Arv Z h b k .char zn (cs.map Value.int) dv) (S : RoadKit.Sta Z h ST "COMPACT_STRINGS" "Z" (.int z)) (hz : ¬ z = 0)
    (hlen : zn.toNatClampNeg = cs.length) (h0 : 0 < cs.length) (hbig : cs.length ≤ 536870912) (hall : ∀ c ∈ cs, ¬ 255 < c) (hfr : 4 ≤ R.frames) (hlo : W + 65 ≤ R.locals) :
    Back l R p e below s args New1.yN len W (fun P a => a = #[.ref x, .ref b] ∧ P.U.heap = h ∧ P.cells + 1 ≤ R.cells ∧ P.slots + cs.length ≤ R.slots)
      (fun P _ v B => ∃ L, QA Z x zn cs h v B.U.heap L ∧ B.locs = P.locs ++ L ∧ B.cells = P.cells + 1 ∧ B.slots = P.slots + cs.length) := by
  obtain ⟨A, K1, K2, K3, K4, K5, K6⟩ := K
  have e : A.slots.size = cs.length := K3.trans hlen
  have hat : ∀ (i : Nat) (hi : i < cs.length), A.slots[i]? = some (.int cs[i]) := fun i hi => by rw [K5 i (by omega)]; simp [List.getD_eq_getElem?_getD, hi]
  have hcv : ∀ (i : Nat) (hi : i < cs.length), cv A i = cs[i] := fun i hi => by unfold cv; rw [hat i hi]
  have hty : Typed .char A := fun i v hv => by
    have hi : i < A.slots.size := (Array.getElem?_eq_some_iff.mp hv).1
    have q := K5 i hi
    rw [hv] at q
    rw [Option.some.inj q]
    exact K6 i hi
  refine Back.mono (back hZ hw wi E V C K1 hty S hz (by omega) (by omega) (fun i hi => by rw [hcv i (by omega)]; exact hall _ (List.getElem_mem _)) hfr hlo) (fun P a hp => ⟨hp.1, hp.2.1, hp.2.2.1, by rw [e]; exact hp.2.2.2⟩) (fun P a v B hp hq => ?_)
  obtain ⟨L, ⟨q1, q2, q3, q4, q5, q6, q7, ⟨V', v1, v2, v3, v4, v5⟩, q9⟩, hl, hc, hs⟩ := hq
  refine ⟨L, ⟨q1, q2, q3, q4, q5, q6, q7, ⟨V'.cls, v3, V', v1, rfl, by rw [v4, e, hlen], K4, fun i hi => ?_, fun i hi => ?_⟩, q9⟩, hl, hc, by rw [hs, e]⟩
  · have hi' : i < cs.length := by omega
    rw [v5 i (by omega), hcv i hi']; simp [List.getD_eq_getElem?_getD, hi']
  · have hi' : i < cs.length := by omega
    simp only [List.getD_eq_getElem?_getD, List.getElem?_map, List.getElem?_eq_getElem hi', Option.map_some, Option.getD_some]
    exact fits_lo8 _
end StrChars.Road
namespace StrChars.Road
open Jvm Sem ClassFile Op Lib Jvm.Stand Jvm.Free Jvm.Free.XT
/-- WHAT COMES BACK, in the writer's own shape -/
def QV (Z : State) (x : Addr) (N : Int32) (bs : List Int32) (h : Heap) (n0 : Nat) (v : Option Value) (h' : Heap) (L : List Loc) : Prop := v = none ∧ RoadKit.Fr n0 L ∧ RoadKit.Keep h h' [x] ∧ RoadKit.Exa Z h' x ST ∧ RoadKit.Fld Z h' x ST "coder" "B" (.int 0) ∧
  ∃ (t : Addr) (kb : ClassId), n0 ≤ t ∧ h.size ≤ t ∧ ¬ t = x ∧ RoadKit.Fld Z h' x ST "value" "[B" (.ref t) ∧ RoadKit.Arv Z h' t kb .byte N (bs.map Value.int) (.int 0)
/-- **new String(chars) AT A CALL, FOR THE WRITER**: a char[] of n known ints, each 0 to 255 -/
theorem backV {p : Program} {l : Launch} {e : Env} {R : Room} {s : State} {args : Array Value} {below : List Frame} {len W : Nat} {Z : State} {a0 : Array Value} {h : Heap} (hZ : Z.Warmed39 s.vm) (hw : ∀ d ∈ words, d.before a0 Z = true) {kI : Nat} (wi : (Jvm.Cond.instantiable ST kI).before a0 Z = true)
    {x b : Addr} {kC : ClassId} {cs bs : List Int32} {d v0 c0 : Value} {z N : Int32} {n n0 : Nat} (hx0 : n0 ≤ x) (hh0 : n0 ≤ h.size) (E : RoadKit.Exa Z h x ST) (V : RoadKit.Fld Z h x ST "value" "[B" v0) (C : RoadKit.Fld Z h x ST "coder" "B" c0) (K : RoadKit.Arv Z h b kC .char N (cs.map Value.int) d) (S : RoadKit.Sta Z h ST "COMPACT_STRINGS" "Z" (.int z)) (hz : ¬ z = 0)
    (hn : cs.length = n) (hN : N = Int32.ofNat n) (l0 : 0 < n) (l2 : n ≤ 4000) (hp : ∀ c ∈ cs, ¬ c < 0 ∧ ¬ (255 : Int32) < c) (hb : bs = cs.map (fun c => c.toInt8.toInt32)) (hfr : 4 ≤ R.frames) (hlo : W + 65 ≤ R.locals) :
    Back l R p e below s args (⟨"java/lang/String", "<init>", "([C)V"⟩ : MethodName) len W (fun P a => a = #[.ref x, .ref b] ∧ P.U.heap = h ∧ P.cells + 1 ≤ R.cells ∧ P.slots + n ≤ R.slots)
      (fun P _ v B => ∃ L, QV Z x N bs h n0 v B.U.heap L ∧ B.locs = P.locs ++ L ∧ B.cells = P.cells + 1 ∧ B.slots = P.slots + n) := by
  subst hn hN hb
  refine Back.mono (backArv hZ hw wi E V C K S hz (n32 (by omega)) l0 (by omega) (fun c hc => (hp c hc).2) hfr hlo) (fun P a hp => hp) (fun P a v B hp hq => ?_)
  obtain ⟨L, ⟨q1, q2, q3, q4, q5, q6, q7, ⟨kb, v1, v2⟩, q9⟩, hl, hc, hs⟩ := hq
  exact ⟨L, ⟨q1, fun y hy => by rw [q2 y hy]; exact hx0, q3, q5, q7, h.size, kb, hh0, Nat.le_refl _, Nat.ne_of_gt E.lt, q6, by rw [List.map_map]; exact v2⟩, hl, hc, hs⟩
end StrChars.Road
end Jvm.Pilot.@@N@@
namespace Jvm.Pilot.@@N@@
open Jvm Jvm.ClassFile Sem Op Lib Jvm.Free Jvm.Stand Jvm.LawKit Jvm.RoadKit Jvm.OwnW Bundle Jvm.Pilot.@@N@@.Jvm.D
/-- the first bytes are these -/
def Pfx (vs : List Value) (bs : List Int32) : Prop := ∀ i, i < bs.length → vs.getD i (.int (0 : Int32)) = .int (bs.getD i 0)
def Buf (vs : List Value) (cnt cap : Int32) (bs : List Int32) : Prop := cnt.toInt = bs.length ∧ vs.length = cap.toNatClampNeg ∧ bs.length ≤ cap.toNatClampNeg ∧ (cap = 16 ∨ cap = 34) ∧ Pfx vs bs
def Str (us : List Value) (nn : Int32) (ub : List Int32) : Prop := nn.toInt = ub.length ∧ ub.length ≤ 40 ∧ Pfx us ub
theorem natI {x : Int32} {n : Nat} (h : x.toInt = n) : x.toNatClampNeg = n := by simp [Int32.toNatClampNeg, h]
theorem addI {x y : Int32} {a b : Nat} (hx : x.toInt = a) (hy : y.toInt = b) (q : a + b < 1000) : (x + y).toInt = ((a + b : Nat) : Int) := by
  rw [Int32.toInt_add, hx, hy, Int.bmod_eq_of_le] <;> omega
theorem Pfx.app {us vs : List Value} {ub bs : List Int32} {z : Nat} (hu : Pfx us ub) (hv : Pfx vs bs) (q : bs.length + ub.length ≤ z) : Pfx (cpF us (.int (0 : Int32)) 0 vs (.int (0 : Int32)) bs.length ub.length z) (bs ++ ub) := by
  intro i hi
  rw [List.length_append] at hi
  rw [cpF_at (by omega)]
  by_cases c : bs.length ≤ i
  · rw [if_pos ⟨c, by omega⟩, Nat.zero_add, hu _ (by omega)]
    simp [List.getD_eq_getElem?_getD, List.getElem?_append_right c]
  · rw [if_neg (by omega), hv _ (by omega)]
    simp [List.getD_eq_getElem?_getD, List.getElem?_append_left (show i < bs.length by omega)]
theorem Buf.app {us vs : List Value} {cnt cap nn : Int32} {ub bs : List Int32} (B : Buf vs cnt cap bs) (S : Str us nn ub) (q : bs.length + ub.length ≤ cap.toNatClampNeg) : Buf (cpF us (.int (0 : Int32)) (0 : Int32).toNatClampNeg vs (.int (0 : Int32)) cnt.toNatClampNeg nn.toNatClampNeg cap.toNatClampNeg) (cnt + nn) cap (bs ++ ub) := by
  obtain ⟨b1, b2, b3, b4, b5⟩ := B
  obtain ⟨s1, s2, s3⟩ := S
  have hc : cap.toNatClampNeg ≤ 34 := by rcases b4 with rfl | rfl <;> decide
  refine ⟨?_, ?_, ?_, b4, ?_⟩
  · rw [addI b1 s1 (by omega), List.length_append]
  · simp [cpF]
  · rw [List.length_append]; exact q
  · rw [natI b1, natI s1]; exact Pfx.app s3 b5 q
theorem Buf.grow {vs vd : List Value} {cnt : Int32} {bs : List Int32} (B : Buf vs cnt 16 bs) : Buf (cpF vs (.int (0 : Int32)) (0 : Int32).toNatClampNeg vd (.int (0 : Int32)) (0 : Int32).toNatClampNeg (16 : Int32).toNatClampNeg (34 : Int32).toNatClampNeg) cnt 34 bs := by
  obtain ⟨b1, b2, b3, b4, b5⟩ := B
  have e16 : (16 : Int32).toNatClampNeg = 16 := rfl
  have e34 : (34 : Int32).toNatClampNeg = 34 := rfl
  have e0 : (0 : Int32).toNatClampNeg = 0 := rfl
  rw [e16] at b2 b3
  refine ⟨b1, by simp [cpF], by rw [e34]; omega, Or.inr rfl, ?_⟩
  intro i hi
  rw [e0, e16, e34, cpF_at (by omega), if_pos (by omega)]
  simpa using b5 i hi
/-- decimal digits -/
def dl (u : Nat) : Nat := if u < 10 then 1 else if u < 100 then 2 else if u < 1000 then 3 else if u < 10000 then 4 else if u < 100000 then 5 else if u < 1000000 then 6 else if u < 10000000 then 7 else if u < 100000000 then 8 else if u < 1000000000 then 9 else 10
def dch (u k : Nat) : Int32 := Nat.toInt32 (48 + (u / 10 ^ k) % 10)
def dgs (u : Nat) : List Int32 := (List.range (dl u)).map fun j => dch u (dl u - 1 - j)
def db (v : Int32) : List Int32 := (if v.toInt < 0 then [45] else []) ++ dgs v.toInt.natAbs
/-- the last k places ahead of e hold the last k digits -/
def Low (vs : List Value) (e u k : Nat) : Prop := ∀ j, j < k → vs.getD (e - 1 - j) (.int (0 : Int32)) = .int (dch u j)
theorem Low.step {vs : List Value} {e u k : Nat} (h : Low vs e u k) (h1 : k < e) (h2 : e ≤ vs.length) : Low (vs.set (e - 1 - k) (.int (dch u k))) e u (k + 1) := by
  intro j hj
  by_cases c : j = k
  · subst c
    simp [List.getD_eq_getElem?_getD, List.getElem?_set, show e - 1 - j < vs.length by omega]
  · have := h j (by omega)
    rw [← this]
    simp [List.getD_eq_getElem?_getD, List.getElem?_set, show ¬ (e - 1 - k = e - 1 - j) by omega]
theorem Pfx.set {vs : List Value} {bs : List Int32} {i : Nat} {v : Value} (h : Pfx vs bs) (q : bs.length ≤ i) : Pfx (vs.set i v) bs := by
  intro j hj
  rw [← h j hj]
  simp [List.getD_eq_getElem?_getD, List.getElem?_set, show ¬ (i = j) by omega]
theorem Low.none (vs : List Value) (e u : Nat) : Low vs e u 0 := fun _ q => absurd q (Nat.not_lt_zero _)
/-- all digits are there: the buffer holds the number -/
theorem Low.all {vs : List Value} {bs : List Int32} {u : Nat} (hp : Pfx vs bs) (hl : Low vs (bs.length + dl u) u (dl u)) : Pfx vs (bs ++ dgs u) := by
  intro i hi
  have len : (dgs u).length = dl u := by simp [dgs]
  rw [List.length_append, len] at hi
  by_cases c : bs.length ≤ i
  · have := hl (bs.length + dl u - 1 - i) (by omega)
    rw [show bs.length + dl u - 1 - (bs.length + dl u - 1 - i) = i by omega] at this
    rw [this]
    simp [List.getD_eq_getElem?_getD, List.getElem?_append_right c, dgs, show i - bs.length < dl u by omega]
    congr 1; omega
  · rw [hp _ (by omega)]
    simp [List.getD_eq_getElem?_getD, List.getElem?_append_left (show i < bs.length by omega)]
theorem dl_eq {u d : Nat} (lo : d = 1 ∨ 10 ^ (d - 1) ≤ u) (hi : d = 10 ∨ u < 10 ^ d) (h1 : 1 ≤ d) (h2 : d ≤ 10) : dl u = d := by
  have : d = 1 ∨ d = 2 ∨ d = 3 ∨ d = 4 ∨ d = 5 ∨ d = 6 ∨ d = 7 ∨ d = 8 ∨ d = 9 ∨ d = 10 := by omega
  rcases this with rfl | rfl | rfl | rfl | rfl | rfl | rfl | rfl | rfl | rfl <;> simp at lo hi <;> unfold dl <;> (repeat' split) <;> omega
theorem dgs_len (u : Nat) : (dgs u).length = dl u := by simp [dgs]
theorem db_len (v : Int32) : (db v).length = dl v.toInt.natAbs + (if v.toInt < 0 then 1 else 0) := by
  unfold db
  rw [List.length_append, dgs_len]
  split <;> simp <;> omega
theorem own_siz {v x r pl ph : Int32} (d : Nat) (hx : x.toInt = -(v.toInt.natAbs : Int)) (lo : d = 1 ∨ (¬ pl < x ∧ pl.toInt = -((10 ^ (d - 1) : Nat) : Int))) (hi : d = 10 ∨ (ph < x ∧ ph.toInt = -((10 ^ d : Nat) : Int))) (h1 : 1 ≤ d) (h2 : d ≤ 10) (hr : r.toInt = (d : Int) + (if v.toInt < 0 then 1 else 0)) : r.toInt = ((db v).length : Int) := by
  have e : dl v.toInt.natAbs = d := by
    refine dl_eq ?_ ?_ h1 h2
    · rcases lo with l | ⟨l, q⟩
      · exact Or.inl l
      · rw [Int32.lt_iff_toInt_lt] at l; exact Or.inr (by omega)
    · rcases hi with l | ⟨l, q⟩
      · exact Or.inl l
      · rw [Int32.lt_iff_toInt_lt] at l; exact Or.inr (by omega)
  rw [db_len, e, hr]
  split <;> simp
theorem own_negx {v x : Int32} (h : ¬ v < 0) (hx : x = -v) : x.toInt = -(v.toInt.natAbs : Int) := by
  rw [Int32.lt_iff_toInt_lt] at h
  have e0 : (0 : Int32).toInt = 0 := rfl
  have := v.toInt_lt
  subst hx
  rw [Int32.toInt_neg, Int.bmod_eq_of_le] <;> omega
theorem own_negv {v : Int32} (h : v < 0) : v.toInt = -(v.toInt.natAbs : Int) := by
  rw [Int32.lt_iff_toInt_lt] at h
  have e0 : (0 : Int32).toInt = 0 := rfl
  omega
theorem own_gc {i : Int32} {w : Nat} (h : i.toInt = -(w : Int)) : (i / 100).toInt = -((w / 100 : Nat) : Int) ∧ ((i / 100) * 100 - i).toInt = ((w % 100 : Nat) : Int) := by
  have l := i.le_toInt
  have hw : w ≤ 2147483648 := by omega
  have e100 : (100 : Int32).toInt = 100 := rfl
  have q : (i / 100).toInt = -((w / 100 : Nat) : Int) := by
    rw [Int32.toInt_div, h, e100, Int.neg_tdiv]
    have : (w : Int).tdiv 100 = ((w / 100 : Nat) : Int) := by
      rw [Int.tdiv_eq_ediv_of_nonneg (by omega)]; omega
    rw [this, Int.bmod_eq_of_le] <;> omega
  refine ⟨q, ?_⟩
  rw [Int32.toInt_sub, Int32.toInt_mul, q, e100, h]
  rw [Int.bmod_eq_of_le (n := -((w / 100 : Nat) : Int) * 100)] <;> try omega
  rw [Int.bmod_eq_of_le] <;> omega
theorem own_ng {i : Int32} {w : Nat} (h : i.toInt = -(w : Int)) (q : w < 1000) : (-i).toInt = (w : Int) := by
  rw [Int32.toInt_neg, h, Int.bmod_eq_of_le] <;> omega
def ones : List Value := (List.range 100).map fun i => .int (Nat.toInt32 (48 + i % 10))
def tens : List Value := (List.range 100).map fun i => .int (Nat.toInt32 (48 + i / 10))
theorem own_ones {r : Int32} {u k : Nat} (h : r.toInt = ((u / 10 ^ k % 100 : Nat) : Int)) : ones.getD r.toNatClampNeg (.int (0 : Int32)) = .int (dch u k) := by
  have q := natI h
  have b : u / 10 ^ k % 100 < 100 := Nat.mod_lt _ (by decide)
  rw [q]
  simp [ones, List.getD_eq_getElem?_getD, b, dch]
theorem own_tens {r : Int32} {u k : Nat} (h : r.toInt = ((u / 10 ^ k % 100 : Nat) : Int)) : tens.getD r.toNatClampNeg (.int (0 : Int32)) = .int (dch u (k + 1)) := by
  have q := natI h
  have b : u / 10 ^ k % 100 < 100 := Nat.mod_lt _ (by decide)
  rw [q]
  have e : u / 10 ^ (k + 1) = u / 10 ^ k / 10 := by rw [Nat.pow_succ, Nat.div_div_eq_div_mul]
  simp [tens, List.getD_eq_getElem?_getD, b, dch, e]
  congr 2
  omega
theorem dch_rng (u k : Nat) : (dch u k).toInt = ((48 + u / 10 ^ k % 10 : Nat) : Int) := by
  have b : u / 10 ^ k % 10 < 10 := Nat.mod_lt _ (by decide)
  unfold dch
  exact len_toInt (by omega)
theorem dch_lat (u k : Nat) : ¬ dch u k < 0 ∧ ¬ (255 : Int32) < dch u k := by
  have b : u / 10 ^ k % 10 < 10 := Nat.mod_lt _ (by decide)
  have h := dch_rng u k
  have e0 : (0 : Int32).toInt = 0 := rfl
  have e1 : (255 : Int32).toInt = 255 := rfl
  constructor <;> rw [Int32.lt_iff_toInt_lt] <;> omega
theorem dch_byte (u k : Nat) : nar .byte (dch u k) = dch u k := by
  have b : u / 10 ^ k % 10 < 10 := Nat.mod_lt _ (by decide)
  have q : ∀ n : Fin 10, nar .byte (Nat.toInt32 (48 + n.1)) = Nat.toInt32 (48 + n.1) := by decide
  exact q ⟨u / 10 ^ k % 10, b⟩
theorem own_lt0 {v : Int32} (h : v < 0) : v.toInt < 0 := by
  rw [Int32.lt_iff_toInt_lt] at h
  exact h
theorem own_ge0 {v : Int32} (h : ¬ v < 0) : ¬ v.toInt < 0 := by
  rw [Int32.lt_iff_toInt_lt] at h
  exact h
theorem pw_pos (k : Nat) : 0 < 10 ^ k := Nat.pow_pos (by decide)
set_option maxHeartbeats 8000000 in
theorem dl_gt {u k : Nat} (h : k = 0 ∨ 0 < u / 10 ^ k) (hk : k ≤ 9) : k < dl u := by
  have h' : k = 0 ∨ 10 ^ k ≤ u := h.imp id fun q => by
    have := (Nat.le_div_iff_mul_le (pw_pos k)).mp q
    omega
  have : k = 0 ∨ k = 1 ∨ k = 2 ∨ k = 3 ∨ k = 4 ∨ k = 5 ∨ k = 6 ∨ k = 7 ∨ k = 8 ∨ k = 9 := by omega
  clear h
  rcases this with rfl | rfl | rfl | rfl | rfl | rfl | rfl | rfl | rfl | rfl <;> simp at h' <;> unfold dl <;> (repeat' split) <;> omega
theorem dl_is {u k : Nat} (h : k = 0 ∨ 0 < u / 10 ^ k) (q : u / 10 ^ k < 10) (hk : k ≤ 9) : dl u = k + 1 := by
  have h' : k = 0 ∨ 10 ^ k ≤ u := h.imp id fun q => by
    have := (Nat.le_div_iff_mul_le (pw_pos k)).mp q
    omega
  have h2 : u < 10 ^ (k + 1) := by
    have := (Nat.div_lt_iff_lt_mul (pw_pos k)).mp q
    rw [Nat.pow_succ]
    omega
  exact dl_eq (d := k + 1) (h'.elim (fun e => Or.inl (by omega)) fun e => Or.inr (by simpa using e)) (Or.inr h2) (by omega) (by omega)
theorem Low.away {vs : List Value} {e u k i : Nat} {v : Value} (h : Low vs e u k) (q : ∀ j, j < k → e - 1 - j ≠ i) : Low (vs.set i v) e u k := by
  intro j hj
  rw [← h j hj]
  have := q j hj
  simp [List.getD_eq_getElem?_getD, List.getElem?_set, show ¬ (i = e - 1 - j) from fun z => this z.symm]
theorem Pfx.snoc {vs : List Value} {bs : List Int32} {v : Int32} (h : Pfx vs bs) (q : bs.length < vs.length) : Pfx (vs.set bs.length (.int v)) (bs ++ [v]) := by
  intro i hi
  rw [List.length_append, List.length_singleton] at hi
  by_cases c : i = bs.length
  · subst c
    simp [List.getD_eq_getElem?_getD, List.getElem?_set, q]
  · rw [Pfx.set h (Nat.le_refl _) i (by omega)]
    simp [List.getD_eq_getElem?_getD, List.getElem?_append_left (show i < bs.length by omega)]
theorem own_d2 (u k : Nat) : u / 10 ^ k / 100 = u / 10 ^ (k + 2) := by
  rw [Nat.div_div_eq_div_mul, Nat.pow_add]
theorem db_pos {v : Int32} (h : ¬ v.toInt < 0) : db v = dgs v.toInt.natAbs := by simp [db, h]
theorem db_neg {v : Int32} (h : v.toInt < 0) : db v = 45 :: dgs v.toInt.natAbs := by simp [db, h]
/-- the place of the next digit -/
theorem own_pos {j cap : Int32} {E k : Nat} (hj : j.toInt = ((E - 1 - k : Nat) : Int)) (hE : E ≤ cap.toNatClampNeg) (hk : k < E) (hc : cap = 16 ∨ cap = 34) : j < cap := by
  rw [Int32.lt_iff_toInt_lt, hj]
  have : cap.toInt = (cap.toNatClampNeg : Int) := by rcases hc with rfl | rfl <;> decide
  omega
theorem own_100 {r : Int32} {a : Nat} (h : r.toInt = ((a % 100 : Nat) : Int)) : r < (100 : Int32) := by
  have e : (100 : Int32).toInt = 100 := rfl
  rw [Int32.lt_iff_toInt_lt, h, e]
  omega
theorem own_decI {j : Int32} (h0 : 0 ≤ j.toInt) (h1 : j.toInt < 1000) : (j + (-1 : Int32)).toInt = j.toInt - 1 := by
  have e : (-1 : Int32).toInt = -1 := rfl
  rw [Int32.toInt_add, e, Int.bmod_eq_of_le] <;> omega
theorem own_lin {j : Int32} {E m : Nat} (h : j.toInt + (m + 1 : Nat) = (E : Int)) (q : m < E) : j.toInt = ((E - 1 - m : Nat) : Int) := by omega
theorem own_nxt {j : Int32} {E m : Nat} (h : j.toInt + (m : Nat) = (E : Int)) (q : m < E) (q2 : E ≤ 34) : (j + (-1 : Int32)).toInt + (m + 1 : Nat) = (E : Int) := by
  rw [own_decI (by omega) (by omega)]
  omega
theorem own_c28 {x : Int32} {w : Nat} (h : x.toInt = -(w : Int)) (q : ¬ (-100 : Int32) < x) : 100 ≤ w := by
  rw [Int32.lt_iff_toInt_lt] at q
  have e : (-100 : Int32).toInt = -100 := rfl
  omega
theorem own_c72 {x : Int32} {w : Nat} (h : x.toInt = -(w : Int)) (q : (-100 : Int32) < x) : w < 100 := by
  rw [Int32.lt_iff_toInt_lt] at q
  have e : (-100 : Int32).toInt = -100 := rfl
  omega
theorem own_c91 {x : Int32} {w : Nat} (h : x.toInt = -(w : Int)) (q : x < (-9 : Int32)) : 10 ≤ w := by
  rw [Int32.lt_iff_toInt_lt] at q
  have e : (-9 : Int32).toInt = -9 := rfl
  omega
theorem own_c90 {x : Int32} {w : Nat} (h : x.toInt = -(w : Int)) (q : ¬ x < (-9 : Int32)) : w < 10 := by
  rw [Int32.lt_iff_toInt_lt] at q
  have e : (-9 : Int32).toInt = -9 := rfl
  omega
theorem own_rnd {i x : Int32} {u k : Nat} (h : i.toInt = -((u / 10 ^ k : Nat) : Int)) (hx : x = i / 100) : x.toInt = -((u / 10 ^ (k + 2) : Nat) : Int) := by
  rw [hx, (own_gc h).1, own_d2]
theorem own_rem {i q r : Int32} {u k : Nat} (h : i.toInt = -((u / 10 ^ k : Nat) : Int)) (hq : q = i / 100) (hr : r = q * 100 - i) : r.toInt = ((u / 10 ^ k % 100 : Nat) : Int) := by
  rw [hr, hq, (own_gc h).2]
theorem own_ng2 {i : Int32} {w : Nat} (h : i.toInt = -(w : Int)) (q : w < 100) : (-i).toInt = ((w % 100 : Nat) : Int) := by
  rw [own_ng h (by omega), Nat.mod_eq_of_lt q]
theorem own_d1 (u k : Nat) : u / 10 ^ (k + 1) = u / 10 ^ k / 10 := by rw [Nat.pow_succ, Nat.div_div_eq_div_mul]
theorem own_p1 {u k : Nat} (h : 10 ≤ u / 10 ^ k) : 0 < u / 10 ^ (k + 1) := by rw [own_d1]; omega
theorem own_p2 {u k : Nat} (h : 100 ≤ u / 10 ^ k) : 0 < u / 10 ^ (k + 2) := by rw [← own_d2]; omega
theorem own_q1 {u k : Nat} (h : u / 10 ^ k < 100) : u / 10 ^ (k + 1) < 10 := by rw [own_d1]; omega
theorem own_no8 {u : Nat} (h : 100 ≤ u / 10 ^ 8) (q : u ≤ 2147483648) : False := by
  have := (Nat.le_div_iff_mul_le (pw_pos 8)).mp h
  simp at this
  omega
theorem own_hl {E m c n : Nat} (hk : m < E) (hE : E ≤ c) (hl : n = c) : E - 1 - m < n := by omega
theorem own_hk {b d E m : Nat} (h : b + d ≤ E) (q : m < d) : m < E := by omega
theorem own_sgk {E b d m : Nat} (h : E = b + 1 + d) (hd : d = m) : m < E := by omega
theorem own_sgl {E b d c n : Nat} (h : E = b + 1 + d) (hE : E ≤ c) (hl : n = c) : b < n := by omega
theorem own_sgi {j : Int32} {E b d m : Nat} (hj : j.toInt = ((E - 1 - m : Nat) : Int)) (h : E = b + 1 + d) (hd : d = m) : j.toNatClampNeg = b := by
  rw [natI hj]; omega
theorem own_sga {E b d m : Nat} (h : E = b + 1 + d) (hd : d = m) : ∀ j, j < m → E - 1 - j ≠ b := by
  intro j hj
  omega
theorem own_sgE {v : Int32} {b E u : Nat} (hE : E = b + (db v).length) (hu : u = v.toInt.natAbs) (h : v < 0) : E = b + 1 + dl u := by
  rw [hE, db_len, ← hu, if_pos (own_lt0 h)]; omega
theorem own_psE {v : Int32} {b E u : Nat} (hE : E = b + (db v).length) (hu : u = v.toInt.natAbs) (h : ¬ v < 0) : E = b + dl u := by
  rw [hE, db_len, ← hu, if_neg (own_ge0 h)]; omega
theorem own_finN {w : List Value} {bs : List Int32} {v : Int32} {E u m : Nat} (hp : Pfx w (bs ++ [45])) (hl : Low w E u m) (hE : E = bs.length + 1 + dl u) (hd : dl u = m) (hu : u = v.toInt.natAbs) (h : v < 0) : Pfx w (bs ++ db v) := by
  have e : (bs ++ [(45 : Int32)]).length + dl u = E := by simp; omega
  have q_ := Low.all (bs := bs ++ [45]) (u := u) hp (by rw [e, hd]; exact hl)
  rw [db_neg (own_lt0 h), ← hu]
  simpa using q_
theorem own_finP {w : List Value} {bs : List Int32} {v : Int32} {E u m : Nat} (hp : Pfx w bs) (hl : Low w E u m) (hE : E = bs.length + dl u) (hd : dl u = m) (hu : u = v.toInt.natAbs) (h : ¬ v < 0) : Pfx w (bs ++ db v) := by
  rw [db_pos (own_ge0 h), ← hu]
  exact Low.all hp (by rw [← hE, hd]; exact hl)
theorem own_u31 {v : Int32} {u : Nat} (hu : u = v.toInt.natAbs) : u ≤ 2147483648 := by
  have := v.le_toInt; have := v.toInt_lt; omega
theorem own_E5 {v : Int32} {b E u : Nat} (hE : E = b + (db v).length) (hu : u = v.toInt.natAbs) : b + dl u ≤ E := by
  rw [hE, db_len, ← hu]; omega
theorem own_x0N {v : Int32} {u : Nat} (hu : u = v.toInt.natAbs) (h : v < 0) : v.toInt = -((u / 10 ^ 0 : Nat) : Int) := by
  rw [Nat.pow_zero, Nat.div_one, hu]; exact own_negv h
theorem own_x0P {v x : Int32} {u : Nat} (hu : u = v.toInt.natAbs) (h : ¬ v < 0) (hx : x = -v) : x.toInt = -((u / 10 ^ 0 : Nat) : Int) := by
  rw [Nat.pow_zero, Nat.div_one, hu]; exact own_negx h hx
theorem own_sizN {v r pl ph : Int32} (d : Nat) (h : v < 0) (lo : d = 1 ∨ (¬ pl < v ∧ pl.toInt = -((10 ^ (d - 1) : Nat) : Int))) (hi : d = 10 ∨ (ph < v ∧ ph.toInt = -((10 ^ d : Nat) : Int))) (h1 : 1 ≤ d ∧ d ≤ 10) (hr : r.toInt = ((d + 1 : Nat) : Int)) : r.toInt = ((db v).length : Int) :=
  own_siz d (own_negv h) lo hi h1.1 h1.2 (by rw [hr, if_pos (own_lt0 h)]; simp)
theorem own_sizP {v x r pl ph : Int32} (d : Nat) (h : ¬ v < 0) (hx : x = -v) (lo : d = 1 ∨ (¬ pl < x ∧ pl.toInt = -((10 ^ (d - 1) : Nat) : Int))) (hi : d = 10 ∨ (ph < x ∧ ph.toInt = -((10 ^ d : Nat) : Int))) (h1 : 1 ≤ d ∧ d ≤ 10) (hr : r.toInt = ((d : Nat) : Int)) : r.toInt = ((db v).length : Int) :=
  own_siz d (own_negx h hx) lo hi h1.1 h1.2 (by rw [hr, if_neg (own_ge0 h)]; simp)
theorem own_pw1 : (-10 : Int32).toInt = -((10 ^ 1 : Nat) : Int) := by decide +kernel
theorem own_pw2 : (-100 : Int32).toInt = -((10 ^ 2 : Nat) : Int) := by decide +kernel
theorem own_pw3 : (-1000 : Int32).toInt = -((10 ^ 3 : Nat) : Int) := by decide +kernel
theorem own_pw4 : (-10000 : Int32).toInt = -((10 ^ 4 : Nat) : Int) := by decide +kernel
theorem own_pw5 : (-100000 : Int32).toInt = -((10 ^ 5 : Nat) : Int) := by decide +kernel
theorem own_pw6 : (-1000000 : Int32).toInt = -((10 ^ 6 : Nat) : Int) := by decide +kernel
theorem own_pw7 : (-10000000 : Int32).toInt = -((10 ^ 7 : Nat) : Int) := by decide +kernel
theorem own_pw8 : (-100000000 : Int32).toInt = -((10 ^ 8 : Nat) : Int) := by decide +kernel
theorem own_pw9 : (-1000000000 : Int32).toInt = -((10 ^ 9 : Nat) : Int) := by decide +kernel
theorem own_sgY {v sg : Int32} (h : (v < 0 ∧ ¬ sg = 0) ∨ (¬ v < 0 ∧ sg = 0)) (q : ¬ sg = 0) : v < 0 := h.elim (fun a => a.1) fun a => absurd a.2 q
theorem own_sgN {v sg : Int32} (h : (v < 0 ∧ ¬ sg = 0) ∨ (¬ v < 0 ∧ sg = 0)) (q : sg = 0) : ¬ v < 0 := h.elim (fun a => absurd q a.2) fun a => a.1
theorem own_ge {a d E m : Nat} (h : a + d ≤ E) (q : m < d) : a ≤ E - 1 - m := by omega
theorem db_le (v : Int32) : (db v).length ≤ 11 := by
  rw [db_len]
  have : dl v.toInt.natAbs ≤ 10 := by unfold dl; (repeat' split) <;> omega
  split <;> omega
theorem capN {cap : Int32} (h : cap = 16 ∨ cap = 34) : cap.toInt = (cap.toNatClampNeg : Int) ∧ cap.toNatClampNeg ≤ 34 := by rcases h with rfl | rfl <;> decide
theorem subI {x y : Int32} {a b : Int} (hx : x.toInt = a) (hy : y.toInt = b) (q : -1000 < a ∧ a < 1000 ∧ -1000 < b ∧ b < 1000) : (x - y).toInt = a - b := by
  rw [Int32.toInt_sub, hx, hy, Int.bmod_eq_of_le] <;> omega
theorem own_sum {vs : List Value} {cnt cap nn : Int32} {bs : List Int32} {l : Nat} (B : Buf vs cnt cap bs) (hn : nn.toInt = l) (hl : l ≤ 40) : (cnt + nn).toInt = ((bs.length + l : Nat) : Int) := by
  obtain ⟨b1, b2, b3, b4, b5⟩ := B
  have := (capN b4).2
  exact addI b1 hn (by omega)
theorem own_noG {vs : List Value} {cnt cap nn : Int32} {bs : List Int32} {l : Nat} (B : Buf vs cnt cap bs) (hn : nn.toInt = l) (hl : l ≤ 40) (q : bs.length + l ≤ cap.toNatClampNeg) : ¬ (0 : Int32) < ((cnt + nn) - cap) := by
  have s := own_sum B hn hl
  obtain ⟨c1, c2⟩ := capN B.2.2.2.1
  have := B.2.2.1
  rw [Int32.lt_iff_toInt_lt, subI s c1 (by omega)]
  have e0 : (0 : Int32).toInt = 0 := rfl
  omega
theorem own_G {vs : List Value} {cnt nn : Int32} {bs : List Int32} {l : Nat} (B : Buf vs cnt 16 bs) (hn : nn.toInt = l) (hl : l ≤ 40) (q : 16 < bs.length + l) (q2 : bs.length + l ≤ 34) : (0 : Int32) < ((cnt + nn) - (16 : Int32)) ∧ ¬ (18 : Int32) < ((cnt + nn) - (16 : Int32)) := by
  have s := own_sum B hn hl
  have e16 : (16 : Int32).toInt = 16 := rfl
  have e18 : (18 : Int32).toInt = 18 := rfl
  have e0 : (0 : Int32).toInt = 0 := rfl
  have := B.2.2.1
  have e : (16 : Int32).toNatClampNeg = 16 := rfl
  constructor <;> rw [Int32.lt_iff_toInt_lt, subI s e16 (by omega)] <;> omega
theorem own_nn {x : Int32} {n : Nat} (h : x.toInt = n) : ¬ x < 0 := by
  rw [Int32.lt_iff_toInt_lt]
  have e0 : (0 : Int32).toInt = 0 := rfl
  omega
theorem own_cap {vs : List Value} {cnt cap nn : Int32} {bs : List Int32} {l : Nat} (B : Buf vs cnt cap bs) (hn : nn.toInt = l) (q : bs.length + l ≤ cap.toNatClampNeg) : cnt.toNatClampNeg + nn.toNatClampNeg ≤ cap.toNatClampNeg := by rw [natI B.1, natI hn]; exact q
theorem own_18 {g : Int32} (h : ¬ (18 : Int32) < g) (q : ¬ g < (18 : Int32)) : g = 18 := by
  apply Int32.toInt_inj.mp
  rw [Int32.lt_iff_toInt_lt] at h q
  omega
/-- append(int) -/
theorem own_noGi {vs : List Value} {cnt cap nn i v : Int32} {bs : List Int32} (B : Buf vs cnt cap bs) (hn : nn.toInt = ((db v).length : Int)) (hi : i = cnt + nn) (q : bs.length + (db v).length ≤ cap.toNatClampNeg) : ¬ (0 : Int32) < (i - cap) := by
  rw [hi]; exact own_noG B hn (Nat.le_trans (db_le v) (by decide)) q
theorem own_Gi {vs : List Value} {cnt nn i v : Int32} {bs : List Int32} (B : Buf vs cnt 16 bs) (hn : nn.toInt = ((db v).length : Int)) (hi : i = cnt + nn) (q : 16 < bs.length + (db v).length) (q2 : bs.length + (db v).length ≤ 34) : (0 : Int32) < (i - (16 : Int32)) ∧ ¬ (18 : Int32) < (i - (16 : Int32)) := by
  rw [hi]; exact own_G B hn (Nat.le_trans (db_le v) (by decide)) q q2
theorem own_sumi {vs : List Value} {cnt cap nn i v : Int32} {bs : List Int32} (B : Buf vs cnt cap bs) (hn : nn.toInt = ((db v).length : Int)) (hi : i = cnt + nn) : i.toInt = ((bs.length + (db v).length : Nat) : Int) := by
  rw [hi]; exact own_sum B hn (Nat.le_trans (db_le v) (by decide))
theorem Buf.int {vw : List Value} {i cap v : Int32} {bs : List Int32} (he : i.toInt = ((bs.length + (db v).length : Nat) : Int)) (hl : vw.length = cap.toNatClampNeg) (hf : bs.length + (db v).length ≤ cap.toNatClampNeg) (hc : cap = 16 ∨ cap = 34) (hp : Pfx vw (bs ++ db v)) : Buf vw i cap (bs ++ db v) :=
  ⟨by rw [List.length_append]; exact he, hl, by rw [List.length_append]; exact hf, hc, hp⟩
/-- toString -/
theorem own_sub0 (x : Int32) : x - (0 : Int32) = x := by simp
theorem Buf.len {vs : List Value} {cnt cap : Int32} {bs : List Int32} (B : Buf vs cnt cap bs) : bs.length ≤ 34 := Nat.le_trans B.2.2.1 (capN B.2.2.2.1).2
theorem Buf.c34 {vs : List Value} {cnt cap : Int32} {bs : List Int32} (B : Buf vs cnt cap bs) : cnt.toNatClampNeg ≤ 34 := by rw [natI B.1]; exact B.len
theorem Buf.lt {vs : List Value} {cnt cap : Int32} {bs : List Int32} (B : Buf vs cnt cap bs) (h : ¬ cnt = cap) : cnt < cap := by
  obtain ⟨b1, b2, b3, b4, b5⟩ := B
  have c := (capN b4).1
  rw [Int32.lt_iff_toInt_lt]
  have : cnt.toInt ≠ cap.toInt := fun q => h (Int32.toInt_inj.mp q)
  omega
theorem Buf.le {vs : List Value} {cnt cap : Int32} {bs : List Int32} (B : Buf vs cnt cap bs) : (0 : Int32).toNatClampNeg + cnt.toNatClampNeg ≤ cap.toNatClampNeg := by
  rw [natI B.1]
  have e : (0 : Int32).toNatClampNeg = 0 := rfl
  rw [e, Nat.zero_add]; exact B.2.2.1
theorem Buf.same {vs : List Value} {cnt cap : Int32} {bs : List Int32} (B : Buf vs cnt cap bs) : Str vs cnt bs := ⟨B.1, Nat.le_trans B.len (by decide), B.2.2.2.2⟩
theorem Buf.str {vs : List Value} {cnt cap : Int32} {bs : List Int32} (B : Buf vs cnt cap bs) : Str (cpF vs (.int (0 : Int32)) (0 : Int32).toNatClampNeg [] (.int (0 : Int32)) (0 : Int32).toNatClampNeg cnt.toNatClampNeg cnt.toNatClampNeg) cnt bs := by
  refine ⟨B.1, Nat.le_trans B.len (by decide), fun i hi => ?_⟩
  have e : (0 : Int32).toNatClampNeg = 0 := rfl
  have n := natI B.1
  rw [e, cpF_at (by omega), if_pos (by omega), Nat.zero_add, Nat.sub_zero]
  exact B.2.2.2.2 i hi
/-- bytes of chars -/
def b8 (c : Int32) : Int32 := c.toInt8.toInt32
def sb4 (c0 c1 c2 c3 : Int32) (n : Nat) : List Int32 := [b8 c0, b8 c1, b8 c2, b8 c3].take n
theorem sb4_len {c0 c1 c2 c3 : Int32} {n : Nat} (h : n ≤ 4) : (sb4 c0 c1 c2 c3 n).length = n := by simp [sb4]; omega
theorem sb4_le (c0 c1 c2 c3 : Int32) (n : Nat) : (sb4 c0 c1 c2 c3 n).length ≤ 4 := by simp [sb4]; omega
theorem Pfx.map (bs : List Int32) : Pfx (bs.map Value.int) bs := fun i hi => by simp [List.getD_eq_getElem?_getD, hi]
theorem Str.map {n : Int32} {bs : List Int32} (h : n.toInt = bs.length) (q : bs.length ≤ 40) : Str (bs.map Value.int) n bs := ⟨h, q, Pfx.map bs⟩
theorem str_0 {c0 c1 c2 c3 n : Int32} (h : n = 0) : Str [] (0 : Int32) (sb4 c0 c1 c2 c3 n.toNatClampNeg) := by
  subst h; exact Str.map (bs := []) rfl (by decide)
theorem str_1 {c0 c1 c2 c3 n : Int32} (h : n = 1) : Str [(.int c0.toInt8.toInt32)] n (sb4 c0 c1 c2 c3 n.toNatClampNeg) := by
  subst h; exact Str.map (bs := [b8 c0]) rfl (by simp)
theorem str_2 {c0 c1 c2 c3 n : Int32} (h : n = 2) : Str [(.int c0.toInt8.toInt32), (.int c1.toInt8.toInt32)] n (sb4 c0 c1 c2 c3 n.toNatClampNeg) := by
  subst h; exact Str.map (bs := [b8 c0, b8 c1]) rfl (by simp)
theorem str_3 {c0 c1 c2 c3 n : Int32} (h : n = 3) : Str [(.int c0.toInt8.toInt32), (.int c1.toInt8.toInt32), (.int c2.toInt8.toInt32)] n (sb4 c0 c1 c2 c3 n.toNatClampNeg) := by
  subst h; exact Str.map (bs := [b8 c0, b8 c1, b8 c2]) rfl (by simp)
theorem str_4 {c0 c1 c2 c3 n : Int32} (h : n = 4) : Str [(.int c0.toInt8.toInt32), (.int c1.toInt8.toInt32), (.int c2.toInt8.toInt32), (.int c3.toInt8.toInt32)] n (sb4 c0 c1 c2 c3 n.toNatClampNeg) := by
  subst h; exact Str.map (bs := [b8 c0, b8 c1, b8 c2, b8 c3]) rfl (by simp)
/-- five lengths -/
def L5 (n : Int32) : Prop := n = 0 ∨ n = 1 ∨ n = 2 ∨ n = 3 ∨ n = 4
theorem L5.four {n : Int32} (h : L5 n) (h0 : ¬ n = 0) (h1 : ¬ n = 1) (h2 : ¬ n = 2) (h3 : ¬ n = 3) : n = 4 := by
  rcases h with h | h | h | h | h
  · exact absurd h h0
  · exact absurd h h1
  · exact absurd h h2
  · exact absurd h h3
  · exact h
theorem L5.nat {n : Int32} (h : L5 n) : n.toInt = (n.toNatClampNeg : Int) ∧ n.toNatClampNeg ≤ 4 := by
  rcases h with rfl | rfl | rfl | rfl | rfl <;> decide
theorem and7 (x : Int64) : 0 ≤ (x &&& 7).toInt ∧ (x &&& 7).toInt ≤ 7 := by
  have q : (x &&& 7).toBitVec.toNat ≤ 7 := by
    rw [Int64.toBitVec_and, BitVec.toNat_and]; exact Nat.and_le_right
  have e : (x &&& 7).toInt = ((x &&& 7).toBitVec.toNat : Int) := by
    show (x &&& 7).toBitVec.toInt = _
    rw [BitVec.toInt_eq_toNat_cond, if_pos (by omega)]
  omega
theorem own_bm {n : Nat} (h : n < 2 ^ 40) : ((n : Nat) : Int).bmod (2 ^ 64) = (n : Int) := by
  rw [Int.bmod_eq_of_le] <;> omega
theorem own_rem10 {t : Int64} {c : Int64} {n m : Nat} (h : t.toInt = (n : Int)) (hc : c.toInt = (m : Int)) (h1 : 0 < m) (hn : n < 2 ^ 40) (hm : m < 2 ^ 40) : (t - (t / c) * c).toInt = ((n % m : Nat) : Int) := by
  have d : (t / c).toInt = ((n / m : Nat) : Int) := by
    rw [Int64.toInt_div, h, hc, Int.tdiv_eq_ediv_of_nonneg (by omega)]
    have : ((n : Int) / (m : Int)) = ((n / m : Nat) : Int) := by simp
    have l : n / m ≤ n := Nat.div_le_self _ _
    rw [this]
    exact own_bm (Nat.lt_of_le_of_lt l hn)
  have e : n / m * m + n % m = n := by rw [Nat.mul_comm]; exact Nat.div_add_mod n m
  have p : ((t / c) * c).toInt = ((n / m * m : Nat) : Int) := by
    rw [Int64.toInt_mul, d, hc]
    have : (((n / m : Nat) : Int) * (m : Int)) = ((n / m * m : Nat) : Int) := by simp
    rw [this]
    exact own_bm (by omega)
  rw [Int64.toInt_sub, h, p, Int.bmod_eq_of_le] <;> omega
theorem own_fl {x : Int64} {n : Int32} (h : n = ((x &&& (7 : Int64)) - ((x &&& (7 : Int64)) / (5 : Int64)) * (5 : Int64)).toInt32) : L5 n := by
  obtain ⟨a, b⟩ := and7 x
  obtain ⟨w, hw⟩ : ∃ w : Nat, (x &&& (7 : Int64)).toInt = (w : Int) := ⟨(x &&& (7 : Int64)).toInt.toNat, by omega⟩
  have r := own_rem10 (c := 5) (m := 5) hw rfl (by decide) (by omega) (by decide)
  have q : n.toInt = ((w % 5 : Nat) : Int) := by
    rw [h, Int64.toInt_toInt32, r, Int.bmod_eq_of_le] <;> omega
  have k : w % 5 = 0 ∨ w % 5 = 1 ∨ w % 5 = 2 ∨ w % 5 = 3 ∨ w % 5 = 4 := by omega
  unfold L5
  rcases k with k | k | k | k | k <;> rw [k] at q
  · exact Or.inl (Int32.toInt_inj.mp q)
  · exact Or.inr (Or.inl (Int32.toInt_inj.mp q))
  · exact Or.inr (Or.inr (Or.inl (Int32.toInt_inj.mp q)))
  · exact Or.inr (Or.inr (Or.inr (Or.inl (Int32.toInt_inj.mp q))))
  · exact Or.inr (Or.inr (Or.inr (Or.inr (Int32.toInt_inj.mp q))))
theorem lat255J {v : Int32} {x : Int64} (h : v = ((x &&& (255 : Int64)).toInt32).toUInt32.toUInt16.toUInt32.toInt32) : Lat v := by
  have q : (x &&& 255).toBitVec.toNat ≤ 255 := by
    rw [Int64.toBitVec_and, BitVec.toNat_and]; exact Nat.and_le_right
  have e : (x &&& 255).toInt = ((x &&& 255).toBitVec.toNat : Int) := by
    show (x &&& 255).toBitVec.toInt = _
    rw [BitVec.toInt_eq_toNat_cond, if_pos (by omega)]
  have f : ((x &&& 255).toInt32).toInt = ((x &&& 255).toBitVec.toNat : Int) := by
    rw [Int64.toInt_toInt32, e, Int.bmod_eq_of_le] <;> omega
  rw [i2c_id (Chr.of (by omega))] at h
  exact Lat.of (by rw [h]; omega)
/-- the text -/
def txt (fb : List Int32) (a b : Int32) (mb : List Int32) : List Int32 := (((((([] ++ fb) ++ [58]) ++ db a) ++ [58]) ++ db b) ++ [58, 32]) ++ mb
theorem gl {a b : List Int32} {k : Nat} (h : k < a.length) : (a ++ b).getD k 0 = a.getD k 0 := by simp [List.getD_eq_getElem?_getD, List.getElem?_append_left h]
theorem gr {a b : List Int32} {k j n : Nat} (h : a.length = n) (e : k = n + j) : (a ++ b).getD k 0 = b.getD j 0 := by
  subst h; subst e
  rw [List.getD_eq_getElem?_getD, List.getElem?_append_right (by omega)]
  simp [List.getD_eq_getElem?_getD]
section
variable {fb mb : List Int32} {a b : Int32} {k : Nat}
theorem ln1 : (([] : List Int32) ++ fb).length = 0 + fb.length := by simp
theorem ln2 : ((([] : List Int32) ++ fb) ++ [58]).length = 0 + fb.length + 1 := by simp
theorem ln3 : (((([] : List Int32) ++ fb) ++ [58]) ++ db a).length = 0 + fb.length + 1 + (db a).length := by simp; omega
theorem ln4 : ((((([] : List Int32) ++ fb) ++ [58]) ++ db a) ++ [58]).length = 0 + fb.length + 1 + (db a).length + 1 := by simp; omega
theorem ln5 : (((((([] : List Int32) ++ fb) ++ [58]) ++ db a) ++ [58]) ++ db b).length = 0 + fb.length + 1 + (db a).length + 1 + (db b).length := by simp; omega
theorem ln6 : ((((((([] : List Int32) ++ fb) ++ [58]) ++ db a) ++ [58]) ++ db b) ++ [58, 32]).length = 0 + fb.length + 1 + (db a).length + 1 + (db b).length + 2 := by simp; omega
theorem txt_len : (txt fb a b mb).length = 0 + fb.length + 1 + (db a).length + 1 + (db b).length + 2 + mb.length := by
  unfold txt; rw [List.length_append, ln6]
theorem tx1 (h : k < fb.length) : (txt fb a b mb).getD k 0 = fb.getD k 0 := by
  unfold txt
  rw [gl (by rw [ln6]; omega), gl (by rw [ln5]; omega), gl (by rw [ln4]; omega), gl (by rw [ln3]; omega), gl (by rw [ln2]; omega), gl (by rw [ln1]; omega), gr (j := k) rfl (by simp)]
theorem tx2 (h : k = 0 + fb.length) : (txt fb a b mb).getD k 0 = 58 := by
  unfold txt
  rw [gl (by rw [ln6]; omega), gl (by rw [ln5]; omega), gl (by rw [ln4]; omega), gl (by rw [ln3]; omega), gl (by rw [ln2]; omega), gr (j := 0) ln1 (by omega)]
  rfl
theorem tx3 {j : Nat} (h : k = 0 + fb.length + 1 + j) (q : j < (db a).length) : (txt fb a b mb).getD k 0 = (db a).getD j 0 := by
  unfold txt
  rw [gl (by rw [ln6]; omega), gl (by rw [ln5]; omega), gl (by rw [ln4]; omega), gl (by rw [ln3]; omega), gr (j := j) ln2 h]
theorem tx4 (h : k = 0 + fb.length + 1 + (db a).length) : (txt fb a b mb).getD k 0 = 58 := by
  unfold txt
  rw [gl (by rw [ln6]; omega), gl (by rw [ln5]; omega), gl (by rw [ln4]; omega), gr (j := 0) ln3 (by omega)]
  rfl
theorem tx5 {j : Nat} (h : k = 0 + fb.length + 1 + (db a).length + 1 + j) (q : j < (db b).length) : (txt fb a b mb).getD k 0 = (db b).getD j 0 := by
  unfold txt
  rw [gl (by rw [ln6]; omega), gl (by rw [ln5]; omega), gr (j := j) ln4 h]
theorem tx6 (h : k = 0 + fb.length + 1 + (db a).length + 1 + (db b).length) : (txt fb a b mb).getD k 0 = 58 := by
  unfold txt
  rw [gl (by rw [ln6]; omega), gr (j := 0) ln5 (by omega)]
  rfl
theorem tx7 (h : k = 0 + fb.length + 1 + (db a).length + 1 + (db b).length + 1) : (txt fb a b mb).getD k 0 = 32 := by
  unfold txt
  rw [gl (by rw [ln6]; omega), gr (j := 1) ln5 (by omega)]
  rfl
theorem tx8 {j : Nat} (h : k = 0 + fb.length + 1 + (db a).length + 1 + (db b).length + 2 + j) : (txt fb a b mb).getD k 0 = mb.getD j 0 := by
  unfold txt
  rw [gr (j := j) ln6 h]
end
/-- places left of p: x and what was taken off make p -/
def At (x : Int32) (o k : Nat) : Prop := x.toInt + (o : Int) = (k : Int) ∧ 0 ≤ x.toInt ∧ k < 1000
theorem At.sub {x y z : Int32} {o n k : Nat} (s : At x o k) (hy : y.toInt = (n : Int)) (h : ¬ x < y) (hz : z = x - y) : At z (o + n) k := by
  obtain ⟨s1, s2, s3⟩ := s
  rw [Int32.lt_iff_toInt_lt] at h
  have q := subI (x := x) (y := y) rfl hy (by omega)
  rw [hz]
  exact ⟨by rw [q]; omega, by rw [q]; omega, s3⟩
theorem At.n1 {x : Int32} {o k : Nat} (s : At x o k) (h : ¬ x = 0) : ¬ x < (1 : Int32) := by
  rw [Int32.lt_iff_toInt_lt]
  have e1 : (1 : Int32).toInt = 1 := rfl
  have e0 : (0 : Int32).toInt = 0 := rfl
  have : x.toInt ≠ (0 : Int32).toInt := fun q => h (Int32.toInt_inj.mp q)
  have := s.2.1
  omega
theorem At.n2 {x : Int32} {o k : Nat} (s : At x o k) (h : ¬ x = 0) (h' : ¬ x = 1) : ¬ x < (2 : Int32) := by
  rw [Int32.lt_iff_toInt_lt]
  have e2 : (2 : Int32).toInt = 2 := rfl
  have e1 : (1 : Int32).toInt = 1 := rfl
  have e0 : (0 : Int32).toInt = 0 := rfl
  have : x.toInt ≠ (0 : Int32).toInt := fun q => h (Int32.toInt_inj.mp q)
  have : x.toInt ≠ (1 : Int32).toInt := fun q => h' (Int32.toInt_inj.mp q)
  have := s.2.1
  omega
theorem At.zero {x : Int32} {o k : Nat} (s : At x o k) (h : x = 0) : k = o := by
  have e0 : (0 : Int32).toInt = 0 := rfl
  obtain ⟨s1, s2, s3⟩ := s
  rw [h] at s1
  omega
theorem At.one {x : Int32} {o k : Nat} (s : At x o k) (h : x = 1) : k = o + 1 := by
  have e0 : (1 : Int32).toInt = 1 := rfl
  obtain ⟨s1, s2, s3⟩ := s
  rw [h] at s1
  omega
theorem At.nat {x : Int32} {o k : Nat} (s : At x o k) : k = o + x.toNatClampNeg := by
  obtain ⟨s1, s2, s3⟩ := s
  have : x.toInt = ((x.toInt.toNat : Nat) : Int) := by omega
  have := natI this
  omega
theorem At.ofN {x : Int32} {k : Nat} (h : x.toInt = (k : Int)) (q : k < 1000) : At x 0 k := ⟨by omega, by omega, q⟩
theorem At.lt {x y : Int32} {o n k : Nat} (s : At x o k) (hy : y.toInt = (n : Int)) (h : x < y) : x.toNatClampNeg < n := by
  obtain ⟨s1, s2, s3⟩ := s
  rw [Int32.lt_iff_toInt_lt] at h
  have : x.toInt = ((x.toInt.toNat : Nat) : Int) := by omega
  have := natI this
  omega
theorem own_ix {x : Int32} {n : Nat} (h : 0 ≤ x.toInt) (q : x.toNatClampNeg < n) : x.toInt < (n : Int) := by
  have : x.toInt = ((x.toInt.toNat : Nat) : Int) := by omega
  have := natI this
  omega
theorem own_4 {x : Int32} (h : 0 ≤ x.toInt) (q : x.toNatClampNeg < 4) : x < (4 : Int32) := by
  have := own_ix h q
  rw [Int32.lt_iff_toInt_lt]
  have e : (4 : Int32).toInt = 4 := rfl
  omega
theorem own_n0 {x : Int32} (h : 0 ≤ x.toInt) : ¬ x < 0 := by
  rw [Int32.lt_iff_toInt_lt]
  have e : (0 : Int32).toInt = 0 := rfl
  omega
/-- a char of four -/
theorem own_ch4 {c0 c1 c2 c3 : Int32} {k n : Nat} (h : k < n) (hn : n ≤ 4) (l0 : Lat c0) (l1 : Lat c1) (l2 : Lat c2) (l3 : Lat c3) : ∃ c, [(Value.int c0), (.int c1), (.int c2), (.int c3)].getD k (.int (0 : Int32)) = .int c ∧ Lat c ∧ (sb4 c0 c1 c2 c3 n).getD k 0 = b8 c := by
  have t : (sb4 c0 c1 c2 c3 n).getD k 0 = [b8 c0, b8 c1, b8 c2, b8 c3].getD k 0 := by
    simp [sb4, List.getD_eq_getElem?_getD, List.getElem?_take, h]
  rw [t]
  have : k = 0 ∨ k = 1 ∨ k = 2 ∨ k = 3 := by omega
  rcases this with rfl | rfl | rfl | rfl
  · exact ⟨c0, rfl, l0, rfl⟩
  · exact ⟨c1, rfl, l1, rfl⟩
  · exact ⟨c2, rfl, l2, rfl⟩
  · exact ⟨c3, rfl, l3, rfl⟩
/-- every byte is a Latin-1 char's -/
def LatB (bs : List Int32) : Prop := ∀ b ∈ bs, ∃ c, Lat c ∧ b = b8 c
theorem LatB.app {a b : List Int32} (h : LatB a) (q : LatB b) : LatB (a ++ b) := fun x hx => (List.mem_append.mp hx).elim (h x) (q x)
theorem LatB.nil : LatB [] := fun _ q => nomatch q
theorem LatB.cons {c : Int32} {a : List Int32} (h : Lat c) (q : LatB a) : LatB (b8 c :: a) := fun x hx => (List.mem_cons.mp hx).elim (fun e => ⟨c, h, e⟩) (q x)
theorem LatB.at {bs : List Int32} {k : Nat} (h : LatB bs) (q : k < bs.length) : ∃ c, Lat c ∧ bs.getD k 0 = b8 c := by
  refine h _ ?_
  simp [List.getD_eq_getElem?_getD, q]
theorem LatB.take {bs : List Int32} (h : LatB bs) (n : Nat) : LatB (bs.take n) := fun x hx => h x (List.mem_of_mem_take hx)
theorem latB_sb4 {c0 c1 c2 c3 : Int32} (l0 : Lat c0) (l1 : Lat c1) (l2 : Lat c2) (l3 : Lat c3) (n : Nat) : LatB (sb4 c0 c1 c2 c3 n) := (LatB.cons l0 (LatB.cons l1 (LatB.cons l2 (LatB.cons l3 LatB.nil)))).take n
theorem dch_b8 (u k : Nat) : dch u k = b8 (dch u k) := (dch_byte u k).symm
theorem latB_dgs (u : Nat) : LatB (dgs u) := fun x hx => by
  obtain ⟨j, -, rfl⟩ := List.mem_map.mp hx
  exact ⟨dch u (dl u - 1 - j), dch_lat _ _, dch_b8 _ _⟩
theorem latB_db (v : Int32) : LatB (db v) := by
  unfold db
  refine LatB.app ?_ (latB_dgs _)
  split
  · exact LatB.cons (c := 45) (show Lat 45 from ⟨by decide, by decide⟩) LatB.nil
  · exact LatB.nil
theorem latB_txt {fb mb : List Int32} (a b : Int32) (hf : LatB fb) (hm : LatB mb) : LatB (txt fb a b mb) := by
  have k : LatB [58] := LatB.cons (c := 58) (show Lat 58 from ⟨by decide, by decide⟩) LatB.nil
  have k2 : LatB [58, 32] := LatB.cons (c := 58) (show Lat 58 from ⟨by decide, by decide⟩) (LatB.cons (c := 32) (show Lat 32 from ⟨by decide, by decide⟩) LatB.nil)
  exact ((((((LatB.nil.app hf).app k).app (latB_db a)).app k).app (latB_db b)).app k2).app hm
theorem b8_inj {a b : Int32} (ha : Lat a) (hb : Lat b) (h : b8 a = b8 b) : a = b := by
  have p := own_latb ha rfl
  have q := own_latb hb rfl
  rw [p, q]
  unfold b8 at h
  rw [h]
/-- the digits of a long -/
theorem own_lo {u c : Int64} {n m : Nat} (hu : u.toInt = (n : Int)) (hc : c.toInt = (m : Int)) (h : ¬ (lcmpW u c) < (0 : Int32)) : m ≤ n := by
  rw [lw_lt, Int64.lt_iff_toInt_lt] at h
  omega
theorem own_hi {u c : Int64} {n m : Nat} (hu : u.toInt = (n : Int)) (hc : c.toInt = (m : Int)) (h : (lcmpW u c) < (0 : Int32)) : n < m := by
  rw [lw_lt, Int64.lt_iff_toInt_lt] at h
  omega
theorem own_dig {r : Int32} {n : Nat} (d : Nat) (lo : d = 1 ∨ 10 ^ (d - 1) ≤ n) (hi : d = 10 ∨ n < 10 ^ d) (h1 : 1 ≤ d ∧ d ≤ 10) (hr : r.toInt = (d : Int)) : r.toInt = ((dl n : Nat) : Int) := by
  rw [dl_eq lo hi h1.1 h1.2]; exact hr
theorem own_absN {v : Int32} {u : Int64} (h : v < 0) (hu : u = -v.toInt64) : u.toInt = ((v.toInt.natAbs : Nat) : Int) := by
  have := own_lt0 h
  have := v.le_toInt
  rw [hu, Int64.toInt_neg, Int32.toInt_toInt64, Int.bmod_eq_of_le] <;> omega
theorem own_absP {v : Int32} {u : Int64} (h : ¬ v < 0) (hu : u = v.toInt64) : u.toInt = ((v.toInt.natAbs : Nat) : Int) := by
  have := own_ge0 h
  rw [hu, Int32.toInt_toInt64]; omega
theorem own_dlN {v r : Int32} (h : v < 0) (hr : r.toInt = ((dl v.toInt.natAbs : Nat) : Int)) : (r + (1 : Int32)).toInt = ((db v).length : Int) := by
  have : dl v.toInt.natAbs ≤ 10 := by unfold dl; (repeat' split) <;> omega
  rw [db_len, if_pos (own_lt0 h)]
  exact addI hr (b := 1) rfl (by omega)
theorem own_dlP {v r : Int32} (h : ¬ v < 0) (hr : r.toInt = ((dl v.toInt.natAbs : Nat) : Int)) : r.toInt = ((db v).length : Int) := by
  rw [db_len, if_neg (own_ge0 h)]; exact hr
theorem dl_10 (u : Nat) : 1 ≤ dl u ∧ dl u ≤ 10 := by unfold dl; (repeat' split) <;> omega
/-- a digit of a number -/
theorem dgs_at {u j : Nat} (h : j < dl u) : (dgs u).getD j 0 = dch u (dl u - 1 - j) := by
  simp [dgs, List.getD_eq_getElem?_getD, h]
theorem db_atP {v : Int32} {j : Nat} (h : ¬ v < 0) (q : j < (db v).length) : j < dl v.toInt.natAbs ∧ (db v).getD j 0 = dch v.toInt.natAbs (dl v.toInt.natAbs - 1 - j) := by
  rw [db_len, if_neg (own_ge0 h)] at q
  exact ⟨q, by rw [db_pos (own_ge0 h)]; exact dgs_at q⟩
theorem db_atN {v : Int32} {j : Nat} (h : v < 0) (q : j + 1 < (db v).length) : j < dl v.toInt.natAbs ∧ (db v).getD (j + 1) 0 = dch v.toInt.natAbs (dl v.toInt.natAbs - 1 - j) := by
  rw [db_len, if_pos (own_lt0 h)] at q
  have q' : j < dl v.toInt.natAbs := by omega
  refine ⟨q', ?_⟩
  rw [db_neg (own_lt0 h)]
  exact dgs_at q'
theorem db_at0 {v : Int32} (h : v < 0) : (db v).getD 0 0 = 45 := by rw [db_neg (own_lt0 h)]; rfl
/-- the powers -/
def p10 (e : Nat) : Int64 := [1, 10, 100, 1000, 10000, 100000, 1000000, 10000000, 100000000, 1000000000].getD e 1
def pws : List Value := [(.long (1 : Int64)), (.long (10 : Int64)), (.long (100 : Int64)), (.long (1000 : Int64)), (.long (10000 : Int64)), (.long (100000 : Int64)), (.long (1000000 : Int64)), (.long (10000000 : Int64)), (.long (100000000 : Int64)), (.long (1000000000 : Int64))]
theorem p10_toInt {e : Nat} (h : e ≤ 9) : (p10 e).toInt = ((10 ^ e : Nat) : Int) := by
  have q : ∀ e : Fin 10, (p10 e.1).toInt = ((10 ^ e.1 : Nat) : Int) := by decide +kernel
  exact q ⟨e, by omega⟩
theorem p10_ne (e : Nat) : ¬ (p10 e = (0 : Int64)) := by
  by_cases h : e ≤ 9
  · intro q
    have := p10_toInt h
    rw [q] at this
    have e0 : (0 : Int64).toInt = 0 := rfl
    have := pw_pos e
    omega
  · unfold p10
    rw [List.getD_eq_getElem?_getD, List.getElem?_eq_none (by simp; omega)]
    decide
theorem pws_at {i : Int32} {e : Nat} (h : i.toInt = (e : Int)) (q : e ≤ 9) : pws.getD i.toNatClampNeg (.long (0 : Int64)) = .long (p10 e) := by
  rw [natI h]
  have : e = 0 ∨ e = 1 ∨ e = 2 ∨ e = 3 ∨ e = 4 ∨ e = 5 ∨ e = 6 ∨ e = 7 ∨ e = 8 ∨ e = 9 := by omega
  rcases this with rfl | rfl | rfl | rfl | rfl | rfl | rfl | rfl | rfl | rfl <;> rfl
theorem own_10 {i : Int32} {e : Nat} (h : i.toInt = (e : Int)) (q : e ≤ 9) : i < (10 : Int32) := by
  rw [Int32.lt_iff_toInt_lt, h]
  have e : (10 : Int32).toInt = 10 := rfl
  omega
/-- the exponent's place -/
theorem own_exp {r j : Int32} {d n : Nat} (hr : r.toInt = (d : Int)) (hj : j.toInt = (n : Int)) (h : n < d) (q : d ≤ 10) : ((r - (1 : Int32)) - j).toInt = ((d - 1 - n : Nat) : Int) := by
  have a := subI (x := r) (y := 1) (b := 1) hr rfl (by omega)
  rw [subI a hj (by omega)]
  omega
theorem own_dc {u d8 : Int64} {c : Int32} {n e : Nat} (hu : u.toInt = (n : Int)) (hn : n ≤ 2147483648) (he : e ≤ 9) (hd : d8 = ((u / (p10 e)) - ((u / (p10 e)) / (10 : Int64)) * (10 : Int64))) (hc : c = ((48 : Int32) + d8.toInt32).toUInt32.toUInt16.toUInt32.toInt32) : c = dch n e := by
  have p := p10_toInt he
  have d : (u / (p10 e)).toInt = ((n / 10 ^ e : Nat) : Int) := by
    rw [Int64.toInt_div, hu, p, Int.tdiv_eq_ediv_of_nonneg (by omega)]
    have : ((n : Int) / ((10 ^ e : Nat) : Int)) = ((n / 10 ^ e : Nat) : Int) := by simp
    have l : n / 10 ^ e ≤ n := Nat.div_le_self _ _
    rw [this]
    exact own_bm (by omega)
  have l : n / 10 ^ e ≤ n := Nat.div_le_self _ _
  have r := own_rem10 (c := 10) (m := 10) d rfl (by decide) (by omega) (by decide)
  have b : n / 10 ^ e % 10 < 10 := Nat.mod_lt _ (by decide)
  have t : d8.toInt32.toInt = ((n / 10 ^ e % 10 : Nat) : Int) := by
    rw [hd, Int64.toInt_toInt32, r, Int.bmod_eq_of_le] <;> omega
  have s : ((48 : Int32) + d8.toInt32).toInt = ((48 + n / 10 ^ e % 10 : Nat) : Int) := addI (a := 48) rfl t (by omega)
  rw [i2c_id (Chr.of (by omega))] at hc
  apply Int32.toInt_inj.mp
  rw [hc, s, dch_rng]
theorem own_jN {v j i : Int32} (h : v < 0) (hj0 : 0 ≤ j.toInt) (h1 : ¬ j = 0) (hj : j.toNatClampNeg < (db v).length) (hi : i = j - (1 : Int32)) : ∃ n : Nat, i.toInt = (n : Int) ∧ j.toNatClampNeg = n + 1 ∧ n < dl v.toInt.natAbs ∧ (db v).getD j.toNatClampNeg 0 = dch v.toInt.natAbs (dl v.toInt.natAbs - 1 - n) := by
  have e0 : (0 : Int32).toInt = 0 := rfl
  have e1 : (1 : Int32).toInt = 1 := rfl
  have a : j.toInt ≠ (0 : Int32).toInt := fun q => h1 (Int32.toInt_inj.mp q)
  have k : j.toInt = ((j.toInt.toNat : Nat) : Int) := by omega
  have k2 := natI k
  have l := db_le v
  obtain ⟨n, hn⟩ : ∃ n, j.toNatClampNeg = n + 1 := ⟨j.toNatClampNeg - 1, by omega⟩
  have m := db_atN (j := n) h (by omega)
  have s := subI (x := j) (y := 1) rfl rfl (by omega)
  exact ⟨n, by rw [hi, s]; omega, hn, m.1, by rw [hn]; exact m.2⟩
theorem own_jP {v j : Int32} (h : ¬ v < 0) (hj0 : 0 ≤ j.toInt) (hj : j.toNatClampNeg < (db v).length) : ∃ n : Nat, j.toInt = (n : Int) ∧ j.toNatClampNeg = n ∧ n < dl v.toInt.natAbs ∧ (db v).getD j.toNatClampNeg 0 = dch v.toInt.natAbs (dl v.toInt.natAbs - 1 - n) := by
  have k : j.toInt = ((j.toInt.toNat : Nat) : Int) := by omega
  have m := db_atP h hj
  exact ⟨j.toNatClampNeg, by rw [natI k]; omega, rfl, m.1, m.2⟩
theorem dl_le9 (u n : Nat) : dl u - 1 - n ≤ 9 := by have := dl_10 u; omega
theorem own_d45 {v j : Int32} (h : v < 0) (h0 : j = 0) : (db v).getD j.toNatClampNeg 0 = b8 (45 : Int32) := by
  subst h0; exact db_at0 h
/-- within the builder -/
theorem own_16 {n : Nat} (h : n ≤ 16) : n ≤ (16 : Int32).toNatClampNeg := h
theorem own_34 {n : Nat} (h : n ≤ 34) : n ≤ (34 : Int32).toNatClampNeg := h
theorem buf0 : Buf [(.int (0 : Int32)), (.int (0 : Int32)), (.int (0 : Int32)), (.int (0 : Int32)), (.int (0 : Int32)), (.int (0 : Int32)), (.int (0 : Int32)), (.int (0 : Int32)), (.int (0 : Int32)), (.int (0 : Int32)), (.int (0 : Int32)), (.int (0 : Int32)), (.int (0 : Int32)), (.int (0 : Int32)), (.int (0 : Int32)), (.int (0 : Int32))] (0 : Int32) (16 : Int32) ([] : List Int32) :=
  ⟨rfl, rfl, Nat.zero_le _, Or.inl rfl, fun _ q => absurd q (Nat.not_lt_zero _)⟩
section
variable {fb mb : List Int32}
theorem own_t1 (h : fb.length ≤ 4) : ([] : List Int32).length + fb.length ≤ 16 := by simp; omega
theorem own_t2 (h : fb.length ≤ 4) : (([] : List Int32) ++ fb).length + ([58] : List Int32).length ≤ 16 := by simp; omega
theorem own_t3 (a : Int32) (h : fb.length ≤ 4) : ((([] : List Int32) ++ fb) ++ ([58] : List Int32)).length + (db a).length ≤ 16 := by
  have := db_le a; rw [ln2]; omega
theorem own_t4 (a : Int32) (h : fb.length ≤ 4) : (((([] : List Int32) ++ fb) ++ ([58] : List Int32)) ++ db a).length + ([58] : List Int32).length ≤ 34 := by
  have := db_le a; rw [ln3]; simp; omega
theorem own_t5 (a b : Int32) (h : fb.length ≤ 4) : ((((([] : List Int32) ++ fb) ++ ([58] : List Int32)) ++ db a) ++ ([58] : List Int32)).length + (db b).length ≤ 34 := by
  have := db_le a; have := db_le b; rw [ln4]; omega
theorem own_t6 (a b : Int32) (h : fb.length ≤ 4) : (((((([] : List Int32) ++ fb) ++ ([58] : List Int32)) ++ db a) ++ ([58] : List Int32)) ++ db b).length + ([58, 32] : List Int32).length ≤ 34 := by
  have := db_le a; have := db_le b; rw [ln5]; simp; omega
theorem own_t7 (a b : Int32) (h : fb.length ≤ 4) (q : mb.length ≤ 4) : ((((((([] : List Int32) ++ fb) ++ ([58] : List Int32)) ++ db a) ++ ([58] : List Int32)) ++ db b) ++ ([58, 32] : List Int32)).length + mb.length ≤ 34 := by
  have := db_le a; have := db_le b; rw [ln6]; omega
end
-- places of the text
section
variable {c0 c1 c2 c3 d0 d1 d2 d3 fl ml ll cl ln cn p : Int32} {kk : Nat}
theorem own_k1 (hk : kk < (txt (sb4 c0 c1 c2 c3 fl.toNatClampNeg) ln cn (sb4 d0 d1 d2 d3 ml.toNatClampNeg)).length) : kk < 1000 := by
  rw [txt_len] at hk
  have := db_le ln; have := db_le cn
  have := sb4_le c0 c1 c2 c3 fl.toNatClampNeg; have := sb4_le d0 d1 d2 d3 ml.toNatClampNeg
  omega
theorem own_fln (hF : L5 fl) : fl.toInt = ((sb4 c0 c1 c2 c3 fl.toNatClampNeg).length : Int) := by rw [sb4_len hF.nat.2]; exact hF.nat.1
theorem own_fq (hF : L5 fl) (s : At p 0 kk) (h : p < fl) : p.toNatClampNeg < fl.toNatClampNeg := s.lt hF.nat.1 h
theorem own_lA {a b c : Int32} {mb : List Int32} (hF : L5 fl) (s : At p 0 kk) (h : p < fl) (q : (sb4 c0 c1 c2 c3 fl.toNatClampNeg).getD p.toNatClampNeg 0 = b8 c) : (txt (sb4 c0 c1 c2 c3 fl.toNatClampNeg) a b mb).getD kk 0 = b8 c := by
  have e : kk = p.toNatClampNeg := by have := s.nat; omega
  rw [e, tx1 (by rw [sb4_len hF.nat.2]; exact own_fq hF s h), q]
variable {fb mb : List Int32} {a b x y c : Int32}
theorem own_lB (s : At x (0 + fb.length) kk) (h : x = 0) : (txt fb a b mb).getD kk 0 = b8 (58 : Int32) := tx2 (s.zero h)
theorem own_lC (s : At x (0 + fb.length + 1) kk) (hy : y.toInt = ((db a).length : Int)) (h : x < y) (q : (db a).getD x.toNatClampNeg 0 = b8 c) : (txt fb a b mb).getD kk 0 = b8 c := (tx3 s.nat (s.lt hy h)).trans q
theorem own_lD (s : At x (0 + fb.length + 1 + (db a).length) kk) (h : x = 0) : (txt fb a b mb).getD kk 0 = b8 (58 : Int32) := tx4 (s.zero h)
theorem own_lE (s : At x (0 + fb.length + 1 + (db a).length + 1) kk) (hy : y.toInt = ((db b).length : Int)) (h : x < y) (q : (db b).getD x.toNatClampNeg 0 = b8 c) : (txt fb a b mb).getD kk 0 = b8 c := (tx5 s.nat (s.lt hy h)).trans q
theorem own_lF (s : At x (0 + fb.length + 1 + (db a).length + 1 + (db b).length) kk) (h : x = 0) : (txt fb a b mb).getD kk 0 = b8 (58 : Int32) := tx6 (s.zero h)
theorem own_lG (s : At x (0 + fb.length + 1 + (db a).length + 1 + (db b).length) kk) (h : x = 1) : (txt fb a b mb).getD kk 0 = b8 (32 : Int32) := tx7 (s.one h)
theorem own_lH (s : At x (0 + fb.length + 1 + (db a).length + 1 + (db b).length + 2) kk) (q : mb.getD x.toNatClampNeg 0 = b8 c) : (txt fb a b mb).getD kk 0 = b8 c := (tx8 s.nat).trans q
theorem own_mq (hM : L5 ml) (s : At x (0 + fb.length + 1 + (db a).length + 1 + (db b).length + 2) kk) (hk : kk < (txt fb a b (sb4 d0 d1 d2 d3 ml.toNatClampNeg)).length) : x.toNatClampNeg < ml.toNatClampNeg := by
  rw [txt_len, sb4_len hM.nat.2] at hk
  have := s.nat
  omega
theorem own_len {n : Int32} (hF : L5 fl) (hM : L5 ml) (h1 : ll.toInt = ((db ln).length : Int)) (h2 : cl.toInt = ((db cn).length : Int)) (hn : n = ((((fl + ll) + cl) + ml) + (4 : Int32))) : n.toInt = ((txt (sb4 c0 c1 c2 c3 fl.toNatClampNeg) ln cn (sb4 d0 d1 d2 d3 ml.toNatClampNeg)).length : Int) := by
  obtain ⟨f1, f2⟩ := hF.nat
  obtain ⟨m1, m2⟩ := hM.nat
  have l1 := db_le ln
  have l2 := db_le cn
  have a1 := addI f1 h1 (by omega)
  have a2 := addI a1 h2 (by omega)
  have a3 := addI a2 m1 (by omega)
  have a4 := addI (y := 4) (b := 4) a3 rfl (by omega)
  rw [hn, a4, txt_len, sb4_len f2, sb4_len m2]
  omega
theorem own_nn4 {n : Int32} (h : n.toInt = ((txt fb a b mb).length : Int)) : ¬ (n = (0 : Int32)) := by
  intro q
  rw [q, txt_len] at h
  have e0 : (0 : Int32).toInt = 0 := rfl
  omega
theorem own_p {n p k : Int32} (hl : fb.length ≤ 4 ∧ mb.length ≤ 4) (h : n.toInt = ((txt fb a b mb).length : Int)) (hp : p = ((k &&& (2147483647 : Int32)) % n)) : ∃ kk : Nat, p.toInt = (kk : Int) ∧ kk < (txt fb a b mb).length := by
  have r := mask_rng k 2147483647 (by decide)
  have e : (2147483647 : Int32).toInt = 2147483647 := rfl
  have l : 0 < (txt fb a b mb).length := by rw [txt_len]; omega
  have l2 : (txt fb a b mb).length ≤ 100 := by rw [txt_len]; have := db_le a; have := db_le b; omega
  refine ⟨((k &&& (2147483647 : Int32)).toInt % n.toInt).toNat, ?_, ?_⟩
  · rw [hp, Int32.toInt_mod, Int.tmod_eq_emod_of_nonneg r.1]
    have := Int.emod_nonneg (k &&& (2147483647 : Int32)).toInt (b := n.toInt) (by omega)
    omega
  · have := Int.emod_lt_of_pos (k &&& (2147483647 : Int32)).toInt (b := n.toInt) (by omega)
    have := Int.emod_nonneg (k &&& (2147483647 : Int32)).toInt (b := n.toInt) (by omega)
    omega
theorem own_ilt {n p : Int32} (h : n.toInt = ((txt fb a b mb).length : Int)) (hp : p.toInt = (kk : Int)) (hk : kk < (txt fb a b mb).length) : p < n := by
  rw [Int32.lt_iff_toInt_lt, hp, h]; omega
theorem own_hge {us : List Value} {p cc nn : Int32} {T : List Int32} (hS : Str us nn T) (hp : p.toInt = (kk : Int)) (hk : kk < T.length) (q : T.getD kk 0 = b8 cc) : us.getD p.toNatClampNeg (.int (0 : Int32)) = .int cc.toInt8.toInt32 := by
  rw [natI hp, hS.2.2 kk hk, q]; rfl
theorem own_eqn {n nn : Int32} {T : List Int32} (h : n.toInt = (T.length : Int)) (q : nn.toInt = (T.length : Int)) : nn = n := Int32.toInt_inj.mp (q.trans h.symm)
end
theorem own_neLen {Z : State} {h : Heap} {a b : Addr} {k k' : ClassId} {ty ty' : FieldType} {n n' : Int32} {vs vs' : List Value} {dv dv' : Value} (A : Arv Z h a k ty n vs dv) (B : Arv Z h b k' ty' n' vs' dv') (q : n.toNatClampNeg ≠ n'.toNatClampNeg) : a ≠ b := by
  obtain ⟨c, ⟨hA, -⟩, -, sA, -⟩ := A
  obtain ⟨d, ⟨hB, -⟩, -, sB, -⟩ := B
  intro e
  subst e
  rw [hA] at hB
  cases hB
  exact q (sA.symm.trans sB)
theorem own_shr0 (x : Int32) : x >>> ((0 : Int32) &&& 31) = x := by
  have h0 : ((0 : Int32) &&& 31) = 0 := by decide
  rw [h0]
  simp
theorem pn0 : plainName "java/lang/String" = true := by first | (simp [plainName, overriddenIn]; done) | decide +kernel
theorem d18_0 : decode jdk_42_method_152_code 0 = .ok (.getstatic 38, 3) := by decide +kernel
theorem d18_3 : decode jdk_42_method_152_code 3 = .ok (.ifCond .eq 10, 3) := by decide +kernel
theorem d18_6 : decode jdk_42_method_152_code 6 = .ok (.aload_n 0, 1) := by decide +kernel
theorem d18_7 : decode jdk_42_method_152_code 7 = .ok (.getfield 15, 3) := by decide +kernel
theorem d18_10 : decode jdk_42_method_152_code 10 = .ok (.goto 4, 3) := by decide +kernel
theorem d18_14 : decode jdk_42_method_152_code 14 = .ok (.ireturn, 1) := by decide +kernel
def Q_rm_cod (Z : State) (x : Addr) (G1 : Int32) (h0 : Heap) (v : Option Value) (h : Heap) (L : List Loc) : Prop := v = some (.int (0 : Int32)) ∧ Fk h0.size [] L ∧ h = h0
set_option maxRecDepth 65536 in
set_option maxHeartbeats 40000000 in
theorem rm_cod (l : Launch) (Z : State) (a0 : Array Value) (hw : ∀ d ∈ tables_1, d.before a0 Z = true) (ws : List Jvm.Cond) (x : Addr) (G1 : Int32) (h0 : Heap) (O0 : Old Z Z.heap.size h0) (SG1 : Sta Z Z.heap "java/lang/String" "COMPACT_STRINGS" "Z" (.int G1)) (nG1 : ¬ G1 = 0) (pC : Fld Z h0 x "java/lang/String" "coder" "B" (.int (0 : Int32))) :
    Ctr l Z (⟨"java/lang/String", "coder", "()B"⟩ : MethodName) jdk_42_method_152_code 1 (some .byte) ws ({ frames := 0, cells := 0, slots := 0, locals := 0 } : Room) #[(.ref x)] h0 (Q_rm_cod Z x G1 h0) := by
  refine Ctr.intro (Ls := fun _ => #[.val (.ref x)]) (plainFor_of_name pn0) (fun m => by first | rfl | (simp [entryFrame, mkF, argsToLocals, Value.category]; done)) ?_
  intro p e s m below meth c s₁ hx hby hml hr hlk hZ hown hnm hs0 X0 e0
  have w : ∀ (k : Nat) (d : Jvm.Cond), tables_1[k]? = some d → d.before a0 Z = true := fun k d q => hw d (List.mem_of_getElem? q)
  have N0 := Fk.nil h0.size []
  refine Wk.getstatic X0 hx hZ hown (host := "") (Or.inl (w 24 _ rfl)) Via.refl e0 (SG1.ext O0.2) (hb hby d18_0) rfl ?_
  intro T1 X1 e1
  refine Wk.ifNo X1 hx (hb hby d18_3) rfl ((if0 _ _).trans (feq nG1).1) ?_
  refine Wk.aloadN X1 hx (hb hby d18_6) rfl rfl rfl ?_
  refine Wk.getfield X1 hx hZ hown (host := "") (Or.inl (w 36 _ rfl)) Via.refl e1 pC (hb hby d18_7) rfl ?_
  intro T2 X2 e2
  refine Wk.goto X2 hx (hb hby d18_10) (by decide) (q := 14) rfl ?_
  exact Wk.retZ' X2 hx hlk hr (by simp) (hb hby d18_14) (by decide) (by decide) (Qc := Q_rm_cod Z x G1 h0) e2 ⟨rfl, N0, rfl⟩
theorem d17_0 : decode jdk_42_method_54_code 0 = .ok (.aload_n 0, 1) := by decide +kernel
theorem d17_1 : decode jdk_42_method_54_code 1 = .ok (.getfield 9, 3) := by decide +kernel
theorem d17_4 : decode jdk_42_method_54_code 4 = .ok (.arraylength, 1) := by decide +kernel
theorem d17_5 : decode jdk_42_method_54_code 5 = .ok (.aload_n 0, 1) := by decide +kernel
theorem d17_6 : decode jdk_42_method_54_code 6 = .ok (.invokevirtual 335, 3) := by decide +kernel
theorem pd1 : parseMethodDescriptor "()B" = some ⟨[], some .byte⟩ := by decide +kernel
theorem d17_9 : decode jdk_42_method_54_code 9 = .ok (.ishr, 1) := by decide +kernel
theorem d17_10 : decode jdk_42_method_54_code 10 = .ok (.ireturn, 1) := by decide +kernel
def Q_rm_len (Z : State) (x : Addr) (t : Addr) (kb : ClassId) (nn : Int32) (us : List Value) (G1 : Int32) (h0 : Heap) (v : Option Value) (h : Heap) (L : List Loc) : Prop := v = some (.int nn) ∧ Fk h0.size [] L ∧ h = h0
set_option maxRecDepth 65536 in
set_option maxHeartbeats 40000000 in
theorem rm_len (l : Launch) (Z : State) (a0 : Array Value) (hw : ∀ d ∈ tables_1, d.before a0 Z = true) (ws : List Jvm.Cond) (x : Addr) (t : Addr) (kb : ClassId) (nn : Int32) (us : List Value) (G1 : Int32) (h0 : Heap) (O0 : Old Z Z.heap.size h0) (SG1 : Sta Z Z.heap "java/lang/String" "COMPACT_STRINGS" "Z" (.int G1)) (nG1 : ¬ G1 = 0) (pp0_ : Exa Z h0 x "java/lang/String") (pp1_ : Fld Z h0 x "java/lang/String" "coder" "B" (.int (0 : Int32))) (pp2_ : Fld Z h0 x "java/lang/String" "value" "[B" (.ref t)) (pp3_ : Arv Z h0 t kb .byte nn us (.int (0 : Int32))) :
    Ctr l Z (⟨"java/lang/String", "length", "()I"⟩ : MethodName) jdk_42_method_54_code 1 (some .int) ws ({ frames := 1, cells := 0, slots := 0, locals := 13 } : Room) #[(.ref x)] h0 (Q_rm_len Z x t kb nn us G1 h0) := by
  refine Ctr.intro (Ls := fun _ => #[.val (.ref x)]) (plainFor_of_name pn0) (fun m => by first | rfl | (simp [entryFrame, mkF, argsToLocals, Value.category]; done)) ?_
  intro p e s m below meth c s₁ hx hby hml hr hlk hZ hown hnm hs0 X0 e0
  have w : ∀ (k : Nat) (d : Jvm.Cond), tables_1[k]? = some d → d.before a0 Z = true := fun k d q => hw d (List.mem_of_getElem? q)
  have N0 := Fk.nil h0.size []
  refine Wk.aloadN X0 hx (hb hby d17_0) rfl rfl rfl ?_
  refine Wk.getfield X0 hx hZ hown (host := "") (Or.inl (w 38 _ rfl)) Via.refl e0 pp2_ (hb hby d17_1) rfl ?_
  intro T1 X1 e1
  refine Wk.arraylength X1 hx hZ e1 pp3_ (hb hby d17_4) rfl ?_
  refine Wk.aloadN X1 hx (hb hby d17_5) rfl rfl rfl ?_
  refine Wk.callV X1 hx hZ (y := (⟨"java/lang/String", "coder", "()B"⟩ : MethodName)) (z := (⟨"java/lang/String", "coder", "()B"⟩ : MethodName)) hown (w 107 _ rfl) (w 108 _ rfl) (notFace_of_selects (args := #[]) (mvT hZ (w 110 _ rfl))) (w 110 _ rfl) (w 109 _ rfl) (by decide) (as' := []) (backOf (W := 1) (rm_cod l Z a0 hw [] x G1 h0 O0 SG1 nG1 pp1_) hZ (w 111 _ rfl) (w 13 _ rfl) (by decide) (by decide)) e1 pp0_ (by rw [hml]; rfl) (rest := [(.int nn)]) (lenOf pd1 rfl) rfl (Nat.le_of_eq rfl) (hb hby d17_6) rfl (by decide) (by decide) ?_
  intro T2 h2 v2 L2 X2 e2 hQ2
  obtain ⟨rfl, Nq2, K2⟩ := hQ2
  have N2 := Fk.app N0 Nq2 (Nat.le_refl _) all0
  rw [K2] at e2
  show Wp p e below _ _ T2 (mkF m 9 #[.val (.ref x)] [(.int (0 : Int32)), (.int nn)])
  refine Wk.ishr X2 hx (hb hby d17_9) rfl ?_
  rw [own_shr0 nn]
  exact Wk.retI' X2 hx hlk hr (hb hby d17_10) (by decide) (by decide) (Qc := Q_rm_len Z x t kb nn us G1 h0) e2 ⟨rfl, N2, rfl⟩
theorem pn2 : plainName "java/lang/AbstractStringBuilder" = true := by first | (simp [plainName, overriddenIn]; done) | decide +kernel
theorem d14_0 : decode jdk_68_method_2_code 0 = .ok (.aload_n 0, 1) := by decide +kernel
theorem d14_1 : decode jdk_68_method_2_code 1 = .ok (.invokespecial 3, 3) := by decide +kernel
theorem d14_4 : decode jdk_68_method_2_code 4 = .ok (.getstatic 18, 3) := by decide +kernel
theorem d14_7 : decode jdk_68_method_2_code 7 = .ok (.ifCond .eq 18, 3) := by decide +kernel
theorem d14_10 : decode jdk_68_method_2_code 10 = .ok (.aload_n 0, 1) := by decide +kernel
theorem d14_11 : decode jdk_68_method_2_code 11 = .ok (.iload_n 1, 1) := by decide +kernel
theorem d14_12 : decode jdk_68_method_2_code 12 = .ok (.newarray .byte, 2) := by decide +kernel
theorem d14_14 : decode jdk_68_method_2_code 14 = .ok (.putfield 15, 3) := by decide +kernel
theorem d14_17 : decode jdk_68_method_2_code 17 = .ok (.aload_n 0, 1) := by decide +kernel
theorem d14_18 : decode jdk_68_method_2_code 18 = .ok (.iconst 0, 1) := by decide +kernel
theorem d14_19 : decode jdk_68_method_2_code 19 = .ok (.putfield 22, 3) := by decide +kernel
theorem d14_22 : decode jdk_68_method_2_code 22 = .ok (.goto 16, 3) := by decide +kernel
theorem d14_38 : decode jdk_68_method_2_code 38 = .ok (.return_, 1) := by decide +kernel
def Q_rm_asbi (Z : State) (sb : Addr) (G1 : Int32) (h0 : Heap) (v : Option Value) (h : Heap) (L : List Loc) : Prop := ∃ va : Addr, ∃ kv : ClassId, v = none ∧ Fk h0.size [sb] L ∧ Keep h0 h [sb] ∧ h0.size ≤ va ∧ Exa Z h sb "java/lang/StringBuilder" ∧ Fld Z h sb "java/lang/AbstractStringBuilder" "value" "[B" (.ref va) ∧ Fld Z h sb "java/lang/AbstractStringBuilder" "coder" "B" (.int (0 : Int32)) ∧ Fld Z h sb "java/lang/AbstractStringBuilder" "count" "I" (.int (0 : Int32)) ∧ Exa Z h va "[B" ∧ Arv Z h va kv .byte (16 : Int32) [(.int (0 : Int32)), (.int (0 : Int32)), (.int (0 : Int32)), (.int (0 : Int32)), (.int (0 : Int32)), (.int (0 : Int32)), (.int (0 : Int32)), (.int (0 : Int32)), (.int (0 : Int32)), (.int (0 : Int32)), (.int (0 : Int32)), (.int (0 : Int32)), (.int (0 : Int32)), (.int (0 : Int32)), (.int (0 : Int32)), (.int (0 : Int32))] (.int (0 : Int32))
set_option maxRecDepth 65536 in
set_option maxHeartbeats 40000000 in
theorem rm_asbi (l : Launch) (Z : State) (a0 : Array Value) (hw : ∀ d ∈ tables_1, d.before a0 Z = true) (ws : List Jvm.Cond) (sb : Addr) (G1 : Int32) (h0 : Heap) (O0 : Old Z Z.heap.size h0) (SG1 : Sta Z Z.heap "java/lang/String" "COMPACT_STRINGS" "Z" (.int G1)) (nG1 : ¬ G1 = 0) (pn0_ : Exa Z h0 sb "java/lang/StringBuilder") (pn1_ : Fld Z h0 sb "java/lang/AbstractStringBuilder" "value" "[B" .null) (pn2_ : Fld Z h0 sb "java/lang/AbstractStringBuilder" "coder" "B" (.int (0 : Int32))) (pn3_ : Fld Z h0 sb "java/lang/AbstractStringBuilder" "count" "I" (.int (0 : Int32))) (hsb : Z.heap.size ≤ sb) :
    Ctr l Z (⟨"java/lang/AbstractStringBuilder", "<init>", "(I)V"⟩ : MethodName) jdk_68_method_2_code 2 none ws ({ frames := 1, cells := 1, slots := 16, locals := 12 } : Room) #[(.ref sb), (.int (16 : Int32))] h0 (Q_rm_asbi Z sb G1 h0) := by
  refine Ctr.intro (Ls := fun _ => #[.val (.ref sb), .val (.int (16 : Int32))]) (plainFor_of_name pn2) (fun m => by first | rfl | (simp [entryFrame, mkF, argsToLocals, Value.category]; done)) ?_
  intro p e s m below meth c s₁ hx hby hml hr hlk hZ hown hnm hs0 X0 e0
  have w : ∀ (k : Nat) (d : Jvm.Cond), tables_1[k]? = some d → d.before a0 Z = true := fun k d q => hw d (List.mem_of_getElem? q)
  have N0 := Fk.nil h0.size [sb]
  refine Wk.aloadN X0 hx (hb hby d14_0) rfl rfl rfl ?_
  refine Wk.objinit X0 hx hZ hown (w 86 _ rfl) (w 22 _ rfl) (w 23 _ rfl) e0 (by rw [hml]; rfl) (hb hby d14_1) rfl (by decide) 0 (Nat.le_of_eq rfl) (by decide) ?_
  intro T1 X1 e1
  refine Wk.getstatic X1 hx hZ hown (host := "") (Or.inl (w 87 _ rfl)) Via.refl e1 (SG1.ext O0.2) (hb hby d14_4) rfl ?_
  intro T2 X2 e2
  refine Wk.ifNo X2 hx (hb hby d14_7) rfl ((if0 _ _).trans (feq nG1).1) ?_
  refine Wk.aloadN X2 hx (hb hby d14_10) rfl rfl rfl ?_
  refine Wk.iloadN X2 hx (hb hby d14_11) rfl rfl ?_
  refine Wk.newarrayE X2 hx hZ (w 29 _ rfl) e2 (hb hby d14_12) rfl (by decide) 16 (by decide) (by decide) (by decide) (by decide) (ad := "[B") (by decide) ?_
  intro T3 h3 a3 kA3 g3 X3 e3 E3 A3 Ea3
  have O4 : Old Z Z.heap.size h3 := O0.ext E3
  have V3 : Arv Z h3 a3 kA3 .byte (16 : Int32) [(.int (0 : Int32)), (.int (0 : Int32)), (.int (0 : Int32)), (.int (0 : Int32)), (.int (0 : Int32)), (.int (0 : Int32)), (.int (0 : Int32)), (.int (0 : Int32)), (.int (0 : Int32)), (.int (0 : Int32)), (.int (0 : Int32)), (.int (0 : Int32)), (.int (0 : Int32)), (.int (0 : Int32)), (.int (0 : Int32)), (.int (0 : Int32))] (.int (0 : Int32)) := A3.pad (pad_rep [] (.int (0 : Int32)) 16)
  have KK5 : Keep h0 h3 [] := ((Keep.refl h0 []).ext E3)
  have f6 : Exa Z h3 sb "java/lang/StringBuilder" := (pn0_.keep KK5)
  have f7 : Fld Z h3 sb "java/lang/AbstractStringBuilder" "value" "[B" .null := (pn1_.keep KK5 nin0)
  have f9 : Fld Z h3 sb "java/lang/AbstractStringBuilder" "coder" "B" (.int (0 : Int32)) := (pn2_.keep KK5 nin0)
  have f10 : Fld Z h3 sb "java/lang/AbstractStringBuilder" "count" "I" (.int (0 : Int32)) := (pn3_.keep KK5 nin0)
  refine Wk.putfield X3 hx hZ hown (host := "") (Or.inl (w 88 _ rfl)) Via.refl e3 f7 f6 (Or.inl (w 89 _ rfl)) (w 75 _ rfl) (ty := (.array .byte)) (by decide) rfl rfl (hb hby d14_14) rfl ?_
  intro T8 h8 L8 M8 X8 e8 W8 Fw8
  have N8 := M8 _ _ N0 (Or.inl (List.mem_of_getElem? (i := 0) rfl))
  have O11 : Old Z Z.heap.size h8 := O4.wr W8 hsb
  have f12 : Fld Z h8 sb "java/lang/AbstractStringBuilder" "coder" "B" (.int (0 : Int32)) := f9.other W8 (Or.inr (slot_ne (Or.inl (w 91 _ rfl)) (Or.inl (w 89 _ rfl)) (by decide) (t := .byte) (t' := (.array .byte)) (by decide) (by decide)))
  have f13 : Fld Z h8 sb "java/lang/AbstractStringBuilder" "count" "I" (.int (0 : Int32)) := f10.other W8 (Or.inr (slot_ne (Or.inl (w 113 _ rfl)) (Or.inl (w 89 _ rfl)) (by decide) (t := .int) (t' := (.array .byte)) (by decide) (by decide)))
  have E8' : Exa Z h8 sb "java/lang/StringBuilder" := f6.wr W8
  refine Wk.aloadN X8 hx (hb hby d14_17) rfl rfl rfl ?_
  refine Wk.iconst X8 hx (v := (0 : Int32)) (hb hby d14_18) rfl rfl ?_
  refine Wk.putfieldN X8 hx hZ hown (w 90 _ rfl) Via.refl e8 (v' := (.int (0 : Int32))) f12 E8' (Or.inl (w 91 _ rfl)) (w 75 _ rfl) (ty := .byte) (by decide) rfl rfl (hb hby d14_19) rfl ?_
  intro T14 h14 L14 M14 X14 e14 W14 Fw14
  have N14 := M14 _ _ N8 (Or.inl (List.mem_of_getElem? (i := 0) rfl))
  have O15 : Old Z Z.heap.size h14 := O11.wr W14 hsb
  have f16 : Fld Z h14 sb "java/lang/AbstractStringBuilder" "value" "[B" (.ref a3) := Fw8.other W14 (Or.inr (slot_ne (Or.inl (w 89 _ rfl)) (Or.inl (w 91 _ rfl)) (by decide) (t := (.array .byte)) (t' := .byte) (by decide) (by decide)))
  have f17 : Fld Z h14 sb "java/lang/AbstractStringBuilder" "count" "I" (.int (0 : Int32)) := f13.other W14 (Or.inr (slot_ne (Or.inl (w 113 _ rfl)) (Or.inl (w 91 _ rfl)) (by decide) (t := .int) (t' := .byte) (by decide) (by decide)))
  have E14' : Exa Z h14 sb "java/lang/StringBuilder" := E8'.wr W14
  refine Wk.goto X14 hx (hb hby d14_22) (by decide) (q := 38) rfl ?_
  have KK18 : Keep h0 h14 [sb] := ((((Keep.refl h0 [sb]).ext E3).wr W8 (Or.inl (List.mem_of_getElem? (i := 0) rfl))).wr W14 (Or.inl (List.mem_of_getElem? (i := 0) rfl)))
  have KK19 : Keep h3 h14 [sb] := (((Keep.refl h3 [sb]).wr W8 (Or.inl (List.mem_of_getElem? (i := 0) rfl))).wr W14 (Or.inl (List.mem_of_getElem? (i := 0) rfl)))
  have f20 : Exa Z h14 a3 "[B" := (Ea3.keep KK19)
  have f21 := (V3.keep KK19 (ninS (Ne.symm (Nat.ne_of_lt (Nat.lt_of_lt_of_le pn2_.lt (Nat.le_of_eq g3)))) nin0))
  exact Wk.ret0' X14 hx hlk hr (hb hby d14_38) (by decide) (by decide) (Qc := Q_rm_asbi Z sb G1 h0) e14 ⟨a3, kA3, rfl, N14, KK18, (Nat.le_of_eq g3), E14', f16, Fw14, f17, f20, f21⟩
theorem pn3 : plainName "java/lang/StringBuilder" = true := by first | (simp [plainName, overriddenIn]; done) | decide +kernel
theorem d13_0 : decode jdk_67_method_1_code 0 = .ok (.aload_n 0, 1) := by decide +kernel
theorem d13_1 : decode jdk_67_method_1_code 1 = .ok (.bipush 16, 2) := by decide +kernel
theorem d13_3 : decode jdk_67_method_1_code 3 = .ok (.invokespecial 1, 3) := by decide +kernel
theorem pd4 : parseMethodDescriptor "(I)V" = some ⟨[.int], none⟩ := by decide +kernel
theorem d13_6 : decode jdk_67_method_1_code 6 = .ok (.return_, 1) := by decide +kernel
def Q_rm_sbi (Z : State) (sb : Addr) (G1 : Int32) (h0 : Heap) (v : Option Value) (h : Heap) (L : List Loc) : Prop := ∃ va : Addr, ∃ kv : ClassId, v = none ∧ Fk h0.size [sb] L ∧ Keep h0 h [sb] ∧ h0.size ≤ va ∧ Exa Z h sb "java/lang/StringBuilder" ∧ Fld Z h sb "java/lang/AbstractStringBuilder" "value" "[B" (.ref va) ∧ Fld Z h sb "java/lang/AbstractStringBuilder" "coder" "B" (.int (0 : Int32)) ∧ Fld Z h sb "java/lang/AbstractStringBuilder" "count" "I" (.int (0 : Int32)) ∧ Exa Z h va "[B" ∧ Arv Z h va kv .byte (16 : Int32) [(.int (0 : Int32)), (.int (0 : Int32)), (.int (0 : Int32)), (.int (0 : Int32)), (.int (0 : Int32)), (.int (0 : Int32)), (.int (0 : Int32)), (.int (0 : Int32)), (.int (0 : Int32)), (.int (0 : Int32)), (.int (0 : Int32)), (.int (0 : Int32)), (.int (0 : Int32)), (.int (0 : Int32)), (.int (0 : Int32)), (.int (0 : Int32))] (.int (0 : Int32))
set_option maxRecDepth 65536 in
set_option maxHeartbeats 40000000 in
theorem rm_sbi (l : Launch) (Z : State) (a0 : Array Value) (hw : ∀ d ∈ tables_1, d.before a0 Z = true) (ws : List Jvm.Cond) (sb : Addr) (G1 : Int32) (h0 : Heap) (O0 : Old Z Z.heap.size h0) (SG1 : Sta Z Z.heap "java/lang/String" "COMPACT_STRINGS" "Z" (.int G1)) (nG1 : ¬ G1 = 0) (pn0_ : Exa Z h0 sb "java/lang/StringBuilder") (pn1_ : Fld Z h0 sb "java/lang/AbstractStringBuilder" "value" "[B" .null) (pn2_ : Fld Z h0 sb "java/lang/AbstractStringBuilder" "coder" "B" (.int (0 : Int32))) (pn3_ : Fld Z h0 sb "java/lang/AbstractStringBuilder" "count" "I" (.int (0 : Int32))) (hsb : Z.heap.size ≤ sb) :
    Ctr l Z (⟨"java/lang/StringBuilder", "<init>", "()V"⟩ : MethodName) jdk_67_method_1_code 1 none ws ({ frames := 2, cells := 1, slots := 16, locals := 25 } : Room) #[(.ref sb)] h0 (Q_rm_sbi Z sb G1 h0) := by
  refine Ctr.intro (Ls := fun _ => #[.val (.ref sb)]) (plainFor_of_name pn3) (fun m => by first | rfl | (simp [entryFrame, mkF, argsToLocals, Value.category]; done)) ?_
  intro p e s m below meth c s₁ hx hby hml hr hlk hZ hown hnm hs0 X0 e0
  have w : ∀ (k : Nat) (d : Jvm.Cond), tables_1[k]? = some d → d.before a0 Z = true := fun k d q => hw d (List.mem_of_getElem? q)
  have N0 := Fk.nil h0.size [sb]
  refine Wk.aloadN X0 hx (hb hby d13_0) rfl rfl rfl ?_
  refine Wk.bipush X0 hx (v := (16 : Int32)) (hb hby d13_1) rfl rfl ?_
  refine Wk.callI X0 hx hZ rfl hown (w 80 _ rfl) (w 81 _ rfl) (w 85 _ rfl) (by decide) (as' := [(.int (16 : Int32))]) (backOf (W := 0) (rm_asbi l Z a0 hw [] sb G1 h0 O0 SG1 nG1 pn0_ pn1_ pn2_ pn3_ hsb) hZ (w 85 _ rfl) (w 84 _ rfl) (by decide) (by decide)) e0 (by rw [hml]; rfl) (rest := []) (lenOf pd4 rfl) rfl (Nat.le_of_eq rfl) (hb hby d13_3) rfl (by decide) (by decide) ?_
  intro T1 h1 v1 L1 X1 e1 hQ1
  obtain ⟨va1, kv1, rfl, Nq1, K1, q1_0, q1_1, q1_2, q1_3, q1_4, q1_5, q1_6⟩ := hQ1
  have N1 := Fk.app N0 Nq1 (Nat.le_refl _) (allS (Or.inl (List.mem_of_getElem? (i := 0) rfl)) all0)
  have O2 : Old Z Z.heap.size h1 := O0.keep K1 (allS hsb all0)
  show Wp p e below _ _ T1 (mkF m 6 #[.val (.ref sb)] [])
  have KK3 : Keep h0 h1 [sb] := ((Keep.refl h0 [sb]).trans K1 (allS (Or.inl (List.mem_of_getElem? (i := 0) rfl)) all0))
  exact Wk.ret0' X1 hx hlk hr (hb hby d13_6) (by decide) (by decide) (Qc := Q_rm_sbi Z sb G1 h0) e1 ⟨va1, kv1, rfl, N1, KK3, q1_0, q1_1, q1_2, q1_3, q1_4, q1_5, q1_6⟩
theorem d22_0 : decode jdk_42_method_147_code 0 = .ok (.aload_n 0, 1) := by decide +kernel
theorem d22_1 : decode jdk_42_method_147_code 1 = .ok (.invokevirtual 335, 3) := by decide +kernel
theorem d22_4 : decode jdk_42_method_147_code 4 = .ok (.iload_n 3, 1) := by decide +kernel
theorem d22_5 : decode jdk_42_method_147_code 5 = .ok (.if_icmp .ne 23, 3) := by decide +kernel
theorem d22_8 : decode jdk_42_method_147_code 8 = .ok (.aload_n 0, 1) := by decide +kernel
theorem d22_9 : decode jdk_42_method_147_code 9 = .ok (.getfield 9, 3) := by decide +kernel
theorem d22_12 : decode jdk_42_method_147_code 12 = .ok (.iconst 0, 1) := by decide +kernel
theorem d22_13 : decode jdk_42_method_147_code 13 = .ok (.aload_n 1, 1) := by decide +kernel
theorem d22_14 : decode jdk_42_method_147_code 14 = .ok (.iload_n 2, 1) := by decide +kernel
theorem d22_15 : decode jdk_42_method_147_code 15 = .ok (.iload_n 3, 1) := by decide +kernel
theorem d22_16 : decode jdk_42_method_147_code 16 = .ok (.ishl, 1) := by decide +kernel
theorem d22_17 : decode jdk_42_method_147_code 17 = .ok (.aload_n 0, 1) := by decide +kernel
theorem d22_18 : decode jdk_42_method_147_code 18 = .ok (.getfield 9, 3) := by decide +kernel
theorem d22_21 : decode jdk_42_method_147_code 21 = .ok (.arraylength, 1) := by decide +kernel
theorem d22_22 : decode jdk_42_method_147_code 22 = .ok (.invokestatic 212, 3) := by decide +kernel
theorem d22_25 : decode jdk_42_method_147_code 25 = .ok (.goto 18, 3) := by decide +kernel
theorem d22_43 : decode jdk_42_method_147_code 43 = .ok (.return_, 1) := by decide +kernel
def Q_rm_gb (Z : State) (x : Addr) (t : Addr) (kb : ClassId) (nn : Int32) (us : List Value) (va : Addr) (kv : ClassId) (cap : Int32) (vs : List Value) (cnt : Int32) (G1 : Int32) (h0 : Heap) (v : Option Value) (h : Heap) (L : List Loc) : Prop := v = none ∧ Fk h0.size [va] L ∧ Keep h0 h [va] ∧ Arv Z h va kv .byte cap (cpF us (.int (0 : Int32)) (0 : Int32).toNatClampNeg vs (.int (0 : Int32)) cnt.toNatClampNeg nn.toNatClampNeg cap.toNatClampNeg) (.int (0 : Int32))
set_option maxRecDepth 65536 in
set_option maxHeartbeats 40000000 in
theorem rm_gb (l : Launch) (Z : State) (a0 : Array Value) (hw : ∀ d ∈ tables_1, d.before a0 Z = true) (ws : List Jvm.Cond) (x : Addr) (t : Addr) (kb : ClassId) (nn : Int32) (us : List Value) (va : Addr) (kv : ClassId) (cap : Int32) (vs : List Value) (cnt : Int32) (G1 : Int32) (h0 : Heap) (O0 : Old Z Z.heap.size h0) (SG1 : Sta Z Z.heap "java/lang/String" "COMPACT_STRINGS" "Z" (.int G1)) (nG1 : ¬ G1 = 0) (pp0_ : Exa Z h0 x "java/lang/String") (pp1_ : Fld Z h0 x "java/lang/String" "coder" "B" (.int (0 : Int32))) (pp2_ : Fld Z h0 x "java/lang/String" "value" "[B" (.ref t)) (pp3_ : Arv Z h0 t kb .byte nn us (.int (0 : Int32))) (pv : Arv Z h0 va kv .byte cap vs (.int (0 : Int32))) (c0_ : ¬ cnt < 0) (c1_ : ¬ nn < 0) (c2_ : cnt.toNatClampNeg + nn.toNatClampNeg ≤ cap.toNatClampNeg) (hva : Z.heap.size ≤ va) :
    Ctr l Z (⟨"java/lang/String", "getBytes", "([BIB)V"⟩ : MethodName) jdk_42_method_147_code 4 none ws ({ frames := 1, cells := 0, slots := 0, locals := 18 } : Room) #[(.ref x), (.ref va), (.int cnt), (.int (0 : Int32))] h0 (Q_rm_gb Z x t kb nn us va kv cap vs cnt G1 h0) := by
  refine Ctr.intro (Ls := fun _ => #[.val (.ref x), .val (.ref va), .val (.int cnt), .val (.int (0 : Int32))]) (plainFor_of_name pn0) (fun m => by first | rfl | (simp [entryFrame, mkF, argsToLocals, Value.category]; done)) ?_
  intro p e s m below meth c s₁ hx hby hml hr hlk hZ hown hnm hs0 X0 e0
  have w : ∀ (k : Nat) (d : Jvm.Cond), tables_1[k]? = some d → d.before a0 Z = true := fun k d q => hw d (List.mem_of_getElem? q)
  have N0 := Fk.nil h0.size [va]
  refine Wk.aloadN X0 hx (hb hby d22_0) rfl rfl rfl ?_
  refine Wk.callV X0 hx hZ (y := (⟨"java/lang/String", "coder", "()B"⟩ : MethodName)) (z := (⟨"java/lang/String", "coder", "()B"⟩ : MethodName)) hown (w 107 _ rfl) (w 108 _ rfl) (notFace_of_selects (args := #[]) (mvT hZ (w 110 _ rfl))) (w 110 _ rfl) (w 109 _ rfl) (by decide) (as' := []) (backOf (W := 0) (rm_cod l Z a0 hw [] x G1 h0 O0 SG1 nG1 pp1_) hZ (w 111 _ rfl) (w 13 _ rfl) (by decide) (by decide)) e0 pp0_ (by rw [hml]; rfl) (rest := []) (lenOf pd1 rfl) rfl (Nat.le_of_eq rfl) (hb hby d22_1) rfl (by decide) (by decide) ?_
  intro T1 h1 v1 L1 X1 e1 hQ1
  obtain ⟨rfl, Nq1, K1⟩ := hQ1
  have N1 := Fk.app N0 Nq1 (Nat.le_refl _) all0
  rw [K1] at e1
  show Wp p e below _ _ T1 (mkF m 4 #[.val (.ref x), .val (.ref va), .val (.int cnt), .val (.int (0 : Int32))] [(.int (0 : Int32))])
  refine Wk.iloadN X1 hx (hb hby d22_4) rfl rfl ?_
  refine Wk.icmpNo X1 hx (hb hby d22_5) rfl (teq (by decide : (0 : Int32) = (0 : Int32))).2 ?_
  refine Wk.aloadN X1 hx (hb hby d22_8) rfl rfl rfl ?_
  refine Wk.getfield X1 hx hZ hown (host := "") (Or.inl (w 38 _ rfl)) Via.refl e1 pp2_ (hb hby d22_9) rfl ?_
  intro T2 X2 e2
  refine Wk.iconst X2 hx (v := (0 : Int32)) (hb hby d22_12) rfl rfl ?_
  refine Wk.aloadN X2 hx (hb hby d22_13) rfl rfl rfl ?_
  refine Wk.iloadN X2 hx (hb hby d22_14) rfl rfl ?_
  refine Wk.iloadN X2 hx (hb hby d22_15) rfl rfl ?_
  refine Wk.ishl X2 hx (hb hby d22_16) rfl ?_
  rw [own_shl0 cnt]
  refine Wk.aloadN X2 hx (hb hby d22_17) rfl rfl rfl ?_
  refine Wk.getfield X2 hx hZ hown (host := "") (Or.inl (w 38 _ rfl)) Via.refl e2 pp2_ (hb hby d22_18) rfl ?_
  intro T3 X3 e3
  refine Wk.arraylength X3 hx hZ e3 pp3_ (hb hby d22_21) rfl ?_
  refine Wk.cpB X3 hx hZ hown (w 135 _ rfl) (w 138 _ rfl) (w 136 _ rfl) (w 137 _ rfl) e3 pp3_ pv (by decide) c0_ c1_ (Nat.le_of_eq (Nat.zero_add _)) c2_ (by rw [hml]; rfl) (hb hby d22_22) rfl (by decide) 0 (Nat.le_of_eq rfl) (by decide) ?_
  intro T4 h4 L4 M4 X4 e4 K4 V4
  have N4 := M4 _ _ N1 (Or.inl (List.mem_of_getElem? (i := 0) rfl))
  have O5 : Old Z Z.heap.size h4 := O0.keep K4 (allS hva all0)
  have Vl4 : Arv Z h4 va kv .byte cap (cpF us (.int (0 : Int32)) (0 : Int32).toNatClampNeg vs (.int (0 : Int32)) cnt.toNatClampNeg nn.toNatClampNeg cap.toNatClampNeg) (.int (0 : Int32)) := V4
  refine Wk.goto X4 hx (hb hby d22_25) (by decide) (q := 43) rfl ?_
  have KK6 : Keep h0 h4 [va] := ((Keep.refl h0 [va]).trans K4 (allS (Or.inl (List.mem_of_getElem? (i := 0) rfl)) all0))
  exact Wk.ret0' X4 hx hlk hr (hb hby d22_43) (by decide) (by decide) (Qc := Q_rm_gb Z x t kb nn us va kv cap vs cnt G1 h0) e4 ⟨rfl, N4, KK6, Vl4⟩
theorem d19_0 : decode jdk_68_method_9_code 0 = .ok (.aload_n 0, 1) := by decide +kernel
theorem d19_1 : decode jdk_68_method_9_code 1 = .ok (.getfield 15, 3) := by decide +kernel
theorem d19_4 : decode jdk_68_method_9_code 4 = .ok (.arraylength, 1) := by decide +kernel
theorem d19_5 : decode jdk_68_method_9_code 5 = .ok (.aload_n 0, 1) := by decide +kernel
theorem d19_6 : decode jdk_68_method_9_code 6 = .ok (.getfield 22, 3) := by decide +kernel
theorem d19_9 : decode jdk_68_method_9_code 9 = .ok (.ishr, 1) := by decide +kernel
theorem d19_10 : decode jdk_68_method_9_code 10 = .ok (.istore_n 2, 1) := by decide +kernel
theorem d19_11 : decode jdk_68_method_9_code 11 = .ok (.iload_n 1, 1) := by decide +kernel
theorem d19_12 : decode jdk_68_method_9_code 12 = .ok (.iload_n 2, 1) := by decide +kernel
theorem d19_13 : decode jdk_68_method_9_code 13 = .ok (.isub, 1) := by decide +kernel
theorem d19_14 : decode jdk_68_method_9_code 14 = .ok (.ifCond .le 24, 3) := by decide +kernel
theorem d19_38 : decode jdk_68_method_9_code 38 = .ok (.return_, 1) := by decide +kernel
def Q_rm_ensA (Z : State) (sb : Addr) (va : Addr) (kv : ClassId) (cap : Int32) (cnt : Int32) (vs : List Value) (mc : Int32) (h0 : Heap) (v : Option Value) (h : Heap) (L : List Loc) : Prop := v = none ∧ Fk h0.size [] L ∧ h = h0
set_option maxRecDepth 65536 in
set_option maxHeartbeats 40000000 in
theorem rm_ensA (l : Launch) (Z : State) (a0 : Array Value) (hw : ∀ d ∈ tables_1, d.before a0 Z = true) (ws : List Jvm.Cond) (sb : Addr) (va : Addr) (kv : ClassId) (cap : Int32) (cnt : Int32) (vs : List Value) (mc : Int32) (h0 : Heap) (O0 : Old Z Z.heap.size h0) (pb0_ : Exa Z h0 sb "java/lang/StringBuilder") (pb1_ : Fld Z h0 sb "java/lang/AbstractStringBuilder" "value" "[B" (.ref va)) (pb2_ : Fld Z h0 sb "java/lang/AbstractStringBuilder" "coder" "B" (.int (0 : Int32))) (pb3_ : Fld Z h0 sb "java/lang/AbstractStringBuilder" "count" "I" (.int cnt)) (pb4_ : Exa Z h0 va "[B") (pb5_ : Arv Z h0 va kv .byte cap vs (.int (0 : Int32))) (hcap : ¬ ((0 : Int32) < (mc - cap))) :
    Ctr l Z (⟨"java/lang/AbstractStringBuilder", "ensureCapacityInternal", "(I)V"⟩ : MethodName) jdk_68_method_9_code 3 none ws ({ frames := 0, cells := 0, slots := 0, locals := 0 } : Room) #[(.ref sb), (.int mc)] h0 (Q_rm_ensA Z sb va kv cap cnt vs mc h0) := by
  refine Ctr.intro (Ls := fun _ => #[.val (.ref sb), .val (.int mc), .unset]) (plainFor_of_name pn2) (fun m => by first | rfl | (simp [entryFrame, mkF, argsToLocals, Value.category]; done)) ?_
  intro p e s m below meth c s₁ hx hby hml hr hlk hZ hown hnm hs0 X0 e0
  have w : ∀ (k : Nat) (d : Jvm.Cond), tables_1[k]? = some d → d.before a0 Z = true := fun k d q => hw d (List.mem_of_getElem? q)
  have N0 := Fk.nil h0.size []
  refine Wk.aloadN X0 hx (hb hby d19_0) rfl rfl rfl ?_
  refine Wk.getfield X0 hx hZ hown (host := "") (Or.inl (w 88 _ rfl)) Via.refl e0 pb1_ (hb hby d19_1) rfl ?_
  intro T1 X1 e1
  refine Wk.arraylength X1 hx hZ e1 pb5_ (hb hby d19_4) rfl ?_
  refine Wk.aloadN X1 hx (hb hby d19_5) rfl rfl rfl ?_
  refine Wk.getfield X1 hx hZ hown (host := "") (Or.inl (w 90 _ rfl)) Via.refl e1 pb2_ (hb hby d19_6) rfl ?_
  intro T2 X2 e2
  refine Wk.ishr X2 hx (hb hby d19_9) rfl ?_
  rw [own_shr0 cap]
  refine Wk.istoreN X2 hx (Ls' := #[.val (.ref sb), .val (.int mc), .val (.int cap)]) (hb hby d19_10) rfl rfl ?_
  refine Wk.iloadN X2 hx (hb hby d19_11) rfl rfl ?_
  refine Wk.iloadN X2 hx (hb hby d19_12) rfl rfl ?_
  refine Wk.isub X2 hx (hb hby d19_13) rfl ?_
  refine Wk.ifYes X2 hx (hb hby d19_14) (by decide) (q := 38) rfl ((if0 _ _).trans (flt hcap).2.2.2) ?_
  exact Wk.ret0' X2 hx hlk hr (hb hby d19_38) (by decide) (by decide) (Qc := Q_rm_ensA Z sb va kv cap cnt vs mc h0) e2 ⟨rfl, N0, rfl⟩
theorem pn5 : plainFor (⟨"java/lang/Math", "max", "(II)I"⟩ : MethodName) = true := Jvm.Free.JP.mathPlain rfl (by decide +kernel)
theorem d48_0 : decode jdk_29_method_65_code 0 = .ok (.iload_n 0, 1) := by decide +kernel
theorem d48_1 : decode jdk_29_method_65_code 1 = .ok (.iload_n 1, 1) := by decide +kernel
theorem d48_2 : decode jdk_29_method_65_code 2 = .ok (.if_icmp .lt 7, 3) := by decide +kernel
theorem d48_9 : decode jdk_29_method_65_code 9 = .ok (.iload_n 1, 1) := by decide +kernel
theorem d48_10 : decode jdk_29_method_65_code 10 = .ok (.ireturn, 1) := by decide +kernel
theorem d48_5 : decode jdk_29_method_65_code 5 = .ok (.iload_n 0, 1) := by decide +kernel
theorem d48_6 : decode jdk_29_method_65_code 6 = .ok (.goto 4, 3) := by decide +kernel
def Q_rm_max (Z : State) (g_ : Int32) (h0 : Heap) (v : Option Value) (h : Heap) (L : List Loc) : Prop := v = some (.int (18 : Int32)) ∧ Fk h0.size [] L ∧ h = h0
set_option maxRecDepth 65536 in
set_option maxHeartbeats 40000000 in
theorem rm_max (l : Launch) (Z : State) (a0 : Array Value) (hw : ∀ d ∈ tables_1, d.before a0 Z = true) (ws : List Jvm.Cond) (g_ : Int32) (h0 : Heap) (O0 : Old Z Z.heap.size h0) (h18 : ¬ ((18 : Int32) < g_)) :
    Ctr l Z (⟨"java/lang/Math", "max", "(II)I"⟩ : MethodName) jdk_29_method_65_code 2 (some .int) ws ({ frames := 0, cells := 0, slots := 0, locals := 0 } : Room) #[(.int g_), (.int (18 : Int32))] h0 (Q_rm_max Z g_ h0) := by
  refine Ctr.intro (Ls := fun _ => #[.val (.int g_), .val (.int (18 : Int32))]) pn5 (fun m => by first | rfl | (simp [entryFrame, mkF, argsToLocals, Value.category]; done)) ?_
  intro p e s m below meth c s₁ hx hby hml hr hlk hZ hown hnm hs0 X0 e0
  have w : ∀ (k : Nat) (d : Jvm.Cond), tables_1[k]? = some d → d.before a0 Z = true := fun k d q => hw d (List.mem_of_getElem? q)
  have N0 := Fk.nil h0.size []
  refine Wk.iloadN X0 hx (hb hby d48_0) rfl rfl ?_
  refine Wk.iloadN X0 hx (hb hby d48_1) rfl rfl ?_
  by_cases hc1 : g_ < (18 : Int32)
  · skip
    refine Wk.icmpYes X0 hx (hb hby d48_2) (by decide) (q := 9) rfl (tlt hc1).1 ?_
    refine Wk.iloadN X0 hx (hb hby d48_9) rfl rfl ?_
    exact Wk.retI' X0 hx hlk hr (hb hby d48_10) (by decide) (by decide) (Qc := Q_rm_max Z g_ h0) e0 ⟨rfl, N0, rfl⟩
  refine Wk.icmpNo X0 hx (hb hby d48_2) rfl (flt hc1).1 ?_
  refine Wk.iloadN X0 hx (hb hby d48_5) rfl rfl ?_
  refine Wk.goto X0 hx (hb hby d48_6) (by decide) (q := 10) rfl ?_
  exact Wk.retI' X0 hx hlk hr (hb hby d48_10) (by decide) (by decide) (Qc := Q_rm_max Z g_ h0) e0 ⟨(congrArg (fun q => some (Value.int q)) (own_18 h18 hc1)), N0, rfl⟩
theorem pn6 : plainName "jdk/internal/util/ArraysSupport" = true := by first | (simp [plainName, overriddenIn]; done) | decide +kernel
theorem d47_0 : decode jdk_48_method_27_code 0 = .ok (.iload_n 0, 1) := by decide +kernel
theorem d47_1 : decode jdk_48_method_27_code 1 = .ok (.iload_n 1, 1) := by decide +kernel
theorem d47_2 : decode jdk_48_method_27_code 2 = .ok (.iload_n 2, 1) := by decide +kernel
theorem d47_3 : decode jdk_48_method_27_code 3 = .ok (.invokestatic 194, 3) := by decide +kernel
theorem pd7 : parseMethodDescriptor "(II)I" = some ⟨[.int, .int], some .int⟩ := by decide +kernel
theorem d47_6 : decode jdk_48_method_27_code 6 = .ok (.iadd, 1) := by decide +kernel
theorem d47_7 : decode jdk_48_method_27_code 7 = .ok (.istore_n 3, 1) := by decide +kernel
theorem d47_8 : decode jdk_48_method_27_code 8 = .ok (.iconst 0, 1) := by decide +kernel
theorem d47_9 : decode jdk_48_method_27_code 9 = .ok (.iload_n 3, 1) := by decide +kernel
theorem d47_10 : decode jdk_48_method_27_code 10 = .ok (.if_icmp .ge 11, 3) := by decide +kernel
theorem d47_13 : decode jdk_48_method_27_code 13 = .ok (.iload_n 3, 1) := by decide +kernel
theorem d47_14 : decode jdk_48_method_27_code 14 = .ok (.ldc 200, 2) := by decide +kernel
theorem d47_16 : decode jdk_48_method_27_code 16 = .ok (.if_icmp .gt 5, 3) := by decide +kernel
theorem d47_19 : decode jdk_48_method_27_code 19 = .ok (.iload_n 3, 1) := by decide +kernel
theorem d47_20 : decode jdk_48_method_27_code 20 = .ok (.ireturn, 1) := by decide +kernel
def Q_rm_nlen (Z : State) (g_ : Int32) (h0 : Heap) (v : Option Value) (h : Heap) (L : List Loc) : Prop := v = some (.int (34 : Int32)) ∧ Fk h0.size [] L ∧ h = h0
set_option maxRecDepth 65536 in
set_option maxHeartbeats 40000000 in
theorem rm_nlen (l : Launch) (Z : State) (a0 : Array Value) (hw : ∀ d ∈ tables_1, d.before a0 Z = true) (ws : List Jvm.Cond) (g_ : Int32) (h0 : Heap) (O0 : Old Z Z.heap.size h0) (h18 : ¬ ((18 : Int32) < g_)) :
    Ctr l Z (⟨"jdk/internal/util/ArraysSupport", "newLength", "(III)I"⟩ : MethodName) jdk_48_method_27_code 4 (some .int) ws ({ frames := 1, cells := 0, slots := 0, locals := 14 } : Room) #[(.int (16 : Int32)), (.int g_), (.int (18 : Int32))] h0 (Q_rm_nlen Z g_ h0) := by
  refine Ctr.intro (Ls := fun _ => #[.val (.int (16 : Int32)), .val (.int g_), .val (.int (18 : Int32)), .unset]) (plainFor_of_name pn6) (fun m => by first | rfl | (simp [entryFrame, mkF, argsToLocals, Value.category]; done)) ?_
  intro p e s m below meth c s₁ hx hby hml hr hlk hZ hown hnm hs0 X0 e0
  have w : ∀ (k : Nat) (d : Jvm.Cond), tables_1[k]? = some d → d.before a0 Z = true := fun k d q => hw d (List.mem_of_getElem? q)
  have N0 := Fk.nil h0.size []
  refine Wk.iloadN X0 hx (hb hby d47_0) rfl rfl ?_
  refine Wk.iloadN X0 hx (hb hby d47_1) rfl rfl ?_
  refine Wk.iloadN X0 hx (hb hby d47_2) rfl rfl ?_
  refine Wk.callS X0 hx hZ hown (w 250 _ rfl) (w 251 _ rfl) (w 201 _ rfl) (w 252 _ rfl) (by decide) (as' := [(.int g_), (.int (18 : Int32))]) (backOf (W := 1) (rm_max l Z a0 hw [] g_ h0 O0 h18) hZ (w 252 _ rfl) (w 201 _ rfl) (by decide) (by decide)) e0 (by rw [hml]; rfl) (rest := [(.int (16 : Int32))]) (lenOf pd7 rfl) rfl (Nat.le_of_eq rfl) (hb hby d47_3) rfl (by decide) (by decide) ?_
  intro T1 h1 v1 L1 X1 e1 hQ1
  obtain ⟨rfl, Nq1, K1⟩ := hQ1
  have N1 := Fk.app N0 Nq1 (Nat.le_refl _) all0
  rw [K1] at e1
  show Wp p e below _ _ T1 (mkF m 6 #[.val (.int (16 : Int32)), .val (.int g_), .val (.int (18 : Int32)), .unset] [(.int (18 : Int32)), (.int (16 : Int32))])
  refine Wk.iadd X1 hx (hb hby d47_6) rfl ?_
  rw [(by decide : (((16 : Int32) + (18 : Int32)) : Int32) = (34 : Int32))]
  refine Wk.istoreN X1 hx (Ls' := #[.val (.int (16 : Int32)), .val (.int g_), .val (.int (18 : Int32)), .val (.int (34 : Int32))]) (hb hby d47_7) rfl rfl ?_
  refine Wk.iconst X1 hx (v := (0 : Int32)) (hb hby d47_8) rfl rfl ?_
  refine Wk.iloadN X1 hx (hb hby d47_9) rfl rfl ?_
  refine Wk.icmpNo X1 hx (hb hby d47_10) rfl (tlt (by decide : (0 : Int32) < (34 : Int32))).2.1 ?_
  refine Wk.iloadN X1 hx (hb hby d47_13) rfl rfl ?_
  refine Wk.ldcInt X1 hx hZ hown (w 253 _ rfl) (hb hby d47_14) rfl ?_
  refine Wk.icmpNo X1 hx (hb hby d47_16) rfl (flt (by decide : ¬ ((2147483639 : Int32) < (34 : Int32)))).2.2.1 ?_
  refine Wk.iloadN X1 hx (hb hby d47_19) rfl rfl ?_
  exact Wk.retI' X1 hx hlk hr (hb hby d47_20) (by decide) (by decide) (Qc := Q_rm_nlen Z g_ h0) e1 ⟨rfl, N1, rfl⟩
theorem d46_0 : decode jdk_68_method_10_code 0 = .ok (.aload_n 0, 1) := by decide +kernel
theorem d46_1 : decode jdk_68_method_10_code 1 = .ok (.getfield 15, 3) := by decide +kernel
theorem d46_4 : decode jdk_68_method_10_code 4 = .ok (.arraylength, 1) := by decide +kernel
theorem d46_5 : decode jdk_68_method_10_code 5 = .ok (.istore_n 2, 1) := by decide +kernel
theorem d46_6 : decode jdk_68_method_10_code 6 = .ok (.iload_n 1, 1) := by decide +kernel
theorem d46_7 : decode jdk_68_method_10_code 7 = .ok (.aload_n 0, 1) := by decide +kernel
theorem d46_8 : decode jdk_68_method_10_code 8 = .ok (.getfield 22, 3) := by decide +kernel
theorem d46_11 : decode jdk_68_method_10_code 11 = .ok (.ishl, 1) := by decide +kernel
theorem d46_12 : decode jdk_68_method_10_code 12 = .ok (.istore_n 3, 1) := by decide +kernel
theorem d46_13 : decode jdk_68_method_10_code 13 = .ok (.iload_n 3, 1) := by decide +kernel
theorem d46_14 : decode jdk_68_method_10_code 14 = .ok (.iload_n 2, 1) := by decide +kernel
theorem d46_15 : decode jdk_68_method_10_code 15 = .ok (.isub, 1) := by decide +kernel
theorem d46_16 : decode jdk_68_method_10_code 16 = .ok (.istore 4, 2) := by decide +kernel
theorem d46_18 : decode jdk_68_method_10_code 18 = .ok (.iload_n 2, 1) := by decide +kernel
theorem d46_19 : decode jdk_68_method_10_code 19 = .ok (.iload 4, 2) := by decide +kernel
theorem d46_21 : decode jdk_68_method_10_code 21 = .ok (.iload_n 2, 1) := by decide +kernel
theorem d46_22 : decode jdk_68_method_10_code 22 = .ok (.iconst 2, 1) := by decide +kernel
theorem d46_23 : decode jdk_68_method_10_code 23 = .ok (.aload_n 0, 1) := by decide +kernel
theorem d46_24 : decode jdk_68_method_10_code 24 = .ok (.getfield 22, 3) := by decide +kernel
theorem d46_27 : decode jdk_68_method_10_code 27 = .ok (.ishl, 1) := by decide +kernel
theorem d46_28 : decode jdk_68_method_10_code 28 = .ok (.iadd, 1) := by decide +kernel
theorem d46_29 : decode jdk_68_method_10_code 29 = .ok (.invokestatic 114, 3) := by decide +kernel
theorem pd8 : parseMethodDescriptor "(III)I" = some ⟨[.int, .int, .int], some .int⟩ := by decide +kernel
theorem d46_32 : decode jdk_68_method_10_code 32 = .ok (.istore 5, 2) := by decide +kernel
theorem d46_34 : decode jdk_68_method_10_code 34 = .ok (.iload 5, 2) := by decide +kernel
theorem d46_36 : decode jdk_68_method_10_code 36 = .ok (.ldc 39, 2) := by decide +kernel
theorem d46_38 : decode jdk_68_method_10_code 38 = .ok (.if_icmp .ne 13, 3) := by decide +kernel
theorem d46_51 : decode jdk_68_method_10_code 51 = .ok (.iload 5, 2) := by decide +kernel
theorem d46_53 : decode jdk_68_method_10_code 53 = .ok (.aload_n 0, 1) := by decide +kernel
theorem d46_54 : decode jdk_68_method_10_code 54 = .ok (.getfield 22, 3) := by decide +kernel
theorem d46_57 : decode jdk_68_method_10_code 57 = .ok (.ishr, 1) := by decide +kernel
theorem d46_58 : decode jdk_68_method_10_code 58 = .ok (.ireturn, 1) := by decide +kernel
def Q_rm_ncap (Z : State) (sb : Addr) (va : Addr) (kv : ClassId) (cnt : Int32) (vs : List Value) (mc : Int32) (h0 : Heap) (v : Option Value) (h : Heap) (L : List Loc) : Prop := v = some (.int (34 : Int32)) ∧ Fk h0.size [] L ∧ h = h0
set_option maxRecDepth 65536 in
set_option maxHeartbeats 40000000 in
theorem rm_ncap (l : Launch) (Z : State) (a0 : Array Value) (hw : ∀ d ∈ tables_1, d.before a0 Z = true) (ws : List Jvm.Cond) (sb : Addr) (va : Addr) (kv : ClassId) (cnt : Int32) (vs : List Value) (mc : Int32) (h0 : Heap) (O0 : Old Z Z.heap.size h0) (pb0_ : Exa Z h0 sb "java/lang/StringBuilder") (pb1_ : Fld Z h0 sb "java/lang/AbstractStringBuilder" "value" "[B" (.ref va)) (pb2_ : Fld Z h0 sb "java/lang/AbstractStringBuilder" "coder" "B" (.int (0 : Int32))) (pb3_ : Fld Z h0 sb "java/lang/AbstractStringBuilder" "count" "I" (.int cnt)) (pb4_ : Exa Z h0 va "[B") (pb5_ : Arv Z h0 va kv .byte (16 : Int32) vs (.int (0 : Int32))) (hG : (0 : Int32) < (mc - (16 : Int32))) (h18 : ¬ ((18 : Int32) < (mc - (16 : Int32)))) :
    Ctr l Z (⟨"java/lang/AbstractStringBuilder", "newCapacity", "(I)I"⟩ : MethodName) jdk_68_method_10_code 6 (some .int) ws ({ frames := 2, cells := 0, slots := 0, locals := 29 } : Room) #[(.ref sb), (.int mc)] h0 (Q_rm_ncap Z sb va kv cnt vs mc h0) := by
  refine Ctr.intro (Ls := fun _ => #[.val (.ref sb), .val (.int mc), .unset, .unset, .unset, .unset]) (plainFor_of_name pn2) (fun m => by first | rfl | (simp [entryFrame, mkF, argsToLocals, Value.category]; done)) ?_
  intro p e s m below meth c s₁ hx hby hml hr hlk hZ hown hnm hs0 X0 e0
  have w : ∀ (k : Nat) (d : Jvm.Cond), tables_1[k]? = some d → d.before a0 Z = true := fun k d q => hw d (List.mem_of_getElem? q)
  have N0 := Fk.nil h0.size []
  refine Wk.aloadN X0 hx (hb hby d46_0) rfl rfl rfl ?_
  refine Wk.getfield X0 hx hZ hown (host := "") (Or.inl (w 88 _ rfl)) Via.refl e0 pb1_ (hb hby d46_1) rfl ?_
  intro T1 X1 e1
  refine Wk.arraylength X1 hx hZ e1 pb5_ (hb hby d46_4) rfl ?_
  refine Wk.istoreN X1 hx (Ls' := #[.val (.ref sb), .val (.int mc), .val (.int (16 : Int32)), .unset, .unset, .unset]) (hb hby d46_5) rfl rfl ?_
  refine Wk.iloadN X1 hx (hb hby d46_6) rfl rfl ?_
  refine Wk.aloadN X1 hx (hb hby d46_7) rfl rfl rfl ?_
  refine Wk.getfield X1 hx hZ hown (host := "") (Or.inl (w 90 _ rfl)) Via.refl e1 pb2_ (hb hby d46_8) rfl ?_
  intro T2 X2 e2
  refine Wk.ishl X2 hx (hb hby d46_11) rfl ?_
  rw [own_shl0 mc]
  refine Wk.istoreN X2 hx (Ls' := #[.val (.ref sb), .val (.int mc), .val (.int (16 : Int32)), .val (.int mc), .unset, .unset]) (hb hby d46_12) rfl rfl ?_
  refine Wk.iloadN X2 hx (hb hby d46_13) rfl rfl ?_
  refine Wk.iloadN X2 hx (hb hby d46_14) rfl rfl ?_
  refine Wk.isub X2 hx (hb hby d46_15) rfl ?_
  refine Wk.istoreA X2 hx (Ls' := fun z => #[.val (.ref sb), .val (.int mc), .val (.int (16 : Int32)), .val (.int mc), .val (.int z), .unset]) (hb hby d46_16) rfl (fun _ => rfl) ?_
  intro i3 hi3
  show Wp p e below _ _ T2 (mkF m 18 #[.val (.ref sb), .val (.int mc), .val (.int (16 : Int32)), .val (.int mc), .val (.int i3), .unset] [])
  refine Wk.iloadN X2 hx (hb hby d46_18) rfl rfl ?_
  refine Wk.iload X2 hx (hb hby d46_19) rfl rfl ?_
  refine Wk.iloadN X2 hx (hb hby d46_21) rfl rfl ?_
  refine Wk.iconst X2 hx (v := (2 : Int32)) (hb hby d46_22) rfl rfl ?_
  refine Wk.aloadN X2 hx (hb hby d46_23) rfl rfl rfl ?_
  refine Wk.getfield X2 hx hZ hown (host := "") (Or.inl (w 90 _ rfl)) Via.refl e2 pb2_ (hb hby d46_24) rfl ?_
  intro T4 X4 e4
  refine Wk.ishl X4 hx (hb hby d46_27) rfl ?_
  rw [(by decide : (((2 : Int32) <<< ((0 : Int32) &&& 31)) : Int32) = (2 : Int32))]
  refine Wk.iadd X4 hx (hb hby d46_28) rfl ?_
  rw [(by decide : (((16 : Int32) + (2 : Int32)) : Int32) = (18 : Int32))]
  refine Wk.callS X4 hx hZ hown (w 246 _ rfl) (w 247 _ rfl) (w 248 _ rfl) (w 249 _ rfl) (by decide) (as' := [(.int (16 : Int32)), (.int i3), (.int (18 : Int32))]) (backOf (W := 0) (rm_nlen l Z a0 hw [] i3 h0 O0 (by rw [hi3]; exact h18)) hZ (w 249 _ rfl) (w 248 _ rfl) (by decide) (by decide)) e4 (by rw [hml]; rfl) (rest := []) (lenOf pd8 rfl) rfl (Nat.le_of_eq rfl) (hb hby d46_29) rfl (by decide) (by decide) ?_
  intro T5 h5 v5 L5 X5 e5 hQ5
  obtain ⟨rfl, Nq5, K5⟩ := hQ5
  have N5 := Fk.app N0 Nq5 (Nat.le_refl _) all0
  rw [K5] at e5
  show Wp p e below _ _ T5 (mkF m 32 #[.val (.ref sb), .val (.int mc), .val (.int (16 : Int32)), .val (.int mc), .val (.int i3), .unset] [(.int (34 : Int32))])
  refine Wk.istore X5 hx (Ls' := #[.val (.ref sb), .val (.int mc), .val (.int (16 : Int32)), .val (.int mc), .val (.int i3), .val (.int (34 : Int32))]) (hb hby d46_32) rfl rfl ?_
  refine Wk.iload X5 hx (hb hby d46_34) rfl rfl ?_
  refine Wk.ldcInt X5 hx hZ hown (w 254 _ rfl) (hb hby d46_36) rfl ?_
  refine Wk.icmpYes X5 hx (hb hby d46_38) (by decide) (q := 51) rfl (feq (by decide : ¬ ((34 : Int32) = (2147483647 : Int32)))).2 ?_
  refine Wk.iload X5 hx (hb hby d46_51) rfl rfl ?_
  refine Wk.aloadN X5 hx (hb hby d46_53) rfl rfl rfl ?_
  refine Wk.getfield X5 hx hZ hown (host := "") (Or.inl (w 90 _ rfl)) Via.refl e5 pb2_ (hb hby d46_54) rfl ?_
  intro T6 X6 e6
  refine Wk.ishr X6 hx (hb hby d46_57) rfl ?_
  rw [(by decide : (((34 : Int32) >>> ((0 : Int32) &&& 31)) : Int32) = (34 : Int32))]
  exact Wk.retI' X6 hx hlk hr (hb hby d46_58) (by decide) (by decide) (Qc := Q_rm_ncap Z sb va kv cnt vs mc h0) e6 ⟨rfl, N5, rfl⟩
theorem pn9 : plainFor (⟨"java/lang/Math", "min", "(II)I"⟩ : MethodName) = true := Jvm.Free.JP.mathPlain rfl (by decide +kernel)
theorem d37_0 : decode jdk_29_method_69_code 0 = .ok (.iload_n 0, 1) := by decide +kernel
theorem d37_1 : decode jdk_29_method_69_code 1 = .ok (.iload_n 1, 1) := by decide +kernel
theorem d37_2 : decode jdk_29_method_69_code 2 = .ok (.if_icmp .gt 7, 3) := by decide +kernel
theorem d37_5 : decode jdk_29_method_69_code 5 = .ok (.iload_n 0, 1) := by decide +kernel
theorem d37_6 : decode jdk_29_method_69_code 6 = .ok (.goto 4, 3) := by decide +kernel
theorem d37_10 : decode jdk_29_method_69_code 10 = .ok (.ireturn, 1) := by decide +kernel
def Q_rm_min (Z : State) (h0 : Heap) (v : Option Value) (h : Heap) (L : List Loc) : Prop := v = some (.int (16 : Int32)) ∧ Fk h0.size [] L ∧ h = h0
set_option maxRecDepth 65536 in
set_option maxHeartbeats 40000000 in
theorem rm_min (l : Launch) (Z : State) (a0 : Array Value) (hw : ∀ d ∈ tables_1, d.before a0 Z = true) (ws : List Jvm.Cond) (h0 : Heap) (O0 : Old Z Z.heap.size h0) :
    Ctr l Z (⟨"java/lang/Math", "min", "(II)I"⟩ : MethodName) jdk_29_method_69_code 2 (some .int) ws ({ frames := 0, cells := 0, slots := 0, locals := 0 } : Room) #[(.int (16 : Int32)), (.int (34 : Int32))] h0 (Q_rm_min Z h0) := by
  refine Ctr.intro (Ls := fun _ => #[.val (.int (16 : Int32)), .val (.int (34 : Int32))]) pn9 (fun m => by first | rfl | (simp [entryFrame, mkF, argsToLocals, Value.category]; done)) ?_
  intro p e s m below meth c s₁ hx hby hml hr hlk hZ hown hnm hs0 X0 e0
  have w : ∀ (k : Nat) (d : Jvm.Cond), tables_1[k]? = some d → d.before a0 Z = true := fun k d q => hw d (List.mem_of_getElem? q)
  have N0 := Fk.nil h0.size []
  refine Wk.iloadN X0 hx (hb hby d37_0) rfl rfl ?_
  refine Wk.iloadN X0 hx (hb hby d37_1) rfl rfl ?_
  refine Wk.icmpNo X0 hx (hb hby d37_2) rfl (flt (by decide : ¬ ((34 : Int32) < (16 : Int32)))).2.2.1 ?_
  refine Wk.iloadN X0 hx (hb hby d37_5) rfl rfl ?_
  refine Wk.goto X0 hx (hb hby d37_6) (by decide) (q := 10) rfl ?_
  exact Wk.retI' X0 hx hlk hr (hb hby d37_10) (by decide) (by decide) (Qc := Q_rm_min Z h0) e0 ⟨rfl, N0, rfl⟩
theorem pn10 : plainName "java/util/Arrays" = true := by first | (simp [plainName, overriddenIn]; done) | decide +kernel
theorem d49_0 : decode jdk_65_method_121_code 0 = .ok (.iload_n 1, 1) := by decide +kernel
theorem d49_1 : decode jdk_65_method_121_code 1 = .ok (.aload_n 0, 1) := by decide +kernel
theorem d49_2 : decode jdk_65_method_121_code 2 = .ok (.arraylength, 1) := by decide +kernel
theorem d49_3 : decode jdk_65_method_121_code 3 = .ok (.if_icmp .ne 11, 3) := by decide +kernel
theorem d49_14 : decode jdk_65_method_121_code 14 = .ok (.iload_n 1, 1) := by decide +kernel
theorem d49_15 : decode jdk_65_method_121_code 15 = .ok (.newarray .byte, 2) := by decide +kernel
theorem d49_17 : decode jdk_65_method_121_code 17 = .ok (.astore_n 2, 1) := by decide +kernel
theorem d49_18 : decode jdk_65_method_121_code 18 = .ok (.aload_n 0, 1) := by decide +kernel
theorem d49_19 : decode jdk_65_method_121_code 19 = .ok (.iconst 0, 1) := by decide +kernel
theorem d49_20 : decode jdk_65_method_121_code 20 = .ok (.aload_n 2, 1) := by decide +kernel
theorem d49_21 : decode jdk_65_method_121_code 21 = .ok (.iconst 0, 1) := by decide +kernel
theorem d49_22 : decode jdk_65_method_121_code 22 = .ok (.aload_n 0, 1) := by decide +kernel
theorem d49_23 : decode jdk_65_method_121_code 23 = .ok (.arraylength, 1) := by decide +kernel
theorem d49_24 : decode jdk_65_method_121_code 24 = .ok (.iload_n 1, 1) := by decide +kernel
theorem d49_25 : decode jdk_65_method_121_code 25 = .ok (.invokestatic 304, 3) := by decide +kernel
theorem d49_28 : decode jdk_65_method_121_code 28 = .ok (.invokestatic 150, 3) := by decide +kernel
theorem d49_31 : decode jdk_65_method_121_code 31 = .ok (.aload_n 2, 1) := by decide +kernel
theorem d49_32 : decode jdk_65_method_121_code 32 = .ok (.areturn, 1) := by decide +kernel
def Q_rm_cpo (Z : State) (va : Addr) (kv : ClassId) (vs : List Value) (h0 : Heap) (v : Option Value) (h : Heap) (L : List Loc) : Prop := ∃ vb : Addr, ∃ kw : ClassId, v = some (.ref vb) ∧ Fk h0.size [] L ∧ Keep h0 h [] ∧ h0.size ≤ vb ∧ Exa Z h vb "[B" ∧ Arv Z h vb kw .byte (34 : Int32) (cpF vs (.int (0 : Int32)) (0 : Int32).toNatClampNeg [(.int (0 : Int32)), (.int (0 : Int32)), (.int (0 : Int32)), (.int (0 : Int32)), (.int (0 : Int32)), (.int (0 : Int32)), (.int (0 : Int32)), (.int (0 : Int32)), (.int (0 : Int32)), (.int (0 : Int32)), (.int (0 : Int32)), (.int (0 : Int32)), (.int (0 : Int32)), (.int (0 : Int32)), (.int (0 : Int32)), (.int (0 : Int32)), (.int (0 : Int32)), (.int (0 : Int32)), (.int (0 : Int32)), (.int (0 : Int32)), (.int (0 : Int32)), (.int (0 : Int32)), (.int (0 : Int32)), (.int (0 : Int32)), (.int (0 : Int32)), (.int (0 : Int32)), (.int (0 : Int32)), (.int (0 : Int32)), (.int (0 : Int32)), (.int (0 : Int32)), (.int (0 : Int32)), (.int (0 : Int32)), (.int (0 : Int32)), (.int (0 : Int32))] (.int (0 : Int32)) (0 : Int32).toNatClampNeg (16 : Int32).toNatClampNeg (34 : Int32).toNatClampNeg) (.int (0 : Int32))
set_option maxRecDepth 65536 in
set_option maxHeartbeats 40000000 in
theorem rm_cpo (l : Launch) (Z : State) (a0 : Array Value) (hw : ∀ d ∈ tables_1, d.before a0 Z = true) (ws : List Jvm.Cond) (va : Addr) (kv : ClassId) (vs : List Value) (h0 : Heap) (O0 : Old Z Z.heap.size h0) (pv : Arv Z h0 va kv .byte (16 : Int32) vs (.int (0 : Int32))) :
    Ctr l Z (⟨"java/util/Arrays", "copyOf", "([BI)[B"⟩ : MethodName) jdk_65_method_121_code 3 (some (.array .byte)) ws ({ frames := 1, cells := 1, slots := 34, locals := 18 } : Room) #[(.ref va), (.int (34 : Int32))] h0 (Q_rm_cpo Z va kv vs h0) := by
  refine Ctr.intro (Ls := fun _ => #[.val (.ref va), .val (.int (34 : Int32)), .unset]) (plainFor_of_name pn10) (fun m => by first | rfl | (simp [entryFrame, mkF, argsToLocals, Value.category]; done)) ?_
  intro p e s m below meth c s₁ hx hby hml hr hlk hZ hown hnm hs0 X0 e0
  have w : ∀ (k : Nat) (d : Jvm.Cond), tables_1[k]? = some d → d.before a0 Z = true := fun k d q => hw d (List.mem_of_getElem? q)
  have N0 := Fk.nil h0.size []
  refine Wk.iloadN X0 hx (hb hby d49_0) rfl rfl ?_
  refine Wk.aloadN X0 hx (hb hby d49_1) rfl rfl rfl ?_
  refine Wk.arraylength X0 hx hZ e0 pv (hb hby d49_2) rfl ?_
  refine Wk.icmpYes X0 hx (hb hby d49_3) (by decide) (q := 14) rfl (feq (by decide : ¬ ((34 : Int32) = (16 : Int32)))).2 ?_
  refine Wk.iloadN X0 hx (hb hby d49_14) rfl rfl ?_
  refine Wk.newarrayE X0 hx hZ (w 29 _ rfl) e0 (hb hby d49_15) rfl (by decide) 34 (by decide) (by decide) (by decide) (by decide) (ad := "[B") (by decide) ?_
  intro T1 h1 a1 kA1 g1 X1 e1 E1 A1 Ea1
  have O2 : Old Z Z.heap.size h1 := O0.ext E1
  have V1 : Arv Z h1 a1 kA1 .byte (34 : Int32) [(.int (0 : Int32)), (.int (0 : Int32)), (.int (0 : Int32)), (.int (0 : Int32)), (.int (0 : Int32)), (.int (0 : Int32)), (.int (0 : Int32)), (.int (0 : Int32)), (.int (0 : Int32)), (.int (0 : Int32)), (.int (0 : Int32)), (.int (0 : Int32)), (.int (0 : Int32)), (.int (0 : Int32)), (.int (0 : Int32)), (.int (0 : Int32)), (.int (0 : Int32)), (.int (0 : Int32)), (.int (0 : Int32)), (.int (0 : Int32)), (.int (0 : Int32)), (.int (0 : Int32)), (.int (0 : Int32)), (.int (0 : Int32)), (.int (0 : Int32)), (.int (0 : Int32)), (.int (0 : Int32)), (.int (0 : Int32)), (.int (0 : Int32)), (.int (0 : Int32)), (.int (0 : Int32)), (.int (0 : Int32)), (.int (0 : Int32)), (.int (0 : Int32))] (.int (0 : Int32)) := A1.pad (pad_rep [] (.int (0 : Int32)) 34)
  refine Wk.astoreN X1 hx (Ls' := #[.val (.ref va), .val (.int (34 : Int32)), .val (.ref a1)]) (hb hby d49_17) rfl rfl rfl ?_
  refine Wk.aloadN X1 hx (hb hby d49_18) rfl rfl rfl ?_
  refine Wk.iconst X1 hx (v := (0 : Int32)) (hb hby d49_19) rfl rfl ?_
  refine Wk.aloadN X1 hx (hb hby d49_20) rfl rfl rfl ?_
  refine Wk.iconst X1 hx (v := (0 : Int32)) (hb hby d49_21) rfl rfl ?_
  refine Wk.aloadN X1 hx (hb hby d49_22) rfl rfl rfl ?_
  have KK3 : Keep h0 h1 [] := ((Keep.refl h0 []).ext E1)
  have f4 := (pv.keep KK3 nin0)
  refine Wk.arraylength X1 hx hZ e1 f4 (hb hby d49_23) rfl ?_
  refine Wk.iloadN X1 hx (hb hby d49_24) rfl rfl ?_
  refine Wk.callS X1 hx hZ hown (w 199 _ rfl) (w 200 _ rfl) (w 201 _ rfl) (w 202 _ rfl) (by decide) (as' := [(.int (16 : Int32)), (.int (34 : Int32))]) (backOf (W := 4) (rm_min l Z a0 hw [] h1 O2) hZ (w 202 _ rfl) (w 201 _ rfl) (by decide) (by decide)) e1 (by rw [hml]; rfl) (rest := [(.int (0 : Int32)), (.ref a1), (.int (0 : Int32)), (.ref va)]) (lenOf pd7 rfl) rfl (Nat.le_of_eq rfl) (hb hby d49_25) rfl (by decide) (by decide) ?_
  intro T5 h5 v5 L5 X5 e5 hQ5
  obtain ⟨rfl, Nq5, K5⟩ := hQ5
  have N5 := Fk.app N0 Nq5 KK3.1 all0
  rw [K5] at e5
  show Wp p e below _ _ T5 (mkF m 28 #[.val (.ref va), .val (.int (34 : Int32)), .val (.ref a1)] [(.int (16 : Int32)), (.int (0 : Int32)), (.ref a1), (.int (0 : Int32)), (.ref va)])
  refine Wk.cpB X5 hx hZ hown (w 203 _ rfl) (w 138 _ rfl) (w 136 _ rfl) (w 137 _ rfl) e5 f4 V1 (by decide) (by decide) (by decide) (by decide) (by decide) (by rw [hml]; rfl) (hb hby d49_28) rfl (by decide) 0 (Nat.le_of_eq rfl) (by decide) ?_
  intro T6 h6 L6 M6 X6 e6 K6 V6
  have N6 := M6 _ _ N5 (Or.inr (Nat.le_of_eq g1))
  have O7 : Old Z Z.heap.size h6 := O2.keep K6 (allS (Nat.le_trans (Nat.le_trans (Nat.le_trans (Nat.le_of_eq O0.1.symm) O0.2.1) (Keep.refl h0 []).1) (Nat.le_of_eq g1)) all0)
  have Vl6 : Arv Z h6 a1 kA1 .byte (34 : Int32) (cpF vs (.int (0 : Int32)) (0 : Int32).toNatClampNeg [(.int (0 : Int32)), (.int (0 : Int32)), (.int (0 : Int32)), (.int (0 : Int32)), (.int (0 : Int32)), (.int (0 : Int32)), (.int (0 : Int32)), (.int (0 : Int32)), (.int (0 : Int32)), (.int (0 : Int32)), (.int (0 : Int32)), (.int (0 : Int32)), (.int (0 : Int32)), (.int (0 : Int32)), (.int (0 : Int32)), (.int (0 : Int32)), (.int (0 : Int32)), (.int (0 : Int32)), (.int (0 : Int32)), (.int (0 : Int32)), (.int (0 : Int32)), (.int (0 : Int32)), (.int (0 : Int32)), (.int (0 : Int32)), (.int (0 : Int32)), (.int (0 : Int32)), (.int (0 : Int32)), (.int (0 : Int32)), (.int (0 : Int32)), (.int (0 : Int32)), (.int (0 : Int32)), (.int (0 : Int32)), (.int (0 : Int32)), (.int (0 : Int32))] (.int (0 : Int32)) (0 : Int32).toNatClampNeg (16 : Int32).toNatClampNeg (34 : Int32).toNatClampNeg) (.int (0 : Int32)) := V6
  refine Wk.aloadN X6 hx (hb hby d49_31) rfl rfl rfl ?_
  have KK8 : Keep h0 h6 [] := (KK3.trans K6 (allS (Or.inr (Nat.le_of_eq g1)) all0))
  have KK9 : Keep h1 h6 [a1] := ((Keep.refl h1 [a1]).trans K6 (allS (Or.inl (List.mem_of_getElem? (i := 0) rfl)) all0))
  have f10 : Exa Z h6 a1 "[B" := (Ea1.keep KK9)
  exact Wk.retA' X6 hx hlk hr rfl rfl (hb hby d49_32) (by decide) (by decide) (Qc := Q_rm_cpo Z va kv vs h0) e6 ⟨a1, kA1, rfl, N6, KK8, (Nat.le_of_eq g1), f10, Vl6⟩
theorem d19_17 : decode jdk_68_method_9_code 17 = .ok (.aload_n 0, 1) := by decide +kernel
theorem d19_18 : decode jdk_68_method_9_code 18 = .ok (.aload_n 0, 1) := by decide +kernel
theorem d19_19 : decode jdk_68_method_9_code 19 = .ok (.getfield 15, 3) := by decide +kernel
theorem d19_22 : decode jdk_68_method_9_code 22 = .ok (.aload_n 0, 1) := by decide +kernel
theorem d19_23 : decode jdk_68_method_9_code 23 = .ok (.iload_n 1, 1) := by decide +kernel
theorem d19_24 : decode jdk_68_method_9_code 24 = .ok (.invokevirtual 104, 3) := by decide +kernel
theorem pd11 : parseMethodDescriptor "(I)I" = some ⟨[.int], some .int⟩ := by decide +kernel
theorem d19_27 : decode jdk_68_method_9_code 27 = .ok (.aload_n 0, 1) := by decide +kernel
theorem d19_28 : decode jdk_68_method_9_code 28 = .ok (.getfield 22, 3) := by decide +kernel
theorem d19_31 : decode jdk_68_method_9_code 31 = .ok (.ishl, 1) := by decide +kernel
theorem d19_32 : decode jdk_68_method_9_code 32 = .ok (.invokestatic 108, 3) := by decide +kernel
theorem pd12 : parseMethodDescriptor "([BI)[B" = some ⟨[(.array .byte), .int], some (.array .byte)⟩ := by decide +kernel
theorem d19_35 : decode jdk_68_method_9_code 35 = .ok (.putfield 15, 3) := by decide +kernel
def Q_rm_ensB (Z : State) (sb : Addr) (va : Addr) (kv : ClassId) (cnt : Int32) (vs : List Value) (mc : Int32) (h0 : Heap) (v : Option Value) (h : Heap) (L : List Loc) : Prop := ∃ vb : Addr, ∃ kw : ClassId, v = none ∧ Fk h0.size [sb] L ∧ Keep h0 h [sb] ∧ h0.size ≤ vb ∧ Exa Z h sb "java/lang/StringBuilder" ∧ Fld Z h sb "java/lang/AbstractStringBuilder" "value" "[B" (.ref vb) ∧ Fld Z h sb "java/lang/AbstractStringBuilder" "coder" "B" (.int (0 : Int32)) ∧ Fld Z h sb "java/lang/AbstractStringBuilder" "count" "I" (.int cnt) ∧ Exa Z h vb "[B" ∧ Arv Z h vb kw .byte (34 : Int32) (cpF vs (.int (0 : Int32)) (0 : Int32).toNatClampNeg [(.int (0 : Int32)), (.int (0 : Int32)), (.int (0 : Int32)), (.int (0 : Int32)), (.int (0 : Int32)), (.int (0 : Int32)), (.int (0 : Int32)), (.int (0 : Int32)), (.int (0 : Int32)), (.int (0 : Int32)), (.int (0 : Int32)), (.int (0 : Int32)), (.int (0 : Int32)), (.int (0 : Int32)), (.int (0 : Int32)), (.int (0 : Int32)), (.int (0 : Int32)), (.int (0 : Int32)), (.int (0 : Int32)), (.int (0 : Int32)), (.int (0 : Int32)), (.int (0 : Int32)), (.int (0 : Int32)), (.int (0 : Int32)), (.int (0 : Int32)), (.int (0 : Int32)), (.int (0 : Int32)), (.int (0 : Int32)), (.int (0 : Int32)), (.int (0 : Int32)), (.int (0 : Int32)), (.int (0 : Int32)), (.int (0 : Int32)), (.int (0 : Int32))] (.int (0 : Int32)) (0 : Int32).toNatClampNeg (16 : Int32).toNatClampNeg (34 : Int32).toNatClampNeg) (.int (0 : Int32))
set_option maxRecDepth 65536 in
set_option maxHeartbeats 40000000 in
theorem rm_ensB (l : Launch) (Z : State) (a0 : Array Value) (hw : ∀ d ∈ tables_1, d.before a0 Z = true) (ws : List Jvm.Cond) (sb : Addr) (va : Addr) (kv : ClassId) (cnt : Int32) (vs : List Value) (mc : Int32) (h0 : Heap) (O0 : Old Z Z.heap.size h0) (pb0_ : Exa Z h0 sb "java/lang/StringBuilder") (pb1_ : Fld Z h0 sb "java/lang/AbstractStringBuilder" "value" "[B" (.ref va)) (pb2_ : Fld Z h0 sb "java/lang/AbstractStringBuilder" "coder" "B" (.int (0 : Int32))) (pb3_ : Fld Z h0 sb "java/lang/AbstractStringBuilder" "count" "I" (.int cnt)) (pb4_ : Exa Z h0 va "[B") (pb5_ : Arv Z h0 va kv .byte (16 : Int32) vs (.int (0 : Int32))) (hG : (0 : Int32) < (mc - (16 : Int32))) (h18 : ¬ ((18 : Int32) < (mc - (16 : Int32)))) (hsb : Z.heap.size ≤ sb) :
    Ctr l Z (⟨"java/lang/AbstractStringBuilder", "ensureCapacityInternal", "(I)V"⟩ : MethodName) jdk_68_method_9_code 3 none ws ({ frames := 3, cells := 1, slots := 34, locals := 48 } : Room) #[(.ref sb), (.int mc)] h0 (Q_rm_ensB Z sb va kv cnt vs mc h0) := by
  refine Ctr.intro (Ls := fun _ => #[.val (.ref sb), .val (.int mc), .unset]) (plainFor_of_name pn2) (fun m => by first | rfl | (simp [entryFrame, mkF, argsToLocals, Value.category]; done)) ?_
  intro p e s m below meth c s₁ hx hby hml hr hlk hZ hown hnm hs0 X0 e0
  have w : ∀ (k : Nat) (d : Jvm.Cond), tables_1[k]? = some d → d.before a0 Z = true := fun k d q => hw d (List.mem_of_getElem? q)
  have N0 := Fk.nil h0.size [sb]
  refine Wk.aloadN X0 hx (hb hby d19_0) rfl rfl rfl ?_
  refine Wk.getfield X0 hx hZ hown (host := "") (Or.inl (w 88 _ rfl)) Via.refl e0 pb1_ (hb hby d19_1) rfl ?_
  intro T1 X1 e1
  refine Wk.arraylength X1 hx hZ e1 pb5_ (hb hby d19_4) rfl ?_
  refine Wk.aloadN X1 hx (hb hby d19_5) rfl rfl rfl ?_
  refine Wk.getfield X1 hx hZ hown (host := "") (Or.inl (w 90 _ rfl)) Via.refl e1 pb2_ (hb hby d19_6) rfl ?_
  intro T2 X2 e2
  refine Wk.ishr X2 hx (hb hby d19_9) rfl ?_
  rw [(by decide : (((16 : Int32) >>> ((0 : Int32) &&& 31)) : Int32) = (16 : Int32))]
  refine Wk.istoreN X2 hx (Ls' := #[.val (.ref sb), .val (.int mc), .val (.int (16 : Int32))]) (hb hby d19_10) rfl rfl ?_
  refine Wk.iloadN X2 hx (hb hby d19_11) rfl rfl ?_
  refine Wk.iloadN X2 hx (hb hby d19_12) rfl rfl ?_
  refine Wk.isub X2 hx (hb hby d19_13) rfl ?_
  refine Wk.ifNo X2 hx (hb hby d19_14) rfl ((if0 _ _).trans (tlt hG).2.2.2) ?_
  refine Wk.aloadN X2 hx (hb hby d19_17) rfl rfl rfl ?_
  refine Wk.aloadN X2 hx (hb hby d19_18) rfl rfl rfl ?_
  refine Wk.getfield X2 hx hZ hown (host := "") (Or.inl (w 88 _ rfl)) Via.refl e2 pb1_ (hb hby d19_19) rfl ?_
  intro T3 X3 e3
  refine Wk.aloadN X3 hx (hb hby d19_22) rfl rfl rfl ?_
  refine Wk.iloadN X3 hx (hb hby d19_23) rfl rfl ?_
  refine Wk.callV X3 hx hZ (y := (⟨"java/lang/AbstractStringBuilder", "newCapacity", "(I)I"⟩ : MethodName)) (z := (⟨"java/lang/AbstractStringBuilder", "newCapacity", "(I)I"⟩ : MethodName)) hown (w 241 _ rfl) (declOf (w 242 _ rfl) (w 245 _ rfl)) (notFace_of_selects (args := #[]) (mvT hZ (w 244 _ rfl))) (w 244 _ rfl) (w 242 _ rfl) (by decide) (as' := [(.int mc)]) (backOf (W := 2) (rm_ncap l Z a0 hw [] sb va kv cnt vs mc h0 O0 pb0_ pb1_ pb2_ pb3_ pb4_ pb5_ hG h18) hZ (w 245 _ rfl) (w 84 _ rfl) (by decide) (by decide)) e3 pb0_ (by rw [hml]; rfl) (rest := [(.ref va), (.ref sb)]) (lenOf pd11 rfl) rfl (Nat.le_of_eq rfl) (hb hby d19_24) rfl (by decide) (by decide) ?_
  intro T4 h4 v4 L4 X4 e4 hQ4
  obtain ⟨rfl, Nq4, K4⟩ := hQ4
  have N4 := Fk.app N0 Nq4 (Nat.le_refl _) all0
  rw [K4] at e4
  show Wp p e below _ _ T4 (mkF m 27 #[.val (.ref sb), .val (.int mc), .val (.int (16 : Int32))] [(.int (34 : Int32)), (.ref va), (.ref sb)])
  refine Wk.aloadN X4 hx (hb hby d19_27) rfl rfl rfl ?_
  refine Wk.getfield X4 hx hZ hown (host := "") (Or.inl (w 90 _ rfl)) Via.refl e4 pb2_ (hb hby d19_28) rfl ?_
  intro T5 X5 e5
  refine Wk.ishl X5 hx (hb hby d19_31) rfl ?_
  rw [(by decide : (((34 : Int32) <<< ((0 : Int32) &&& 31)) : Int32) = (34 : Int32))]
  refine Wk.callS X5 hx hZ hown (w 255 _ rfl) (w 256 _ rfl) (w 191 _ rfl) (w 257 _ rfl) (by decide) (as' := [(.ref va), (.int (34 : Int32))]) (backOf (W := 1) (rm_cpo l Z a0 hw [] va kv vs h0 O0 pb5_) hZ (w 257 _ rfl) (w 191 _ rfl) (by decide) (by decide)) e5 (by rw [hml]; rfl) (rest := [(.ref sb)]) (lenOf pd12 rfl) rfl (Nat.le_of_eq rfl) (hb hby d19_32) rfl (by decide) (by decide) ?_
  intro T6 h6 v6 L6 X6 e6 hQ6
  obtain ⟨vb6, kw6, rfl, Nq6, K6, q6_0, q6_1, q6_2⟩ := hQ6
  have N6 := Fk.app N4 Nq6 (Nat.le_refl _) all0
  have O7 : Old Z Z.heap.size h6 := O0.keep K6 all0
  show Wp p e below _ _ T6 (mkF m 35 #[.val (.ref sb), .val (.int mc), .val (.int (16 : Int32))] [(.ref vb6), (.ref sb)])
  have KK8 : Keep h0 h6 [] := ((Keep.refl h0 []).trans K6 all0)
  have f9 : Exa Z h6 sb "java/lang/StringBuilder" := (pb0_.keep KK8)
  have f10 : Fld Z h6 sb "java/lang/AbstractStringBuilder" "value" "[B" (.ref va) := (pb1_.keep KK8 nin0)
  have f12 : Fld Z h6 sb "java/lang/AbstractStringBuilder" "coder" "B" (.int (0 : Int32)) := (pb2_.keep KK8 nin0)
  have f13 : Fld Z h6 sb "java/lang/AbstractStringBuilder" "count" "I" (.int cnt) := (pb3_.keep KK8 nin0)
  refine Wk.putfield X6 hx hZ hown (host := "") (Or.inl (w 88 _ rfl)) Via.refl e6 f10 f9 (Or.inl (w 89 _ rfl)) (w 75 _ rfl) (ty := (.array .byte)) (by decide) rfl rfl (hb hby d19_35) rfl ?_
  intro T11 h11 L11 M11 X11 e11 W11 Fw11
  have N11 := M11 _ _ N6 (Or.inl (List.mem_of_getElem? (i := 0) rfl))
  have O14 : Old Z Z.heap.size h11 := O7.wr W11 hsb
  have f15 : Fld Z h11 sb "java/lang/AbstractStringBuilder" "coder" "B" (.int (0 : Int32)) := f12.other W11 (Or.inr (slot_ne (Or.inl (w 91 _ rfl)) (Or.inl (w 89 _ rfl)) (by decide) (t := .byte) (t' := (.array .byte)) (by decide) (by decide)))
  have f16 : Fld Z h11 sb "java/lang/AbstractStringBuilder" "count" "I" (.int cnt) := f13.other W11 (Or.inr (slot_ne (Or.inl (w 113 _ rfl)) (Or.inl (w 89 _ rfl)) (by decide) (t := .int) (t' := (.array .byte)) (by decide) (by decide)))
  have E11' : Exa Z h11 sb "java/lang/StringBuilder" := f9.wr W11
  have KK17 : Keep h0 h11 [sb] := (((Keep.refl h0 [sb]).trans K6 all0).wr W11 (Or.inl (List.mem_of_getElem? (i := 0) rfl)))
  have KK18 : Keep h6 h11 [sb] := ((Keep.refl h6 [sb]).wr W11 (Or.inl (List.mem_of_getElem? (i := 0) rfl)))
  have f19 : Exa Z h11 vb6 "[B" := (q6_1.keep KK18)
  have f20 := (q6_2.keep KK18 (ninS (Ne.symm (Nat.ne_of_lt (Nat.lt_of_lt_of_le pb2_.lt q6_0))) nin0))
  exact Wk.ret0' X11 hx hlk hr (hb hby d19_38) (by decide) (by decide) (Qc := Q_rm_ensB Z sb va kv cnt vs mc h0) e11 ⟨vb6, kw6, rfl, N11, KK17, q6_0, E11', Fw11, f15, f16, f19, f20⟩
theorem d21_0 : decode jdk_68_method_71_code 0 = .ok (.getstatic 18, 3) := by decide +kernel
theorem d21_3 : decode jdk_68_method_71_code 3 = .ok (.ifCond .eq 18, 3) := by decide +kernel
theorem d21_6 : decode jdk_68_method_71_code 6 = .ok (.aload_n 0, 1) := by decide +kernel
theorem d21_7 : decode jdk_68_method_71_code 7 = .ok (.getfield 22, 3) := by decide +kernel
theorem d21_10 : decode jdk_68_method_71_code 10 = .ok (.aload_n 1, 1) := by decide +kernel
theorem d21_11 : decode jdk_68_method_71_code 11 = .ok (.invokevirtual 40, 3) := by decide +kernel
theorem d21_14 : decode jdk_68_method_71_code 14 = .ok (.if_icmp .eq 7, 3) := by decide +kernel
theorem d21_21 : decode jdk_68_method_71_code 21 = .ok (.return_, 1) := by decide +kernel
def Q_rm_inf (Z : State) (sb : Addr) (va : Addr) (kv : ClassId) (cap : Int32) (cnt : Int32) (vs : List Value) (x : Addr) (t : Addr) (kb : ClassId) (nn : Int32) (us : List Value) (G1 : Int32) (h0 : Heap) (v : Option Value) (h : Heap) (L : List Loc) : Prop := v = none ∧ Fk h0.size [] L ∧ h = h0
set_option maxRecDepth 65536 in
set_option maxHeartbeats 40000000 in
theorem rm_inf (l : Launch) (Z : State) (a0 : Array Value) (hw : ∀ d ∈ tables_1, d.before a0 Z = true) (ws : List Jvm.Cond) (sb : Addr) (va : Addr) (kv : ClassId) (cap : Int32) (cnt : Int32) (vs : List Value) (x : Addr) (t : Addr) (kb : ClassId) (nn : Int32) (us : List Value) (G1 : Int32) (h0 : Heap) (O0 : Old Z Z.heap.size h0) (SG1 : Sta Z Z.heap "java/lang/String" "COMPACT_STRINGS" "Z" (.int G1)) (nG1 : ¬ G1 = 0) (pb0_ : Exa Z h0 sb "java/lang/StringBuilder") (pb1_ : Fld Z h0 sb "java/lang/AbstractStringBuilder" "value" "[B" (.ref va)) (pb2_ : Fld Z h0 sb "java/lang/AbstractStringBuilder" "coder" "B" (.int (0 : Int32))) (pb3_ : Fld Z h0 sb "java/lang/AbstractStringBuilder" "count" "I" (.int cnt)) (pb4_ : Exa Z h0 va "[B") (pb5_ : Arv Z h0 va kv .byte cap vs (.int (0 : Int32))) (pp0_ : Exa Z h0 x "java/lang/String") (pp1_ : Fld Z h0 x "java/lang/String" "coder" "B" (.int (0 : Int32))) (pp2_ : Fld Z h0 x "java/lang/String" "value" "[B" (.ref t)) (pp3_ : Arv Z h0 t kb .byte nn us (.int (0 : Int32))) :
    Ctr l Z (⟨"java/lang/AbstractStringBuilder", "inflateIfNeededFor", "(Ljava/lang/String;)V"⟩ : MethodName) jdk_68_method_71_code 2 none ws ({ frames := 1, cells := 0, slots := 0, locals := 13 } : Room) #[(.ref sb), (.ref x)] h0 (Q_rm_inf Z sb va kv cap cnt vs x t kb nn us G1 h0) := by
  refine Ctr.intro (Ls := fun _ => #[.val (.ref sb), .val (.ref x)]) (plainFor_of_name pn2) (fun m => by first | rfl | (simp [entryFrame, mkF, argsToLocals, Value.category]; done)) ?_
  intro p e s m below meth c s₁ hx hby hml hr hlk hZ hown hnm hs0 X0 e0
  have w : ∀ (k : Nat) (d : Jvm.Cond), tables_1[k]? = some d → d.before a0 Z = true := fun k d q => hw d (List.mem_of_getElem? q)
  have N0 := Fk.nil h0.size []
  refine Wk.getstatic X0 hx hZ hown (host := "") (Or.inl (w 87 _ rfl)) Via.refl e0 (SG1.ext O0.2) (hb hby d21_0) rfl ?_
  intro T1 X1 e1
  refine Wk.ifNo X1 hx (hb hby d21_3) rfl ((if0 _ _).trans (feq nG1).1) ?_
  refine Wk.aloadN X1 hx (hb hby d21_6) rfl rfl rfl ?_
  refine Wk.getfield X1 hx hZ hown (host := "") (Or.inl (w 90 _ rfl)) Via.refl e1 pb2_ (hb hby d21_7) rfl ?_
  intro T2 X2 e2
  refine Wk.aloadN X2 hx (hb hby d21_10) rfl rfl rfl ?_
  refine Wk.callV X2 hx hZ (y := (⟨"java/lang/String", "coder", "()B"⟩ : MethodName)) (z := (⟨"java/lang/String", "coder", "()B"⟩ : MethodName)) hown (w 129 _ rfl) (w 108 _ rfl) (notFace_of_selects (args := #[]) (mvT hZ (w 110 _ rfl))) (w 110 _ rfl) (w 109 _ rfl) (by decide) (as' := []) (backOf (W := 1) (rm_cod l Z a0 hw [] x G1 h0 O0 SG1 nG1 pp1_) hZ (w 111 _ rfl) (w 13 _ rfl) (by decide) (by decide)) e2 pp0_ (by rw [hml]; rfl) (rest := [(.int (0 : Int32))]) (lenOf pd1 rfl) rfl (Nat.le_of_eq rfl) (hb hby d21_11) rfl (by decide) (by decide) ?_
  intro T3 h3 v3 L3 X3 e3 hQ3
  obtain ⟨rfl, Nq3, K3⟩ := hQ3
  have N3 := Fk.app N0 Nq3 (Nat.le_refl _) all0
  rw [K3] at e3
  show Wp p e below _ _ T3 (mkF m 14 #[.val (.ref sb), .val (.ref x)] [(.int (0 : Int32)), (.int (0 : Int32))])
  refine Wk.icmpYes X3 hx (hb hby d21_14) (by decide) (q := 21) rfl (teq (by decide : (0 : Int32) = (0 : Int32))).1 ?_
  exact Wk.ret0' X3 hx hlk hr (hb hby d21_21) (by decide) (by decide) (Qc := Q_rm_inf Z sb va kv cap cnt vs x t kb nn us G1 h0) e3 ⟨rfl, N3, rfl⟩
theorem d20_0 : decode jdk_68_method_73_code 0 = .ok (.aload_n 0, 1) := by decide +kernel
theorem d20_1 : decode jdk_68_method_73_code 1 = .ok (.aload_n 2, 1) := by decide +kernel
theorem d20_2 : decode jdk_68_method_73_code 2 = .ok (.invokevirtual 397, 3) := by decide +kernel
theorem pd13 : parseMethodDescriptor "(Ljava/lang/String;)V" = some ⟨[(.object "java/lang/String")], none⟩ := by decide +kernel
theorem d20_5 : decode jdk_68_method_73_code 5 = .ok (.aload_n 2, 1) := by decide +kernel
theorem d20_6 : decode jdk_68_method_73_code 6 = .ok (.aload_n 0, 1) := by decide +kernel
theorem d20_7 : decode jdk_68_method_73_code 7 = .ok (.getfield 15, 3) := by decide +kernel
theorem d20_10 : decode jdk_68_method_73_code 10 = .ok (.iload_n 1, 1) := by decide +kernel
theorem d20_11 : decode jdk_68_method_73_code 11 = .ok (.aload_n 0, 1) := by decide +kernel
theorem d20_12 : decode jdk_68_method_73_code 12 = .ok (.getfield 22, 3) := by decide +kernel
theorem d20_15 : decode jdk_68_method_73_code 15 = .ok (.invokevirtual 399, 3) := by decide +kernel
theorem pd14 : parseMethodDescriptor "([BIB)V" = some ⟨[(.array .byte), .int, .byte], none⟩ := by decide +kernel
theorem d20_18 : decode jdk_68_method_73_code 18 = .ok (.return_, 1) := by decide +kernel
def Q_rm_psa (Z : State) (sb : Addr) (va : Addr) (kv : ClassId) (cap : Int32) (cnt : Int32) (vs : List Value) (x : Addr) (t : Addr) (kb : ClassId) (nn : Int32) (us : List Value) (G1 : Int32) (h0 : Heap) (v : Option Value) (h : Heap) (L : List Loc) : Prop := v = none ∧ Fk h0.size [va] L ∧ Keep h0 h [va] ∧ Arv Z h va kv .byte cap (cpF us (.int (0 : Int32)) (0 : Int32).toNatClampNeg vs (.int (0 : Int32)) cnt.toNatClampNeg nn.toNatClampNeg cap.toNatClampNeg) (.int (0 : Int32))
set_option maxRecDepth 65536 in
set_option maxHeartbeats 40000000 in
theorem rm_psa (l : Launch) (Z : State) (a0 : Array Value) (hw : ∀ d ∈ tables_1, d.before a0 Z = true) (ws : List Jvm.Cond) (sb : Addr) (va : Addr) (kv : ClassId) (cap : Int32) (cnt : Int32) (vs : List Value) (x : Addr) (t : Addr) (kb : ClassId) (nn : Int32) (us : List Value) (G1 : Int32) (h0 : Heap) (O0 : Old Z Z.heap.size h0) (SG1 : Sta Z Z.heap "java/lang/String" "COMPACT_STRINGS" "Z" (.int G1)) (nG1 : ¬ G1 = 0) (pb0_ : Exa Z h0 sb "java/lang/StringBuilder") (pb1_ : Fld Z h0 sb "java/lang/AbstractStringBuilder" "value" "[B" (.ref va)) (pb2_ : Fld Z h0 sb "java/lang/AbstractStringBuilder" "coder" "B" (.int (0 : Int32))) (pb3_ : Fld Z h0 sb "java/lang/AbstractStringBuilder" "count" "I" (.int cnt)) (pb4_ : Exa Z h0 va "[B") (pb5_ : Arv Z h0 va kv .byte cap vs (.int (0 : Int32))) (pp0_ : Exa Z h0 x "java/lang/String") (pp1_ : Fld Z h0 x "java/lang/String" "coder" "B" (.int (0 : Int32))) (pp2_ : Fld Z h0 x "java/lang/String" "value" "[B" (.ref t)) (pp3_ : Arv Z h0 t kb .byte nn us (.int (0 : Int32))) (c0_ : ¬ cnt < 0) (c1_ : ¬ nn < 0) (c2_ : cnt.toNatClampNeg + nn.toNatClampNeg ≤ cap.toNatClampNeg) (hva : Z.heap.size ≤ va) :
    Ctr l Z (⟨"java/lang/AbstractStringBuilder", "putStringAt", "(ILjava/lang/String;)V"⟩ : MethodName) jdk_68_method_73_code 3 none ws ({ frames := 2, cells := 0, slots := 0, locals := 33 } : Room) #[(.ref sb), (.int cnt), (.ref x)] h0 (Q_rm_psa Z sb va kv cap cnt vs x t kb nn us G1 h0) := by
  refine Ctr.intro (Ls := fun _ => #[.val (.ref sb), .val (.int cnt), .val (.ref x)]) (plainFor_of_name pn2) (fun m => by first | rfl | (simp [entryFrame, mkF, argsToLocals, Value.category]; done)) ?_
  intro p e s m below meth c s₁ hx hby hml hr hlk hZ hown hnm hs0 X0 e0
  have w : ∀ (k : Nat) (d : Jvm.Cond), tables_1[k]? = some d → d.before a0 Z = true := fun k d q => hw d (List.mem_of_getElem? q)
  have N0 := Fk.nil h0.size [va]
  refine Wk.aloadN X0 hx (hb hby d20_0) rfl rfl rfl ?_
  refine Wk.aloadN X0 hx (hb hby d20_1) rfl rfl rfl ?_
  refine Wk.callV X0 hx hZ (y := (⟨"java/lang/AbstractStringBuilder", "inflateIfNeededFor", "(Ljava/lang/String;)V"⟩ : MethodName)) (z := (⟨"java/lang/AbstractStringBuilder", "inflateIfNeededFor", "(Ljava/lang/String;)V"⟩ : MethodName)) hown (w 124 _ rfl) (declOf (w 125 _ rfl) (w 128 _ rfl)) (notFace_of_selects (args := #[]) (mvT hZ (w 127 _ rfl))) (w 127 _ rfl) (w 125 _ rfl) (by decide) (as' := [(.ref x)]) (backOf (W := 0) (rm_inf l Z a0 hw [] sb va kv cap cnt vs x t kb nn us G1 h0 O0 SG1 nG1 pb0_ pb1_ pb2_ pb3_ pb4_ pb5_ pp0_ pp1_ pp2_ pp3_) hZ (w 128 _ rfl) (w 84 _ rfl) (by decide) (by decide)) e0 pb0_ (by rw [hml]; rfl) (rest := []) (lenOf pd13 rfl) rfl (Nat.le_of_eq rfl) (hb hby d20_2) rfl (by decide) (by decide) ?_
  intro T1 h1 v1 L1 X1 e1 hQ1
  obtain ⟨rfl, Nq1, K1⟩ := hQ1
  have N1 := Fk.app N0 Nq1 (Nat.le_refl _) all0
  rw [K1] at e1
  show Wp p e below _ _ T1 (mkF m 5 #[.val (.ref sb), .val (.int cnt), .val (.ref x)] [])
  refine Wk.aloadN X1 hx (hb hby d20_5) rfl rfl rfl ?_
  refine Wk.aloadN X1 hx (hb hby d20_6) rfl rfl rfl ?_
  refine Wk.getfield X1 hx hZ hown (host := "") (Or.inl (w 88 _ rfl)) Via.refl e1 pb1_ (hb hby d20_7) rfl ?_
  intro T2 X2 e2
  refine Wk.iloadN X2 hx (hb hby d20_10) rfl rfl ?_
  refine Wk.aloadN X2 hx (hb hby d20_11) rfl rfl rfl ?_
  refine Wk.getfield X2 hx hZ hown (host := "") (Or.inl (w 90 _ rfl)) Via.refl e2 pb2_ (hb hby d20_12) rfl ?_
  intro T3 X3 e3
  refine Wk.callV X3 hx hZ (y := (⟨"java/lang/String", "getBytes", "([BIB)V"⟩ : MethodName)) (z := (⟨"java/lang/String", "getBytes", "([BIB)V"⟩ : MethodName)) hown (w 130 _ rfl) (w 131 _ rfl) (notFace_of_selects (args := #[]) (mvT hZ (w 133 _ rfl))) (w 133 _ rfl) (w 132 _ rfl) (by decide) (as' := [(.ref va), (.int cnt), (.int (0 : Int32))]) (backOf (W := 0) (rm_gb l Z a0 hw [] x t kb nn us va kv cap vs cnt G1 h0 O0 SG1 nG1 pp0_ pp1_ pp2_ pp3_ pb5_ c0_ c1_ c2_ hva) hZ (w 134 _ rfl) (w 13 _ rfl) (by decide) (by decide)) e3 pp0_ (by rw [hml]; rfl) (rest := []) (lenOf pd14 rfl) rfl (Nat.le_of_eq rfl) (hb hby d20_15) rfl (by decide) (by decide) ?_
  intro T4 h4 v4 L4 X4 e4 hQ4
  obtain ⟨rfl, Nq4, K4, q4_0⟩ := hQ4
  have N4 := Fk.app N1 Nq4 (Nat.le_refl _) (allS (Or.inl (List.mem_of_getElem? (i := 0) rfl)) all0)
  have O5 : Old Z Z.heap.size h4 := O0.keep K4 (allS hva all0)
  show Wp p e below _ _ T4 (mkF m 18 #[.val (.ref sb), .val (.int cnt), .val (.ref x)] [])
  have KK6 : Keep h0 h4 [va] := ((Keep.refl h0 [va]).trans K4 (allS (Or.inl (List.mem_of_getElem? (i := 0) rfl)) all0))
  exact Wk.ret0' X4 hx hlk hr (hb hby d20_18) (by decide) (by decide) (Qc := Q_rm_psa Z sb va kv cap cnt vs x t kb nn us G1 h0) e4 ⟨rfl, N4, KK6, q4_0⟩
theorem d16_0 : decode jdk_68_method_22_code 0 = .ok (.aload_n 1, 1) := by decide +kernel
theorem d16_1 : decode jdk_68_method_22_code 1 = .ok (.ifnonnull 8, 3) := by decide +kernel
theorem d16_9 : decode jdk_68_method_22_code 9 = .ok (.aload_n 1, 1) := by decide +kernel
theorem d16_10 : decode jdk_68_method_22_code 10 = .ok (.invokevirtual 32, 3) := by decide +kernel
theorem pd15 : parseMethodDescriptor "()I" = some ⟨[], some .int⟩ := by decide +kernel
theorem d16_13 : decode jdk_68_method_22_code 13 = .ok (.istore_n 2, 1) := by decide +kernel
theorem d16_14 : decode jdk_68_method_22_code 14 = .ok (.aload_n 0, 1) := by decide +kernel
theorem d16_15 : decode jdk_68_method_22_code 15 = .ok (.aload_n 0, 1) := by decide +kernel
theorem d16_16 : decode jdk_68_method_22_code 16 = .ok (.getfield 79, 3) := by decide +kernel
theorem d16_19 : decode jdk_68_method_22_code 19 = .ok (.iload_n 2, 1) := by decide +kernel
theorem d16_20 : decode jdk_68_method_22_code 20 = .ok (.iadd, 1) := by decide +kernel
theorem d16_21 : decode jdk_68_method_22_code 21 = .ok (.invokevirtual 100, 3) := by decide +kernel
theorem d16_24 : decode jdk_68_method_22_code 24 = .ok (.aload_n 0, 1) := by decide +kernel
theorem d16_25 : decode jdk_68_method_22_code 25 = .ok (.aload_n 0, 1) := by decide +kernel
theorem d16_26 : decode jdk_68_method_22_code 26 = .ok (.getfield 79, 3) := by decide +kernel
theorem d16_29 : decode jdk_68_method_22_code 29 = .ok (.aload_n 1, 1) := by decide +kernel
theorem d16_30 : decode jdk_68_method_22_code 30 = .ok (.invokevirtual 208, 3) := by decide +kernel
theorem pd16 : parseMethodDescriptor "(ILjava/lang/String;)V" = some ⟨[.int, (.object "java/lang/String")], none⟩ := by decide +kernel
theorem d16_33 : decode jdk_68_method_22_code 33 = .ok (.aload_n 0, 1) := by decide +kernel
theorem d16_34 : decode jdk_68_method_22_code 34 = .ok (.dup, 1) := by decide +kernel
theorem d16_35 : decode jdk_68_method_22_code 35 = .ok (.getfield 79, 3) := by decide +kernel
theorem d16_38 : decode jdk_68_method_22_code 38 = .ok (.iload_n 2, 1) := by decide +kernel
theorem d16_39 : decode jdk_68_method_22_code 39 = .ok (.iadd, 1) := by decide +kernel
theorem d16_40 : decode jdk_68_method_22_code 40 = .ok (.putfield 79, 3) := by decide +kernel
theorem d16_43 : decode jdk_68_method_22_code 43 = .ok (.aload_n 0, 1) := by decide +kernel
theorem d16_44 : decode jdk_68_method_22_code 44 = .ok (.areturn, 1) := by decide +kernel
def Q_rm_asapA (Z : State) (sb : Addr) (va : Addr) (kv : ClassId) (cap : Int32) (cnt : Int32) (vs : List Value) (x : Addr) (t : Addr) (kb : ClassId) (nn : Int32) (us : List Value) (bs : List Int32) (ub : List Int32) (G1 : Int32) (h0 : Heap) (v : Option Value) (h : Heap) (L : List Loc) : Prop := ∃ cq : Int32, ∃ vw : List Value, v = some (.ref sb) ∧ Fk h0.size [sb, va] L ∧ Keep h0 h [sb, va] ∧ Exa Z h sb "java/lang/StringBuilder" ∧ Fld Z h sb "java/lang/AbstractStringBuilder" "value" "[B" (.ref va) ∧ Fld Z h sb "java/lang/AbstractStringBuilder" "coder" "B" (.int (0 : Int32)) ∧ Fld Z h sb "java/lang/AbstractStringBuilder" "count" "I" (.int cq) ∧ Exa Z h va "[B" ∧ Arv Z h va kv .byte cap vw (.int (0 : Int32)) ∧ Buf vw cq cap (bs ++ ub)
set_option maxRecDepth 65536 in
set_option maxHeartbeats 40000000 in
theorem rm_asapA (l : Launch) (Z : State) (a0 : Array Value) (hw : ∀ d ∈ tables_1, d.before a0 Z = true) (ws : List Jvm.Cond) (sb : Addr) (va : Addr) (kv : ClassId) (cap : Int32) (cnt : Int32) (vs : List Value) (x : Addr) (t : Addr) (kb : ClassId) (nn : Int32) (us : List Value) (bs : List Int32) (ub : List Int32) (G1 : Int32) (h0 : Heap) (O0 : Old Z Z.heap.size h0) (SG1 : Sta Z Z.heap "java/lang/String" "COMPACT_STRINGS" "Z" (.int G1)) (nG1 : ¬ G1 = 0) (pb0_ : Exa Z h0 sb "java/lang/StringBuilder") (pb1_ : Fld Z h0 sb "java/lang/AbstractStringBuilder" "value" "[B" (.ref va)) (pb2_ : Fld Z h0 sb "java/lang/AbstractStringBuilder" "coder" "B" (.int (0 : Int32))) (pb3_ : Fld Z h0 sb "java/lang/AbstractStringBuilder" "count" "I" (.int cnt)) (pb4_ : Exa Z h0 va "[B") (pb5_ : Arv Z h0 va kv .byte cap vs (.int (0 : Int32))) (pp0_ : Exa Z h0 x "java/lang/String") (pp1_ : Fld Z h0 x "java/lang/String" "coder" "B" (.int (0 : Int32))) (pp2_ : Fld Z h0 x "java/lang/String" "value" "[B" (.ref t)) (pp3_ : Arv Z h0 t kb .byte nn us (.int (0 : Int32))) (hB : Buf vs cnt cap bs) (hS : Str us nn ub) (hfit : bs.length + ub.length ≤ cap.toNatClampNeg) (hva : Z.heap.size ≤ va) (hsb : Z.heap.size ≤ sb) :
    Ctr l Z (⟨"java/lang/AbstractStringBuilder", "append", "(Ljava/lang/String;)Ljava/lang/AbstractStringBuilder;"⟩ : MethodName) jdk_68_method_22_code 3 (some (.object "java/lang/AbstractStringBuilder")) ws ({ frames := 3, cells := 0, slots := 0, locals := 47 } : Room) #[(.ref sb), (.ref x)] h0 (Q_rm_asapA Z sb va kv cap cnt vs x t kb nn us bs ub G1 h0) := by
  refine Ctr.intro (Ls := fun _ => #[.val (.ref sb), .val (.ref x), .unset]) (plainFor_of_name pn2) (fun m => by first | rfl | (simp [entryFrame, mkF, argsToLocals, Value.category]; done)) ?_
  intro p e s m below meth c s₁ hx hby hml hr hlk hZ hown hnm hs0 X0 e0
  have w : ∀ (k : Nat) (d : Jvm.Cond), tables_1[k]? = some d → d.before a0 Z = true := fun k d q => hw d (List.mem_of_getElem? q)
  have N0 := Fk.nil h0.size [sb, va]
  refine Wk.aloadN X0 hx (hb hby d16_0) rfl rfl rfl ?_
  refine Wk.ifnonnullYes X0 hx (hb hby d16_1) (by decide) (q := 9) rfl ?_
  refine Wk.aloadN X0 hx (hb hby d16_9) rfl rfl rfl ?_
  refine Wk.callV X0 hx hZ (y := (⟨"java/lang/String", "length", "()I"⟩ : MethodName)) (z := (⟨"java/lang/String", "length", "()I"⟩ : MethodName)) hown (w 102 _ rfl) (w 103 _ rfl) (notFace_of_selects (args := #[]) (mvT hZ (w 105 _ rfl))) (w 105 _ rfl) (w 104 _ rfl) (by decide) (as' := []) (backOf (W := 0) (rm_len l Z a0 hw [] x t kb nn us G1 h0 O0 SG1 nG1 pp0_ pp1_ pp2_ pp3_) hZ (w 106 _ rfl) (w 13 _ rfl) (by decide) (by decide)) e0 pp0_ (by rw [hml]; rfl) (rest := []) (lenOf pd15 rfl) rfl (Nat.le_of_eq rfl) (hb hby d16_10) rfl (by decide) (by decide) ?_
  intro T1 h1 v1 L1 X1 e1 hQ1
  obtain ⟨rfl, Nq1, K1⟩ := hQ1
  have N1 := Fk.app N0 Nq1 (Nat.le_refl _) all0
  rw [K1] at e1
  show Wp p e below _ _ T1 (mkF m 13 #[.val (.ref sb), .val (.ref x), .unset] [(.int nn)])
  refine Wk.istoreN X1 hx (Ls' := #[.val (.ref sb), .val (.ref x), .val (.int nn)]) (hb hby d16_13) rfl rfl ?_
  refine Wk.aloadN X1 hx (hb hby d16_14) rfl rfl rfl ?_
  refine Wk.aloadN X1 hx (hb hby d16_15) rfl rfl rfl ?_
  refine Wk.getfield X1 hx hZ hown (host := "") (Or.inl (w 112 _ rfl)) Via.refl e1 pb3_ (hb hby d16_16) rfl ?_
  intro T2 X2 e2
  refine Wk.iloadN X2 hx (hb hby d16_19) rfl rfl ?_
  refine Wk.iadd X2 hx (hb hby d16_20) rfl ?_
  refine Wk.callV X2 hx hZ (y := (⟨"java/lang/AbstractStringBuilder", "ensureCapacityInternal", "(I)V"⟩ : MethodName)) (z := (⟨"java/lang/AbstractStringBuilder", "ensureCapacityInternal", "(I)V"⟩ : MethodName)) hown (w 114 _ rfl) (declOf (w 115 _ rfl) (w 118 _ rfl)) (notFace_of_selects (args := #[]) (mvT hZ (w 117 _ rfl))) (w 117 _ rfl) (w 115 _ rfl) (by decide) (as' := [(.int (cnt + nn))]) (backOf (W := 0) (rm_ensA l Z a0 hw [] sb va kv cap cnt vs (cnt + nn) h0 O0 pb0_ pb1_ pb2_ pb3_ pb4_ pb5_ (own_noG hB hS.1 hS.2.1 hfit)) hZ (w 118 _ rfl) (w 84 _ rfl) (by decide) (by decide)) e2 pb0_ (by rw [hml]; rfl) (rest := []) (lenOf pd4 rfl) rfl (Nat.le_of_eq rfl) (hb hby d16_21) rfl (by decide) (by decide) ?_
  intro T3 h3 v3 L3 X3 e3 hQ3
  obtain ⟨rfl, Nq3, K3⟩ := hQ3
  have N3 := Fk.app N1 Nq3 (Nat.le_refl _) all0
  rw [K3] at e3
  show Wp p e below _ _ T3 (mkF m 24 #[.val (.ref sb), .val (.ref x), .val (.int nn)] [])
  refine Wk.aloadN X3 hx (hb hby d16_24) rfl rfl rfl ?_
  refine Wk.aloadN X3 hx (hb hby d16_25) rfl rfl rfl ?_
  refine Wk.getfield X3 hx hZ hown (host := "") (Or.inl (w 112 _ rfl)) Via.refl e3 pb3_ (hb hby d16_26) rfl ?_
  intro T4 X4 e4
  refine Wk.aloadN X4 hx (hb hby d16_29) rfl rfl rfl ?_
  refine Wk.callV X4 hx hZ (y := (⟨"java/lang/AbstractStringBuilder", "putStringAt", "(ILjava/lang/String;)V"⟩ : MethodName)) (z := (⟨"java/lang/AbstractStringBuilder", "putStringAt", "(ILjava/lang/String;)V"⟩ : MethodName)) hown (w 119 _ rfl) (declOf (w 120 _ rfl) (w 123 _ rfl)) (notFace_of_selects (args := #[]) (mvT hZ (w 122 _ rfl))) (w 122 _ rfl) (w 120 _ rfl) (by decide) (as' := [(.int cnt), (.ref x)]) (backOf (W := 0) (rm_psa l Z a0 hw [] sb va kv cap cnt vs x t kb nn us G1 h0 O0 SG1 nG1 pb0_ pb1_ pb2_ pb3_ pb4_ pb5_ pp0_ pp1_ pp2_ pp3_ (own_nn hB.1) (own_nn hS.1) (own_cap hB hS.1 hfit) hva) hZ (w 123 _ rfl) (w 84 _ rfl) (by decide) (by decide)) e4 pb0_ (by rw [hml]; rfl) (rest := []) (lenOf pd16 rfl) rfl (Nat.le_of_eq rfl) (hb hby d16_30) rfl (by decide) (by decide) ?_
  intro T5 h5 v5 L5 X5 e5 hQ5
  obtain ⟨rfl, Nq5, K5, q5_0⟩ := hQ5
  have N5 := Fk.app N3 Nq5 (Nat.le_refl _) (allS (Or.inl (List.mem_of_getElem? (i := 1) rfl)) all0)
  have O6 : Old Z Z.heap.size h5 := O0.keep K5 (allS hva all0)
  show Wp p e below _ _ T5 (mkF m 33 #[.val (.ref sb), .val (.ref x), .val (.int nn)] [])
  refine Wk.aloadN X5 hx (hb hby d16_33) rfl rfl rfl ?_
  refine Wk.dup X5 hx (hb hby d16_34) rfl rfl ?_
  have KK7 : Keep h0 h5 [va] := ((Keep.refl h0 [va]).trans K5 (allS (Or.inl (List.mem_of_getElem? (i := 0) rfl)) all0))
  have f8 : Exa Z h5 sb "java/lang/StringBuilder" := (pb0_.keep KK7)
  have f9 : Exa Z h5 va "[B" := (pb4_.keep KK7)
  have f10 : Fld Z h5 sb "java/lang/AbstractStringBuilder" "count" "I" (.int cnt) := (pb3_.keep KK7 (ninS (Exa.ne f8 f9 (by decide)) nin0))
  refine Wk.getfield X5 hx hZ hown (host := "") (Or.inl (w 112 _ rfl)) Via.refl e5 f10 (hb hby d16_35) rfl ?_
  intro T11 X11 e11
  refine Wk.iloadN X11 hx (hb hby d16_38) rfl rfl ?_
  refine Wk.iadd X11 hx (hb hby d16_39) rfl ?_
  have f13 : Fld Z h5 sb "java/lang/AbstractStringBuilder" "value" "[B" (.ref va) := (pb1_.keep KK7 (ninS (Exa.ne f8 f9 (by decide)) nin0))
  have f14 : Fld Z h5 sb "java/lang/AbstractStringBuilder" "coder" "B" (.int (0 : Int32)) := (pb2_.keep KK7 (ninS (Exa.ne f8 f9 (by decide)) nin0))
  refine Wk.putfield X11 hx hZ hown (host := "") (Or.inl (w 112 _ rfl)) Via.refl e11 f10 f8 (Or.inl (w 113 _ rfl)) (w 75 _ rfl) (ty := .int) (by decide) rfl rfl (hb hby d16_40) rfl ?_
  intro T12 h12 L12 M12 X12 e12 W12 Fw12
  have N12 := M12 _ _ N5 (Or.inl (List.mem_of_getElem? (i := 0) rfl))
  have O15 : Old Z Z.heap.size h12 := O6.wr W12 hsb
  have f16 : Fld Z h12 sb "java/lang/AbstractStringBuilder" "value" "[B" (.ref va) := f13.other W12 (Or.inr (slot_ne (Or.inl (w 89 _ rfl)) (Or.inl (w 113 _ rfl)) (by decide) (t := (.array .byte)) (t' := .int) (by decide) (by decide)))
  have f17 : Fld Z h12 sb "java/lang/AbstractStringBuilder" "coder" "B" (.int (0 : Int32)) := f14.other W12 (Or.inr (slot_ne (Or.inl (w 91 _ rfl)) (Or.inl (w 113 _ rfl)) (by decide) (t := .byte) (t' := .int) (by decide) (by decide)))
  have E12' : Exa Z h12 sb "java/lang/StringBuilder" := f8.wr W12
  refine Wk.aloadN X12 hx (hb hby d16_43) rfl rfl rfl ?_
  have KK18 : Keep h0 h12 [va, sb] := (((Keep.refl h0 [va, sb]).trans K5 (allS (Or.inl (List.mem_of_getElem? (i := 0) rfl)) all0)).wr W12 (Or.inl (List.mem_of_getElem? (i := 1) rfl)))
  have KK19 : Keep h5 h12 [sb] := ((Keep.refl h5 [sb]).wr W12 (Or.inl (List.mem_of_getElem? (i := 0) rfl)))
  have f20 : Exa Z h12 va "[B" := (f9.keep KK19)
  have f21 := (q5_0.keep KK19 (ninS (Exa.ne f20 E12' (by decide)) nin0))
  exact Wk.retA' X12 hx hlk hr rfl rfl (hb hby d16_44) (by decide) (by decide) (Qc := Q_rm_asapA Z sb va kv cap cnt vs x t kb nn us bs ub G1 h0) e12 ⟨(cnt + nn), (cpF us (.int (0 : Int32)) (0 : Int32).toNatClampNeg vs (.int (0 : Int32)) cnt.toNatClampNeg nn.toNatClampNeg cap.toNatClampNeg), rfl, N12, (keepMore KK18 (by simp)), E12', f16, f17, Fw12, f20, f21, (Buf.app hB hS hfit)⟩
theorem d15_0 : decode jdk_67_method_7_code 0 = .ok (.aload_n 0, 1) := by decide +kernel
theorem d15_1 : decode jdk_67_method_7_code 1 = .ok (.aload_n 1, 1) := by decide +kernel
theorem d15_2 : decode jdk_67_method_7_code 2 = .ok (.invokespecial 29, 3) := by decide +kernel
theorem pd17 : parseMethodDescriptor "(Ljava/lang/String;)Ljava/lang/AbstractStringBuilder;" = some ⟨[(.object "java/lang/String")], some (.object "java/lang/AbstractStringBuilder")⟩ := by decide +kernel
theorem d15_5 : decode jdk_67_method_7_code 5 = .ok (.pop, 1) := by decide +kernel
theorem d15_6 : decode jdk_67_method_7_code 6 = .ok (.aload_n 0, 1) := by decide +kernel
theorem d15_7 : decode jdk_67_method_7_code 7 = .ok (.areturn, 1) := by decide +kernel
def Q_rm_sbapA (Z : State) (sb : Addr) (va : Addr) (kv : ClassId) (cap : Int32) (cnt : Int32) (vs : List Value) (x : Addr) (t : Addr) (kb : ClassId) (nn : Int32) (us : List Value) (bs : List Int32) (ub : List Int32) (G1 : Int32) (h0 : Heap) (v : Option Value) (h : Heap) (L : List Loc) : Prop := ∃ cq : Int32, ∃ vw : List Value, v = some (.ref sb) ∧ Fk h0.size [sb, va] L ∧ Keep h0 h [sb, va] ∧ Exa Z h sb "java/lang/StringBuilder" ∧ Fld Z h sb "java/lang/AbstractStringBuilder" "value" "[B" (.ref va) ∧ Fld Z h sb "java/lang/AbstractStringBuilder" "coder" "B" (.int (0 : Int32)) ∧ Fld Z h sb "java/lang/AbstractStringBuilder" "count" "I" (.int cq) ∧ Exa Z h va "[B" ∧ Arv Z h va kv .byte cap vw (.int (0 : Int32)) ∧ Buf vw cq cap (bs ++ ub)
set_option maxRecDepth 65536 in
set_option maxHeartbeats 40000000 in
theorem rm_sbapA (l : Launch) (Z : State) (a0 : Array Value) (hw : ∀ d ∈ tables_1, d.before a0 Z = true) (ws : List Jvm.Cond) (sb : Addr) (va : Addr) (kv : ClassId) (cap : Int32) (cnt : Int32) (vs : List Value) (x : Addr) (t : Addr) (kb : ClassId) (nn : Int32) (us : List Value) (bs : List Int32) (ub : List Int32) (G1 : Int32) (h0 : Heap) (O0 : Old Z Z.heap.size h0) (SG1 : Sta Z Z.heap "java/lang/String" "COMPACT_STRINGS" "Z" (.int G1)) (nG1 : ¬ G1 = 0) (pb0_ : Exa Z h0 sb "java/lang/StringBuilder") (pb1_ : Fld Z h0 sb "java/lang/AbstractStringBuilder" "value" "[B" (.ref va)) (pb2_ : Fld Z h0 sb "java/lang/AbstractStringBuilder" "coder" "B" (.int (0 : Int32))) (pb3_ : Fld Z h0 sb "java/lang/AbstractStringBuilder" "count" "I" (.int cnt)) (pb4_ : Exa Z h0 va "[B") (pb5_ : Arv Z h0 va kv .byte cap vs (.int (0 : Int32))) (pp0_ : Exa Z h0 x "java/lang/String") (pp1_ : Fld Z h0 x "java/lang/String" "coder" "B" (.int (0 : Int32))) (pp2_ : Fld Z h0 x "java/lang/String" "value" "[B" (.ref t)) (pp3_ : Arv Z h0 t kb .byte nn us (.int (0 : Int32))) (hB : Buf vs cnt cap bs) (hS : Str us nn ub) (hfit : bs.length + ub.length ≤ cap.toNatClampNeg) (hva : Z.heap.size ≤ va) (hsb : Z.heap.size ≤ sb) :
    Ctr l Z (⟨"java/lang/StringBuilder", "append", "(Ljava/lang/String;)Ljava/lang/StringBuilder;"⟩ : MethodName) jdk_67_method_7_code 2 (some (.object "java/lang/StringBuilder")) ws ({ frames := 4, cells := 0, slots := 0, locals := 61 } : Room) #[(.ref sb), (.ref x)] h0 (Q_rm_sbapA Z sb va kv cap cnt vs x t kb nn us bs ub G1 h0) := by
  refine Ctr.intro (Ls := fun _ => #[.val (.ref sb), .val (.ref x)]) (plainFor_of_name pn3) (fun m => by first | rfl | (simp [entryFrame, mkF, argsToLocals, Value.category]; done)) ?_
  intro p e s m below meth c s₁ hx hby hml hr hlk hZ hown hnm hs0 X0 e0
  have w : ∀ (k : Nat) (d : Jvm.Cond), tables_1[k]? = some d → d.before a0 Z = true := fun k d q => hw d (List.mem_of_getElem? q)
  have N0 := Fk.nil h0.size [sb, va]
  refine Wk.aloadN X0 hx (hb hby d15_0) rfl rfl rfl ?_
  refine Wk.aloadN X0 hx (hb hby d15_1) rfl rfl rfl ?_
  refine Wk.callU X0 hx hZ hown (w 97 _ rfl) (sameSelf (y := (⟨"java/lang/AbstractStringBuilder", "append", "(Ljava/lang/String;)Ljava/lang/AbstractStringBuilder;"⟩ : MethodName)) (w 117 _ rfl) rfl (w 98 _ rfl) (by decide)) (w 98 _ rfl) (w 99 _ rfl) (w 101 _ rfl) (by decide) (as' := [(.ref x)]) (backOf (W := 0) (rm_asapA l Z a0 hw [] sb va kv cap cnt vs x t kb nn us bs ub G1 h0 O0 SG1 nG1 pb0_ pb1_ pb2_ pb3_ pb4_ pb5_ pp0_ pp1_ pp2_ pp3_ hB hS hfit hva hsb) hZ (w 101 _ rfl) (w 84 _ rfl) (by decide) (by decide)) e0 pb0_ (by rw [hml]; rfl) (rest := []) (lenOf pd17 rfl) rfl (Nat.le_of_eq rfl) (hb hby d15_2) rfl (by decide) (by decide) ?_
  intro T1 h1 v1 L1 X1 e1 hQ1
  obtain ⟨cq1, vw1, rfl, Nq1, K1, q1_0, q1_1, q1_2, q1_3, q1_4, q1_5, q1_6⟩ := hQ1
  have N1 := Fk.app N0 Nq1 (Nat.le_refl _) (allS (Or.inl (List.mem_of_getElem? (i := 0) rfl)) (allS (Or.inl (List.mem_of_getElem? (i := 1) rfl)) all0))
  have O2 : Old Z Z.heap.size h1 := O0.keep K1 (allS hsb (allS hva all0))
  show Wp p e below _ _ T1 (mkF m 5 #[.val (.ref sb), .val (.ref x)] [(.ref sb)])
  refine Wk.pop X1 hx (hb hby d15_5) rfl rfl ?_
  refine Wk.aloadN X1 hx (hb hby d15_6) rfl rfl rfl ?_
  have KK3 : Keep h0 h1 [sb, va] := ((Keep.refl h0 [sb, va]).trans K1 (allS (Or.inl (List.mem_of_getElem? (i := 0) rfl)) (allS (Or.inl (List.mem_of_getElem? (i := 1) rfl)) all0)))
  exact Wk.retA' X1 hx hlk hr rfl rfl (hb hby d15_7) (by decide) (by decide) (Qc := Q_rm_sbapA Z sb va kv cap cnt vs x t kb nn us bs ub G1 h0) e1 ⟨cq1, vw1, rfl, N1, KK3, q1_0, q1_1, q1_2, q1_3, q1_4, q1_5, q1_6⟩
def Q_rm_asapB (Z : State) (sb : Addr) (va : Addr) (kv : ClassId) (cnt : Int32) (vs : List Value) (x : Addr) (t : Addr) (kb : ClassId) (nn : Int32) (us : List Value) (bs : List Int32) (ub : List Int32) (G1 : Int32) (h0 : Heap) (v : Option Value) (h : Heap) (L : List Loc) : Prop := ∃ vb : Addr, ∃ kw : ClassId, ∃ cq : Int32, ∃ vw : List Value, v = some (.ref sb) ∧ Fk h0.size [sb] L ∧ Keep h0 h [sb] ∧ h0.size ≤ vb ∧ Exa Z h sb "java/lang/StringBuilder" ∧ Fld Z h sb "java/lang/AbstractStringBuilder" "value" "[B" (.ref vb) ∧ Fld Z h sb "java/lang/AbstractStringBuilder" "coder" "B" (.int (0 : Int32)) ∧ Fld Z h sb "java/lang/AbstractStringBuilder" "count" "I" (.int cq) ∧ Exa Z h vb "[B" ∧ Arv Z h vb kw .byte (34 : Int32) vw (.int (0 : Int32)) ∧ Buf vw cq (34 : Int32) (bs ++ ub)
set_option maxRecDepth 65536 in
set_option maxHeartbeats 40000000 in
theorem rm_asapB (l : Launch) (Z : State) (a0 : Array Value) (hw : ∀ d ∈ tables_1, d.before a0 Z = true) (ws : List Jvm.Cond) (sb : Addr) (va : Addr) (kv : ClassId) (cnt : Int32) (vs : List Value) (x : Addr) (t : Addr) (kb : ClassId) (nn : Int32) (us : List Value) (bs : List Int32) (ub : List Int32) (G1 : Int32) (h0 : Heap) (O0 : Old Z Z.heap.size h0) (SG1 : Sta Z Z.heap "java/lang/String" "COMPACT_STRINGS" "Z" (.int G1)) (nG1 : ¬ G1 = 0) (pb0_ : Exa Z h0 sb "java/lang/StringBuilder") (pb1_ : Fld Z h0 sb "java/lang/AbstractStringBuilder" "value" "[B" (.ref va)) (pb2_ : Fld Z h0 sb "java/lang/AbstractStringBuilder" "coder" "B" (.int (0 : Int32))) (pb3_ : Fld Z h0 sb "java/lang/AbstractStringBuilder" "count" "I" (.int cnt)) (pb4_ : Exa Z h0 va "[B") (pb5_ : Arv Z h0 va kv .byte (16 : Int32) vs (.int (0 : Int32))) (pp0_ : Exa Z h0 x "java/lang/String") (pp1_ : Fld Z h0 x "java/lang/String" "coder" "B" (.int (0 : Int32))) (pp2_ : Fld Z h0 x "java/lang/String" "value" "[B" (.ref t)) (pp3_ : Arv Z h0 t kb .byte nn us (.int (0 : Int32))) (hB : Buf vs cnt (16 : Int32) bs) (hS : Str us nn ub) (hbig : 16 < bs.length + ub.length) (hfit : bs.length + ub.length ≤ 34) (hsb : Z.heap.size ≤ sb) :
    Ctr l Z (⟨"java/lang/AbstractStringBuilder", "append", "(Ljava/lang/String;)Ljava/lang/AbstractStringBuilder;"⟩ : MethodName) jdk_68_method_22_code 3 (some (.object "java/lang/AbstractStringBuilder")) ws ({ frames := 4, cells := 1, slots := 34, locals := 62 } : Room) #[(.ref sb), (.ref x)] h0 (Q_rm_asapB Z sb va kv cnt vs x t kb nn us bs ub G1 h0) := by
  refine Ctr.intro (Ls := fun _ => #[.val (.ref sb), .val (.ref x), .unset]) (plainFor_of_name pn2) (fun m => by first | rfl | (simp [entryFrame, mkF, argsToLocals, Value.category]; done)) ?_
  intro p e s m below meth c s₁ hx hby hml hr hlk hZ hown hnm hs0 X0 e0
  have w : ∀ (k : Nat) (d : Jvm.Cond), tables_1[k]? = some d → d.before a0 Z = true := fun k d q => hw d (List.mem_of_getElem? q)
  have N0 := Fk.nil h0.size [sb]
  refine Wk.aloadN X0 hx (hb hby d16_0) rfl rfl rfl ?_
  refine Wk.ifnonnullYes X0 hx (hb hby d16_1) (by decide) (q := 9) rfl ?_
  refine Wk.aloadN X0 hx (hb hby d16_9) rfl rfl rfl ?_
  refine Wk.callV X0 hx hZ (y := (⟨"java/lang/String", "length", "()I"⟩ : MethodName)) (z := (⟨"java/lang/String", "length", "()I"⟩ : MethodName)) hown (w 102 _ rfl) (w 103 _ rfl) (notFace_of_selects (args := #[]) (mvT hZ (w 105 _ rfl))) (w 105 _ rfl) (w 104 _ rfl) (by decide) (as' := []) (backOf (W := 0) (rm_len l Z a0 hw [] x t kb nn us G1 h0 O0 SG1 nG1 pp0_ pp1_ pp2_ pp3_) hZ (w 106 _ rfl) (w 13 _ rfl) (by decide) (by decide)) e0 pp0_ (by rw [hml]; rfl) (rest := []) (lenOf pd15 rfl) rfl (Nat.le_of_eq rfl) (hb hby d16_10) rfl (by decide) (by decide) ?_
  intro T1 h1 v1 L1 X1 e1 hQ1
  obtain ⟨rfl, Nq1, K1⟩ := hQ1
  have N1 := Fk.app N0 Nq1 (Nat.le_refl _) all0
  rw [K1] at e1
  show Wp p e below _ _ T1 (mkF m 13 #[.val (.ref sb), .val (.ref x), .unset] [(.int nn)])
  refine Wk.istoreN X1 hx (Ls' := #[.val (.ref sb), .val (.ref x), .val (.int nn)]) (hb hby d16_13) rfl rfl ?_
  refine Wk.aloadN X1 hx (hb hby d16_14) rfl rfl rfl ?_
  refine Wk.aloadN X1 hx (hb hby d16_15) rfl rfl rfl ?_
  refine Wk.getfield X1 hx hZ hown (host := "") (Or.inl (w 112 _ rfl)) Via.refl e1 pb3_ (hb hby d16_16) rfl ?_
  intro T2 X2 e2
  refine Wk.iloadN X2 hx (hb hby d16_19) rfl rfl ?_
  refine Wk.iadd X2 hx (hb hby d16_20) rfl ?_
  refine Wk.callV X2 hx hZ (y := (⟨"java/lang/AbstractStringBuilder", "ensureCapacityInternal", "(I)V"⟩ : MethodName)) (z := (⟨"java/lang/AbstractStringBuilder", "ensureCapacityInternal", "(I)V"⟩ : MethodName)) hown (w 114 _ rfl) (declOf (w 115 _ rfl) (w 118 _ rfl)) (notFace_of_selects (args := #[]) (mvT hZ (w 117 _ rfl))) (w 117 _ rfl) (w 115 _ rfl) (by decide) (as' := [(.int (cnt + nn))]) (backOf (W := 0) (rm_ensB l Z a0 hw [] sb va kv cnt vs (cnt + nn) h0 O0 pb0_ pb1_ pb2_ pb3_ pb4_ pb5_ (own_G hB hS.1 hS.2.1 hbig hfit).1 (own_G hB hS.1 hS.2.1 hbig hfit).2 hsb) hZ (w 118 _ rfl) (w 84 _ rfl) (by decide) (by decide)) e2 pb0_ (by rw [hml]; rfl) (rest := []) (lenOf pd4 rfl) rfl (Nat.le_of_eq rfl) (hb hby d16_21) rfl (by decide) (by decide) ?_
  intro T3 h3 v3 L3 X3 e3 hQ3
  obtain ⟨vb3, kw3, rfl, Nq3, K3, q3_0, q3_1, q3_2, q3_3, q3_4, q3_5, q3_6⟩ := hQ3
  have N3 := Fk.app N1 Nq3 (Nat.le_refl _) (allS (Or.inl (List.mem_of_getElem? (i := 0) rfl)) all0)
  have O4 : Old Z Z.heap.size h3 := O0.keep K3 (allS hsb all0)
  show Wp p e below _ _ T3 (mkF m 24 #[.val (.ref sb), .val (.ref x), .val (.int nn)] [])
  refine Wk.aloadN X3 hx (hb hby d16_24) rfl rfl rfl ?_
  refine Wk.aloadN X3 hx (hb hby d16_25) rfl rfl rfl ?_
  refine Wk.getfield X3 hx hZ hown (host := "") (Or.inl (w 112 _ rfl)) Via.refl e3 q3_4 (hb hby d16_26) rfl ?_
  intro T5 X5 e5
  refine Wk.aloadN X5 hx (hb hby d16_29) rfl rfl rfl ?_
  have KK6 : Keep h0 h3 [sb] := ((Keep.refl h0 [sb]).trans K3 (allS (Or.inl (List.mem_of_getElem? (i := 0) rfl)) all0))
  have f7 : Exa Z h3 x "java/lang/String" := (pp0_.keep KK6)
  have f8 : Fld Z h3 x "java/lang/String" "coder" "B" (.int (0 : Int32)) := (pp1_.keep KK6 (ninS (Exa.ne f7 q3_1 (by decide)) nin0))
  have f9 : Fld Z h3 x "java/lang/String" "value" "[B" (.ref t) := (pp2_.keep KK6 (ninS (Exa.ne f7 q3_1 (by decide)) nin0))
  have f10 := (pp3_.keep KK6 (ninS (Ne.symm (Exa.neArv pb0_ pp3_ (w 75 _ rfl))) nin0))
  refine Wk.callV X5 hx hZ (y := (⟨"java/lang/AbstractStringBuilder", "putStringAt", "(ILjava/lang/String;)V"⟩ : MethodName)) (z := (⟨"java/lang/AbstractStringBuilder", "putStringAt", "(ILjava/lang/String;)V"⟩ : MethodName)) hown (w 119 _ rfl) (declOf (w 120 _ rfl) (w 123 _ rfl)) (notFace_of_selects (args := #[]) (mvT hZ (w 122 _ rfl))) (w 122 _ rfl) (w 120 _ rfl) (by decide) (as' := [(.int cnt), (.ref x)]) (backOf (W := 0) (rm_psa l Z a0 hw [] sb vb3 kw3 (34 : Int32) cnt _ x t kb nn us G1 h3 O4 SG1 nG1 q3_1 q3_2 q3_3 q3_4 q3_5 q3_6 f7 f8 f9 f10 (own_nn hB.1) (own_nn hS.1) (own_cap (cap := 34) (Buf.grow (vd := []) hB) hS.1 (own_34 hfit)) (Nat.le_trans (Nat.le_trans (Nat.le_trans (Nat.le_of_eq O0.1.symm) O0.2.1) (Keep.refl h0 []).1) q3_0)) hZ (w 123 _ rfl) (w 84 _ rfl) (by decide) (by decide)) e5 q3_1 (by rw [hml]; rfl) (rest := []) (lenOf pd16 rfl) rfl (Nat.le_of_eq rfl) (hb hby d16_30) rfl (by decide) (by decide) ?_
  intro T11 h11 v11 L11 X11 e11 hQ11
  obtain ⟨rfl, Nq11, K11, q11_0⟩ := hQ11
  have N11 := Fk.app N3 Nq11 KK6.1 (allS (Or.inr q3_0) all0)
  have O12 : Old Z Z.heap.size h11 := O4.keep K11 (allS (Nat.le_trans (Nat.le_trans (Nat.le_trans (Nat.le_of_eq O0.1.symm) O0.2.1) (Keep.refl h0 []).1) q3_0) all0)
  show Wp p e below _ _ T11 (mkF m 33 #[.val (.ref sb), .val (.ref x), .val (.int nn)] [])
  refine Wk.aloadN X11 hx (hb hby d16_33) rfl rfl rfl ?_
  refine Wk.dup X11 hx (hb hby d16_34) rfl rfl ?_
  have KK13 : Keep h3 h11 [vb3] := ((Keep.refl h3 [vb3]).trans K11 (allS (Or.inl (List.mem_of_getElem? (i := 0) rfl)) all0))
  have f14 : Fld Z h11 sb "java/lang/AbstractStringBuilder" "count" "I" (.int cnt) := (q3_4.keep KK13 (ninS (Nat.ne_of_lt (Nat.lt_of_lt_of_le pb0_.lt q3_0)) nin0))
  refine Wk.getfield X11 hx hZ hown (host := "") (Or.inl (w 112 _ rfl)) Via.refl e11 f14 (hb hby d16_35) rfl ?_
  intro T15 X15 e15
  refine Wk.iloadN X15 hx (hb hby d16_38) rfl rfl ?_
  refine Wk.iadd X15 hx (hb hby d16_39) rfl ?_
  have f16 : Exa Z h11 sb "java/lang/StringBuilder" := (q3_1.keep KK13)
  have f18 : Fld Z h11 sb "java/lang/AbstractStringBuilder" "value" "[B" (.ref vb3) := (q3_2.keep KK13 (ninS (Nat.ne_of_lt (Nat.lt_of_lt_of_le pb0_.lt q3_0)) nin0))
  have f19 : Fld Z h11 sb "java/lang/AbstractStringBuilder" "coder" "B" (.int (0 : Int32)) := (q3_3.keep KK13 (ninS (Nat.ne_of_lt (Nat.lt_of_lt_of_le pb0_.lt q3_0)) nin0))
  refine Wk.putfield X15 hx hZ hown (host := "") (Or.inl (w 112 _ rfl)) Via.refl e15 f14 f16 (Or.inl (w 113 _ rfl)) (w 75 _ rfl) (ty := .int) (by decide) rfl rfl (hb hby d16_40) rfl ?_
  intro T17 h17 L17 M17 X17 e17 W17 Fw17
  have N17 := M17 _ _ N11 (Or.inl (List.mem_of_getElem? (i := 0) rfl))
  have O20 : Old Z Z.heap.size h17 := O12.wr W17 hsb
  have f21 : Fld Z h17 sb "java/lang/AbstractStringBuilder" "value" "[B" (.ref vb3) := f18.other W17 (Or.inr (slot_ne (Or.inl (w 89 _ rfl)) (Or.inl (w 113 _ rfl)) (by decide) (t := (.array .byte)) (t' := .int) (by decide) (by decide)))
  have f22 : Fld Z h17 sb "java/lang/AbstractStringBuilder" "coder" "B" (.int (0 : Int32)) := f19.other W17 (Or.inr (slot_ne (Or.inl (w 91 _ rfl)) (Or.inl (w 113 _ rfl)) (by decide) (t := .byte) (t' := .int) (by decide) (by decide)))
  have E17' : Exa Z h17 sb "java/lang/StringBuilder" := f16.wr W17
  refine Wk.aloadN X17 hx (hb hby d16_43) rfl rfl rfl ?_
  have KK23 : Keep h11 h17 [sb] := ((Keep.refl h11 [sb]).wr W17 (Or.inl (List.mem_of_getElem? (i := 0) rfl)))
  have f24 := (q11_0.keep KK23 (ninS (Ne.symm (Nat.ne_of_lt (Nat.lt_of_lt_of_le pb0_.lt q3_0))) nin0))
  obtain ⟨wq, fq, hBq⟩ : ∃ wq, Arv Z h17 vb3 kw3 .byte (34 : Int32) wq (.int (0 : Int32)) ∧ Buf wq (cnt + nn) (34 : Int32) (bs ++ ub) := ⟨_, f24, Buf.app (cap := 34) (Buf.grow hB) hS (own_34 hfit)⟩
  have KK25 : Keep h0 h17 [sb] := ((KK6.trans K11 (allS (Or.inr q3_0) all0)).wr W17 (Or.inl (List.mem_of_getElem? (i := 0) rfl)))
  have KK26 : Keep h3 h17 [vb3, sb] := (((Keep.refl h3 [vb3, sb]).trans K11 (allS (Or.inl (List.mem_of_getElem? (i := 0) rfl)) all0)).wr W17 (Or.inl (List.mem_of_getElem? (i := 1) rfl)))
  have f27 : Exa Z h17 vb3 "[B" := (q3_5.keep KK26)
  exact Wk.retA' X17 hx hlk hr rfl rfl (hb hby d16_44) (by decide) (by decide) (Qc := Q_rm_asapB Z sb va kv cnt vs x t kb nn us bs ub G1 h0) e17 ⟨vb3, kw3, (cnt + nn), wq, rfl, N17, KK25, q3_0, E17', f21, f22, Fw17, f27, fq, hBq⟩
def Q_rm_sbapB (Z : State) (sb : Addr) (va : Addr) (kv : ClassId) (cnt : Int32) (vs : List Value) (x : Addr) (t : Addr) (kb : ClassId) (nn : Int32) (us : List Value) (bs : List Int32) (ub : List Int32) (G1 : Int32) (h0 : Heap) (v : Option Value) (h : Heap) (L : List Loc) : Prop := ∃ vb : Addr, ∃ kw : ClassId, ∃ cq : Int32, ∃ vw : List Value, v = some (.ref sb) ∧ Fk h0.size [sb] L ∧ Keep h0 h [sb] ∧ h0.size ≤ vb ∧ Exa Z h sb "java/lang/StringBuilder" ∧ Fld Z h sb "java/lang/AbstractStringBuilder" "value" "[B" (.ref vb) ∧ Fld Z h sb "java/lang/AbstractStringBuilder" "coder" "B" (.int (0 : Int32)) ∧ Fld Z h sb "java/lang/AbstractStringBuilder" "count" "I" (.int cq) ∧ Exa Z h vb "[B" ∧ Arv Z h vb kw .byte (34 : Int32) vw (.int (0 : Int32)) ∧ Buf vw cq (34 : Int32) (bs ++ ub)
set_option maxRecDepth 65536 in
set_option maxHeartbeats 40000000 in
theorem rm_sbapB (l : Launch) (Z : State) (a0 : Array Value) (hw : ∀ d ∈ tables_1, d.before a0 Z = true) (ws : List Jvm.Cond) (sb : Addr) (va : Addr) (kv : ClassId) (cnt : Int32) (vs : List Value) (x : Addr) (t : Addr) (kb : ClassId) (nn : Int32) (us : List Value) (bs : List Int32) (ub : List Int32) (G1 : Int32) (h0 : Heap) (O0 : Old Z Z.heap.size h0) (SG1 : Sta Z Z.heap "java/lang/String" "COMPACT_STRINGS" "Z" (.int G1)) (nG1 : ¬ G1 = 0) (pb0_ : Exa Z h0 sb "java/lang/StringBuilder") (pb1_ : Fld Z h0 sb "java/lang/AbstractStringBuilder" "value" "[B" (.ref va)) (pb2_ : Fld Z h0 sb "java/lang/AbstractStringBuilder" "coder" "B" (.int (0 : Int32))) (pb3_ : Fld Z h0 sb "java/lang/AbstractStringBuilder" "count" "I" (.int cnt)) (pb4_ : Exa Z h0 va "[B") (pb5_ : Arv Z h0 va kv .byte (16 : Int32) vs (.int (0 : Int32))) (pp0_ : Exa Z h0 x "java/lang/String") (pp1_ : Fld Z h0 x "java/lang/String" "coder" "B" (.int (0 : Int32))) (pp2_ : Fld Z h0 x "java/lang/String" "value" "[B" (.ref t)) (pp3_ : Arv Z h0 t kb .byte nn us (.int (0 : Int32))) (hB : Buf vs cnt (16 : Int32) bs) (hS : Str us nn ub) (hbig : 16 < bs.length + ub.length) (hfit : bs.length + ub.length ≤ 34) (hsb : Z.heap.size ≤ sb) :
    Ctr l Z (⟨"java/lang/StringBuilder", "append", "(Ljava/lang/String;)Ljava/lang/StringBuilder;"⟩ : MethodName) jdk_67_method_7_code 2 (some (.object "java/lang/StringBuilder")) ws ({ frames := 5, cells := 1, slots := 34, locals := 76 } : Room) #[(.ref sb), (.ref x)] h0 (Q_rm_sbapB Z sb va kv cnt vs x t kb nn us bs ub G1 h0) := by
  refine Ctr.intro (Ls := fun _ => #[.val (.ref sb), .val (.ref x)]) (plainFor_of_name pn3) (fun m => by first | rfl | (simp [entryFrame, mkF, argsToLocals, Value.category]; done)) ?_
  intro p e s m below meth c s₁ hx hby hml hr hlk hZ hown hnm hs0 X0 e0
  have w : ∀ (k : Nat) (d : Jvm.Cond), tables_1[k]? = some d → d.before a0 Z = true := fun k d q => hw d (List.mem_of_getElem? q)
  have N0 := Fk.nil h0.size [sb]
  refine Wk.aloadN X0 hx (hb hby d15_0) rfl rfl rfl ?_
  refine Wk.aloadN X0 hx (hb hby d15_1) rfl rfl rfl ?_
  refine Wk.callU X0 hx hZ hown (w 97 _ rfl) (sameSelf (y := (⟨"java/lang/AbstractStringBuilder", "append", "(Ljava/lang/String;)Ljava/lang/AbstractStringBuilder;"⟩ : MethodName)) (w 117 _ rfl) rfl (w 98 _ rfl) (by decide)) (w 98 _ rfl) (w 99 _ rfl) (w 101 _ rfl) (by decide) (as' := [(.ref x)]) (backOf (W := 0) (rm_asapB l Z a0 hw [] sb va kv cnt vs x t kb nn us bs ub G1 h0 O0 SG1 nG1 pb0_ pb1_ pb2_ pb3_ pb4_ pb5_ pp0_ pp1_ pp2_ pp3_ hB hS hbig hfit hsb) hZ (w 101 _ rfl) (w 84 _ rfl) (by decide) (by decide)) e0 pb0_ (by rw [hml]; rfl) (rest := []) (lenOf pd17 rfl) rfl (Nat.le_of_eq rfl) (hb hby d15_2) rfl (by decide) (by decide) ?_
  intro T1 h1 v1 L1 X1 e1 hQ1
  obtain ⟨vb1, kw1, cq1, vw1, rfl, Nq1, K1, q1_0, q1_1, q1_2, q1_3, q1_4, q1_5, q1_6, q1_7⟩ := hQ1
  have N1 := Fk.app N0 Nq1 (Nat.le_refl _) (allS (Or.inl (List.mem_of_getElem? (i := 0) rfl)) all0)
  have O2 : Old Z Z.heap.size h1 := O0.keep K1 (allS hsb all0)
  show Wp p e below _ _ T1 (mkF m 5 #[.val (.ref sb), .val (.ref x)] [(.ref sb)])
  refine Wk.pop X1 hx (hb hby d15_5) rfl rfl ?_
  refine Wk.aloadN X1 hx (hb hby d15_6) rfl rfl rfl ?_
  have KK3 : Keep h0 h1 [sb] := ((Keep.refl h0 [sb]).trans K1 (allS (Or.inl (List.mem_of_getElem? (i := 0) rfl)) all0))
  exact Wk.retA' X1 hx hlk hr rfl rfl (hb hby d15_7) (by decide) (by decide) (Qc := Q_rm_sbapB Z sb va kv cnt vs x t kb nn us bs ub G1 h0) e1 ⟨vb1, kw1, cq1, vw1, rfl, N1, KK3, q1_0, q1_1, q1_2, q1_3, q1_4, q1_5, q1_6, q1_7⟩
theorem pn18 : plainName "java/lang/Integer" = true := by first | (simp [plainName, overriddenIn]; done) | decide +kernel
theorem d25_0 : decode jdk_33_method_13_code 0 = .ok (.iconst 1, 1) := by decide +kernel
theorem d25_1 : decode jdk_33_method_13_code 1 = .ok (.istore_n 1, 1) := by decide +kernel
theorem d25_2 : decode jdk_33_method_13_code 2 = .ok (.iload_n 0, 1) := by decide +kernel
theorem d25_3 : decode jdk_33_method_13_code 3 = .ok (.ifCond .lt 8, 3) := by decide +kernel
theorem d25_11 : decode jdk_33_method_13_code 11 = .ok (.bipush (-10), 2) := by decide +kernel
theorem d25_13 : decode jdk_33_method_13_code 13 = .ok (.istore_n 2, 1) := by decide +kernel
theorem d25_14 : decode jdk_33_method_13_code 14 = .ok (.iconst 1, 1) := by decide +kernel
theorem d25_15 : decode jdk_33_method_13_code 15 = .ok (.istore_n 3, 1) := by decide +kernel
theorem d25_16 : decode jdk_33_method_13_code 16 = .ok (.iload_n 3, 1) := by decide +kernel
theorem d25_17 : decode jdk_33_method_13_code 17 = .ok (.bipush 10, 2) := by decide +kernel
theorem d25_19 : decode jdk_33_method_13_code 19 = .ok (.if_icmp .ge 23, 3) := by decide +kernel
theorem d25_22 : decode jdk_33_method_13_code 22 = .ok (.iload_n 0, 1) := by decide +kernel
theorem d25_23 : decode jdk_33_method_13_code 23 = .ok (.iload_n 2, 1) := by decide +kernel
theorem d25_24 : decode jdk_33_method_13_code 24 = .ok (.if_icmp .le 7, 3) := by decide +kernel
theorem d25_27 : decode jdk_33_method_13_code 27 = .ok (.iload_n 3, 1) := by decide +kernel
theorem d25_28 : decode jdk_33_method_13_code 28 = .ok (.iload_n 1, 1) := by decide +kernel
theorem d25_29 : decode jdk_33_method_13_code 29 = .ok (.iadd, 1) := by decide +kernel
theorem d25_30 : decode jdk_33_method_13_code 30 = .ok (.ireturn, 1) := by decide +kernel
theorem d25_31 : decode jdk_33_method_13_code 31 = .ok (.bipush 10, 2) := by decide +kernel
theorem d25_33 : decode jdk_33_method_13_code 33 = .ok (.iload_n 2, 1) := by decide +kernel
theorem d25_34 : decode jdk_33_method_13_code 34 = .ok (.imul, 1) := by decide +kernel
theorem d25_35 : decode jdk_33_method_13_code 35 = .ok (.istore_n 2, 1) := by decide +kernel
theorem d25_36 : decode jdk_33_method_13_code 36 = .ok (.iinc 3 1, 3) := by decide +kernel
theorem d25_39 : decode jdk_33_method_13_code 39 = .ok (.goto (-23), 3) := by decide +kernel
theorem d25_42 : decode jdk_33_method_13_code 42 = .ok (.bipush 10, 2) := by decide +kernel
theorem d25_44 : decode jdk_33_method_13_code 44 = .ok (.iload_n 1, 1) := by decide +kernel
theorem d25_45 : decode jdk_33_method_13_code 45 = .ok (.iadd, 1) := by decide +kernel
theorem d25_46 : decode jdk_33_method_13_code 46 = .ok (.ireturn, 1) := by decide +kernel
theorem d25_6 : decode jdk_33_method_13_code 6 = .ok (.iconst 0, 1) := by decide +kernel
theorem d25_7 : decode jdk_33_method_13_code 7 = .ok (.istore_n 1, 1) := by decide +kernel
theorem d25_8 : decode jdk_33_method_13_code 8 = .ok (.iload_n 0, 1) := by decide +kernel
theorem d25_9 : decode jdk_33_method_13_code 9 = .ok (.ineg, 1) := by decide +kernel
theorem d25_10 : decode jdk_33_method_13_code 10 = .ok (.istore_n 0, 1) := by decide +kernel
def Q_rm_ssz (Z : State) (v_ : Int32) (h0 : Heap) (v : Option Value) (h : Heap) (L : List Loc) : Prop := ∃ r : Int32, v = some (.int r) ∧ Fk h0.size [] L ∧ h = h0 ∧ r.toInt = ((db v_).length : Int)
set_option maxRecDepth 65536 in
set_option maxHeartbeats 40000000 in
theorem rm_ssz (l : Launch) (Z : State) (a0 : Array Value) (hw : ∀ d ∈ tables_1, d.before a0 Z = true) (ws : List Jvm.Cond) (v_ : Int32) (h0 : Heap) (O0 : Old Z Z.heap.size h0) :
    Ctr l Z (⟨"java/lang/Integer", "stringSize", "(I)I"⟩ : MethodName) jdk_33_method_13_code 4 (some .int) ws ({ frames := 0, cells := 0, slots := 0, locals := 0 } : Room) #[(.int v_)] h0 (Q_rm_ssz Z v_ h0) := by
  refine Ctr.intro (Ls := fun _ => #[.val (.int v_), .unset, .unset, .unset]) (plainFor_of_name pn18) (fun m => by first | rfl | (simp [entryFrame, mkF, argsToLocals, Value.category]; done)) ?_
  intro p e s m below meth c s₁ hx hby hml hr hlk hZ hown hnm hs0 X0 e0
  have w : ∀ (k : Nat) (d : Jvm.Cond), tables_1[k]? = some d → d.before a0 Z = true := fun k d q => hw d (List.mem_of_getElem? q)
  have N0 := Fk.nil h0.size []
  refine Wk.iconst X0 hx (v := (1 : Int32)) (hb hby d25_0) rfl rfl ?_
  refine Wk.istoreN X0 hx (Ls' := #[.val (.int v_), .val (.int (1 : Int32)), .unset, .unset]) (hb hby d25_1) rfl rfl ?_
  refine Wk.iloadN X0 hx (hb hby d25_2) rfl rfl ?_
  by_cases hc1 : v_ < (0 : Int32)
  · skip
    refine Wk.ifYes X0 hx (hb hby d25_3) (by decide) (q := 11) rfl ((if0 _ _).trans (tlt hc1).1) ?_
    refine Wk.bipush X0 hx (v := (-10 : Int32)) (hb hby d25_11) rfl rfl ?_
    refine Wk.istoreN X0 hx (Ls' := #[.val (.int v_), .val (.int (1 : Int32)), .val (.int (-10 : Int32)), .unset]) (hb hby d25_13) rfl rfl ?_
    refine Wk.iconst X0 hx (v := (1 : Int32)) (hb hby d25_14) rfl rfl ?_
    refine Wk.istoreN X0 hx (Ls' := #[.val (.int v_), .val (.int (1 : Int32)), .val (.int (-10 : Int32)), .val (.int (1 : Int32))]) (hb hby d25_15) rfl rfl ?_
    refine Wk.iloadN X0 hx (hb hby d25_16) rfl rfl ?_
    refine Wk.bipush X0 hx (v := (10 : Int32)) (hb hby d25_17) rfl rfl ?_
    refine Wk.icmpNo X0 hx (hb hby d25_19) rfl (tlt (by decide : (1 : Int32) < (10 : Int32))).2.1 ?_
    refine Wk.iloadN X0 hx (hb hby d25_22) rfl rfl ?_
    refine Wk.iloadN X0 hx (hb hby d25_23) rfl rfl ?_
    by_cases hc2 : (-10 : Int32) < v_
    · skip
      refine Wk.icmpNo X0 hx (hb hby d25_24) rfl (tlt hc2).2.2.2 ?_
      refine Wk.iloadN X0 hx (hb hby d25_27) rfl rfl ?_
      refine Wk.iloadN X0 hx (hb hby d25_28) rfl rfl ?_
      refine Wk.iadd X0 hx (hb hby d25_29) rfl ?_
      rw [(by decide : (((1 : Int32) + (1 : Int32)) : Int32) = (2 : Int32))]
      exact Wk.retI' X0 hx hlk hr (hb hby d25_30) (by decide) (by decide) (Qc := Q_rm_ssz Z v_ h0) e0 ⟨(2 : Int32), rfl, N0, rfl, (own_sizN (pl := 0) 1 hc1 (Or.inl rfl) (Or.inr ⟨hc2, own_pw1⟩) (by decide) rfl)⟩
    refine Wk.icmpYes X0 hx (hb hby d25_24) (by decide) (q := 31) rfl (flt hc2).2.2.2 ?_
    refine Wk.bipush X0 hx (v := (10 : Int32)) (hb hby d25_31) rfl rfl ?_
    refine Wk.iloadN X0 hx (hb hby d25_33) rfl rfl ?_
    refine Wk.imul X0 hx (hb hby d25_34) rfl ?_
    rw [(by decide : (((10 : Int32) * (-10 : Int32)) : Int32) = (-100 : Int32))]
    refine Wk.istoreN X0 hx (Ls' := #[.val (.int v_), .val (.int (1 : Int32)), .val (.int (-100 : Int32)), .val (.int (1 : Int32))]) (hb hby d25_35) rfl rfl ?_
    refine Wk.iinc X0 hx (Ls' := #[.val (.int v_), .val (.int (1 : Int32)), .val (.int (-100 : Int32)), .val (.int (2 : Int32))]) (hb hby d25_36) rfl rfl rfl ?_
    refine Wk.goto X0 hx (hb hby d25_39) (by decide) (q := 16) rfl ?_
    refine Wk.iloadN X0 hx (hb hby d25_16) rfl rfl ?_
    refine Wk.bipush X0 hx (v := (10 : Int32)) (hb hby d25_17) rfl rfl ?_
    refine Wk.icmpNo X0 hx (hb hby d25_19) rfl (tlt (by decide : (2 : Int32) < (10 : Int32))).2.1 ?_
    refine Wk.iloadN X0 hx (hb hby d25_22) rfl rfl ?_
    refine Wk.iloadN X0 hx (hb hby d25_23) rfl rfl ?_
    by_cases hc3 : (-100 : Int32) < v_
    · skip
      refine Wk.icmpNo X0 hx (hb hby d25_24) rfl (tlt hc3).2.2.2 ?_
      refine Wk.iloadN X0 hx (hb hby d25_27) rfl rfl ?_
      refine Wk.iloadN X0 hx (hb hby d25_28) rfl rfl ?_
      refine Wk.iadd X0 hx (hb hby d25_29) rfl ?_
      rw [(by decide : (((2 : Int32) + (1 : Int32)) : Int32) = (3 : Int32))]
      exact Wk.retI' X0 hx hlk hr (hb hby d25_30) (by decide) (by decide) (Qc := Q_rm_ssz Z v_ h0) e0 ⟨(3 : Int32), rfl, N0, rfl, (own_sizN 2 hc1 (Or.inr ⟨hc2, own_pw1⟩) (Or.inr ⟨hc3, own_pw2⟩) (by decide) rfl)⟩
    refine Wk.icmpYes X0 hx (hb hby d25_24) (by decide) (q := 31) rfl (flt hc3).2.2.2 ?_
    refine Wk.bipush X0 hx (v := (10 : Int32)) (hb hby d25_31) rfl rfl ?_
    refine Wk.iloadN X0 hx (hb hby d25_33) rfl rfl ?_
    refine Wk.imul X0 hx (hb hby d25_34) rfl ?_
    rw [(by decide : (((10 : Int32) * (-100 : Int32)) : Int32) = (-1000 : Int32))]
    refine Wk.istoreN X0 hx (Ls' := #[.val (.int v_), .val (.int (1 : Int32)), .val (.int (-1000 : Int32)), .val (.int (2 : Int32))]) (hb hby d25_35) rfl rfl ?_
    refine Wk.iinc X0 hx (Ls' := #[.val (.int v_), .val (.int (1 : Int32)), .val (.int (-1000 : Int32)), .val (.int (3 : Int32))]) (hb hby d25_36) rfl rfl rfl ?_
    refine Wk.goto X0 hx (hb hby d25_39) (by decide) (q := 16) rfl ?_
    refine Wk.iloadN X0 hx (hb hby d25_16) rfl rfl ?_
    refine Wk.bipush X0 hx (v := (10 : Int32)) (hb hby d25_17) rfl rfl ?_
    refine Wk.icmpNo X0 hx (hb hby d25_19) rfl (tlt (by decide : (3 : Int32) < (10 : Int32))).2.1 ?_
    refine Wk.iloadN X0 hx (hb hby d25_22) rfl rfl ?_
    refine Wk.iloadN X0 hx (hb hby d25_23) rfl rfl ?_
    by_cases hc4 : (-1000 : Int32) < v_
    · skip
      refine Wk.icmpNo X0 hx (hb hby d25_24) rfl (tlt hc4).2.2.2 ?_
      refine Wk.iloadN X0 hx (hb hby d25_27) rfl rfl ?_
      refine Wk.iloadN X0 hx (hb hby d25_28) rfl rfl ?_
      refine Wk.iadd X0 hx (hb hby d25_29) rfl ?_
      rw [(by decide : (((3 : Int32) + (1 : Int32)) : Int32) = (4 : Int32))]
      exact Wk.retI' X0 hx hlk hr (hb hby d25_30) (by decide) (by decide) (Qc := Q_rm_ssz Z v_ h0) e0 ⟨(4 : Int32), rfl, N0, rfl, (own_sizN 3 hc1 (Or.inr ⟨hc3, own_pw2⟩) (Or.inr ⟨hc4, own_pw3⟩) (by decide) rfl)⟩
    refine Wk.icmpYes X0 hx (hb hby d25_24) (by decide) (q := 31) rfl (flt hc4).2.2.2 ?_
    refine Wk.bipush X0 hx (v := (10 : Int32)) (hb hby d25_31) rfl rfl ?_
    refine Wk.iloadN X0 hx (hb hby d25_33) rfl rfl ?_
    refine Wk.imul X0 hx (hb hby d25_34) rfl ?_
    rw [(by decide : (((10 : Int32) * (-1000 : Int32)) : Int32) = (-10000 : Int32))]
    refine Wk.istoreN X0 hx (Ls' := #[.val (.int v_), .val (.int (1 : Int32)), .val (.int (-10000 : Int32)), .val (.int (3 : Int32))]) (hb hby d25_35) rfl rfl ?_
    refine Wk.iinc X0 hx (Ls' := #[.val (.int v_), .val (.int (1 : Int32)), .val (.int (-10000 : Int32)), .val (.int (4 : Int32))]) (hb hby d25_36) rfl rfl rfl ?_
    refine Wk.goto X0 hx (hb hby d25_39) (by decide) (q := 16) rfl ?_
    refine Wk.iloadN X0 hx (hb hby d25_16) rfl rfl ?_
    refine Wk.bipush X0 hx (v := (10 : Int32)) (hb hby d25_17) rfl rfl ?_
    refine Wk.icmpNo X0 hx (hb hby d25_19) rfl (tlt (by decide : (4 : Int32) < (10 : Int32))).2.1 ?_
    refine Wk.iloadN X0 hx (hb hby d25_22) rfl rfl ?_
    refine Wk.iloadN X0 hx (hb hby d25_23) rfl rfl ?_
    by_cases hc5 : (-10000 : Int32) < v_
    · skip
      refine Wk.icmpNo X0 hx (hb hby d25_24) rfl (tlt hc5).2.2.2 ?_
      refine Wk.iloadN X0 hx (hb hby d25_27) rfl rfl ?_
      refine Wk.iloadN X0 hx (hb hby d25_28) rfl rfl ?_
      refine Wk.iadd X0 hx (hb hby d25_29) rfl ?_
      rw [(by decide : (((4 : Int32) + (1 : Int32)) : Int32) = (5 : Int32))]
      exact Wk.retI' X0 hx hlk hr (hb hby d25_30) (by decide) (by decide) (Qc := Q_rm_ssz Z v_ h0) e0 ⟨(5 : Int32), rfl, N0, rfl, (own_sizN 4 hc1 (Or.inr ⟨hc4, own_pw3⟩) (Or.inr ⟨hc5, own_pw4⟩) (by decide) rfl)⟩
    refine Wk.icmpYes X0 hx (hb hby d25_24) (by decide) (q := 31) rfl (flt hc5).2.2.2 ?_
    refine Wk.bipush X0 hx (v := (10 : Int32)) (hb hby d25_31) rfl rfl ?_
    refine Wk.iloadN X0 hx (hb hby d25_33) rfl rfl ?_
    refine Wk.imul X0 hx (hb hby d25_34) rfl ?_
    rw [(by decide : (((10 : Int32) * (-10000 : Int32)) : Int32) = (-100000 : Int32))]
    refine Wk.istoreN X0 hx (Ls' := #[.val (.int v_), .val (.int (1 : Int32)), .val (.int (-100000 : Int32)), .val (.int (4 : Int32))]) (hb hby d25_35) rfl rfl ?_
    refine Wk.iinc X0 hx (Ls' := #[.val (.int v_), .val (.int (1 : Int32)), .val (.int (-100000 : Int32)), .val (.int (5 : Int32))]) (hb hby d25_36) rfl rfl rfl ?_
    refine Wk.goto X0 hx (hb hby d25_39) (by decide) (q := 16) rfl ?_
    refine Wk.iloadN X0 hx (hb hby d25_16) rfl rfl ?_
    refine Wk.bipush X0 hx (v := (10 : Int32)) (hb hby d25_17) rfl rfl ?_
    refine Wk.icmpNo X0 hx (hb hby d25_19) rfl (tlt (by decide : (5 : Int32) < (10 : Int32))).2.1 ?_
    refine Wk.iloadN X0 hx (hb hby d25_22) rfl rfl ?_
    refine Wk.iloadN X0 hx (hb hby d25_23) rfl rfl ?_
    by_cases hc6 : (-100000 : Int32) < v_
    · skip
      refine Wk.icmpNo X0 hx (hb hby d25_24) rfl (tlt hc6).2.2.2 ?_
      refine Wk.iloadN X0 hx (hb hby d25_27) rfl rfl ?_
      refine Wk.iloadN X0 hx (hb hby d25_28) rfl rfl ?_
      refine Wk.iadd X0 hx (hb hby d25_29) rfl ?_
      rw [(by decide : (((5 : Int32) + (1 : Int32)) : Int32) = (6 : Int32))]
      exact Wk.retI' X0 hx hlk hr (hb hby d25_30) (by decide) (by decide) (Qc := Q_rm_ssz Z v_ h0) e0 ⟨(6 : Int32), rfl, N0, rfl, (own_sizN 5 hc1 (Or.inr ⟨hc5, own_pw4⟩) (Or.inr ⟨hc6, own_pw5⟩) (by decide) rfl)⟩
    refine Wk.icmpYes X0 hx (hb hby d25_24) (by decide) (q := 31) rfl (flt hc6).2.2.2 ?_
    refine Wk.bipush X0 hx (v := (10 : Int32)) (hb hby d25_31) rfl rfl ?_
    refine Wk.iloadN X0 hx (hb hby d25_33) rfl rfl ?_
    refine Wk.imul X0 hx (hb hby d25_34) rfl ?_
    rw [(by decide : (((10 : Int32) * (-100000 : Int32)) : Int32) = (-1000000 : Int32))]
    refine Wk.istoreN X0 hx (Ls' := #[.val (.int v_), .val (.int (1 : Int32)), .val (.int (-1000000 : Int32)), .val (.int (5 : Int32))]) (hb hby d25_35) rfl rfl ?_
    refine Wk.iinc X0 hx (Ls' := #[.val (.int v_), .val (.int (1 : Int32)), .val (.int (-1000000 : Int32)), .val (.int (6 : Int32))]) (hb hby d25_36) rfl rfl rfl ?_
    refine Wk.goto X0 hx (hb hby d25_39) (by decide) (q := 16) rfl ?_
    refine Wk.iloadN X0 hx (hb hby d25_16) rfl rfl ?_
    refine Wk.bipush X0 hx (v := (10 : Int32)) (hb hby d25_17) rfl rfl ?_
    refine Wk.icmpNo X0 hx (hb hby d25_19) rfl (tlt (by decide : (6 : Int32) < (10 : Int32))).2.1 ?_
    refine Wk.iloadN X0 hx (hb hby d25_22) rfl rfl ?_
    refine Wk.iloadN X0 hx (hb hby d25_23) rfl rfl ?_
    by_cases hc7 : (-1000000 : Int32) < v_
    · skip
      refine Wk.icmpNo X0 hx (hb hby d25_24) rfl (tlt hc7).2.2.2 ?_
      refine Wk.iloadN X0 hx (hb hby d25_27) rfl rfl ?_
      refine Wk.iloadN X0 hx (hb hby d25_28) rfl rfl ?_
      refine Wk.iadd X0 hx (hb hby d25_29) rfl ?_
      rw [(by decide : (((6 : Int32) + (1 : Int32)) : Int32) = (7 : Int32))]
      exact Wk.retI' X0 hx hlk hr (hb hby d25_30) (by decide) (by decide) (Qc := Q_rm_ssz Z v_ h0) e0 ⟨(7 : Int32), rfl, N0, rfl, (own_sizN 6 hc1 (Or.inr ⟨hc6, own_pw5⟩) (Or.inr ⟨hc7, own_pw6⟩) (by decide) rfl)⟩
    refine Wk.icmpYes X0 hx (hb hby d25_24) (by decide) (q := 31) rfl (flt hc7).2.2.2 ?_
    refine Wk.bipush X0 hx (v := (10 : Int32)) (hb hby d25_31) rfl rfl ?_
    refine Wk.iloadN X0 hx (hb hby d25_33) rfl rfl ?_
    refine Wk.imul X0 hx (hb hby d25_34) rfl ?_
    rw [(by decide : (((10 : Int32) * (-1000000 : Int32)) : Int32) = (-10000000 : Int32))]
    refine Wk.istoreN X0 hx (Ls' := #[.val (.int v_), .val (.int (1 : Int32)), .val (.int (-10000000 : Int32)), .val (.int (6 : Int32))]) (hb hby d25_35) rfl rfl ?_
    refine Wk.iinc X0 hx (Ls' := #[.val (.int v_), .val (.int (1 : Int32)), .val (.int (-10000000 : Int32)), .val (.int (7 : Int32))]) (hb hby d25_36) rfl rfl rfl ?_
    refine Wk.goto X0 hx (hb hby d25_39) (by decide) (q := 16) rfl ?_
    refine Wk.iloadN X0 hx (hb hby d25_16) rfl rfl ?_
    refine Wk.bipush X0 hx (v := (10 : Int32)) (hb hby d25_17) rfl rfl ?_
    refine Wk.icmpNo X0 hx (hb hby d25_19) rfl (tlt (by decide : (7 : Int32) < (10 : Int32))).2.1 ?_
    refine Wk.iloadN X0 hx (hb hby d25_22) rfl rfl ?_
    refine Wk.iloadN X0 hx (hb hby d25_23) rfl rfl ?_
    by_cases hc8 : (-10000000 : Int32) < v_
    · skip
      refine Wk.icmpNo X0 hx (hb hby d25_24) rfl (tlt hc8).2.2.2 ?_
      refine Wk.iloadN X0 hx (hb hby d25_27) rfl rfl ?_
      refine Wk.iloadN X0 hx (hb hby d25_28) rfl rfl ?_
      refine Wk.iadd X0 hx (hb hby d25_29) rfl ?_
      rw [(by decide : (((7 : Int32) + (1 : Int32)) : Int32) = (8 : Int32))]
      exact Wk.retI' X0 hx hlk hr (hb hby d25_30) (by decide) (by decide) (Qc := Q_rm_ssz Z v_ h0) e0 ⟨(8 : Int32), rfl, N0, rfl, (own_sizN 7 hc1 (Or.inr ⟨hc7, own_pw6⟩) (Or.inr ⟨hc8, own_pw7⟩) (by decide) rfl)⟩
    refine Wk.icmpYes X0 hx (hb hby d25_24) (by decide) (q := 31) rfl (flt hc8).2.2.2 ?_
    refine Wk.bipush X0 hx (v := (10 : Int32)) (hb hby d25_31) rfl rfl ?_
    refine Wk.iloadN X0 hx (hb hby d25_33) rfl rfl ?_
    refine Wk.imul X0 hx (hb hby d25_34) rfl ?_
    rw [(by decide : (((10 : Int32) * (-10000000 : Int32)) : Int32) = (-100000000 : Int32))]
    refine Wk.istoreN X0 hx (Ls' := #[.val (.int v_), .val (.int (1 : Int32)), .val (.int (-100000000 : Int32)), .val (.int (7 : Int32))]) (hb hby d25_35) rfl rfl ?_
    refine Wk.iinc X0 hx (Ls' := #[.val (.int v_), .val (.int (1 : Int32)), .val (.int (-100000000 : Int32)), .val (.int (8 : Int32))]) (hb hby d25_36) rfl rfl rfl ?_
    refine Wk.goto X0 hx (hb hby d25_39) (by decide) (q := 16) rfl ?_
    refine Wk.iloadN X0 hx (hb hby d25_16) rfl rfl ?_
    refine Wk.bipush X0 hx (v := (10 : Int32)) (hb hby d25_17) rfl rfl ?_
    refine Wk.icmpNo X0 hx (hb hby d25_19) rfl (tlt (by decide : (8 : Int32) < (10 : Int32))).2.1 ?_
    refine Wk.iloadN X0 hx (hb hby d25_22) rfl rfl ?_
    refine Wk.iloadN X0 hx (hb hby d25_23) rfl rfl ?_
    by_cases hc9 : (-100000000 : Int32) < v_
    · skip
      refine Wk.icmpNo X0 hx (hb hby d25_24) rfl (tlt hc9).2.2.2 ?_
      refine Wk.iloadN X0 hx (hb hby d25_27) rfl rfl ?_
      refine Wk.iloadN X0 hx (hb hby d25_28) rfl rfl ?_
      refine Wk.iadd X0 hx (hb hby d25_29) rfl ?_
      rw [(by decide : (((8 : Int32) + (1 : Int32)) : Int32) = (9 : Int32))]
      exact Wk.retI' X0 hx hlk hr (hb hby d25_30) (by decide) (by decide) (Qc := Q_rm_ssz Z v_ h0) e0 ⟨(9 : Int32), rfl, N0, rfl, (own_sizN 8 hc1 (Or.inr ⟨hc8, own_pw7⟩) (Or.inr ⟨hc9, own_pw8⟩) (by decide) rfl)⟩
    refine Wk.icmpYes X0 hx (hb hby d25_24) (by decide) (q := 31) rfl (flt hc9).2.2.2 ?_
    refine Wk.bipush X0 hx (v := (10 : Int32)) (hb hby d25_31) rfl rfl ?_
    refine Wk.iloadN X0 hx (hb hby d25_33) rfl rfl ?_
    refine Wk.imul X0 hx (hb hby d25_34) rfl ?_
    rw [(by decide : (((10 : Int32) * (-100000000 : Int32)) : Int32) = (-1000000000 : Int32))]
    refine Wk.istoreN X0 hx (Ls' := #[.val (.int v_), .val (.int (1 : Int32)), .val (.int (-1000000000 : Int32)), .val (.int (8 : Int32))]) (hb hby d25_35) rfl rfl ?_
    refine Wk.iinc X0 hx (Ls' := #[.val (.int v_), .val (.int (1 : Int32)), .val (.int (-1000000000 : Int32)), .val (.int (9 : Int32))]) (hb hby d25_36) rfl rfl rfl ?_
    refine Wk.goto X0 hx (hb hby d25_39) (by decide) (q := 16) rfl ?_
    refine Wk.iloadN X0 hx (hb hby d25_16) rfl rfl ?_
    refine Wk.bipush X0 hx (v := (10 : Int32)) (hb hby d25_17) rfl rfl ?_
    refine Wk.icmpNo X0 hx (hb hby d25_19) rfl (tlt (by decide : (9 : Int32) < (10 : Int32))).2.1 ?_
    refine Wk.iloadN X0 hx (hb hby d25_22) rfl rfl ?_
    refine Wk.iloadN X0 hx (hb hby d25_23) rfl rfl ?_
    by_cases hc10 : (-1000000000 : Int32) < v_
    · skip
      refine Wk.icmpNo X0 hx (hb hby d25_24) rfl (tlt hc10).2.2.2 ?_
      refine Wk.iloadN X0 hx (hb hby d25_27) rfl rfl ?_
      refine Wk.iloadN X0 hx (hb hby d25_28) rfl rfl ?_
      refine Wk.iadd X0 hx (hb hby d25_29) rfl ?_
      rw [(by decide : (((9 : Int32) + (1 : Int32)) : Int32) = (10 : Int32))]
      exact Wk.retI' X0 hx hlk hr (hb hby d25_30) (by decide) (by decide) (Qc := Q_rm_ssz Z v_ h0) e0 ⟨(10 : Int32), rfl, N0, rfl, (own_sizN 9 hc1 (Or.inr ⟨hc9, own_pw8⟩) (Or.inr ⟨hc10, own_pw9⟩) (by decide) rfl)⟩
    refine Wk.icmpYes X0 hx (hb hby d25_24) (by decide) (q := 31) rfl (flt hc10).2.2.2 ?_
    refine Wk.bipush X0 hx (v := (10 : Int32)) (hb hby d25_31) rfl rfl ?_
    refine Wk.iloadN X0 hx (hb hby d25_33) rfl rfl ?_
    refine Wk.imul X0 hx (hb hby d25_34) rfl ?_
    rw [(by decide : (((10 : Int32) * (-1000000000 : Int32)) : Int32) = (-1410065408 : Int32))]
    refine Wk.istoreN X0 hx (Ls' := #[.val (.int v_), .val (.int (1 : Int32)), .val (.int (-1410065408 : Int32)), .val (.int (9 : Int32))]) (hb hby d25_35) rfl rfl ?_
    refine Wk.iinc X0 hx (Ls' := #[.val (.int v_), .val (.int (1 : Int32)), .val (.int (-1410065408 : Int32)), .val (.int (10 : Int32))]) (hb hby d25_36) rfl rfl rfl ?_
    refine Wk.goto X0 hx (hb hby d25_39) (by decide) (q := 16) rfl ?_
    refine Wk.iloadN X0 hx (hb hby d25_16) rfl rfl ?_
    refine Wk.bipush X0 hx (v := (10 : Int32)) (hb hby d25_17) rfl rfl ?_
    refine Wk.icmpYes X0 hx (hb hby d25_19) (by decide) (q := 42) rfl (flt (by decide : ¬ ((10 : Int32) < (10 : Int32)))).2.1 ?_
    refine Wk.bipush X0 hx (v := (10 : Int32)) (hb hby d25_42) rfl rfl ?_
    refine Wk.iloadN X0 hx (hb hby d25_44) rfl rfl ?_
    refine Wk.iadd X0 hx (hb hby d25_45) rfl ?_
    rw [(by decide : (((10 : Int32) + (1 : Int32)) : Int32) = (11 : Int32))]
    exact Wk.retI' X0 hx hlk hr (hb hby d25_46) (by decide) (by decide) (Qc := Q_rm_ssz Z v_ h0) e0 ⟨(11 : Int32), rfl, N0, rfl, (own_sizN (ph := 0) 10 hc1 (Or.inr ⟨hc10, own_pw9⟩) (Or.inl rfl) (by decide) rfl)⟩
  refine Wk.ifNo X0 hx (hb hby d25_3) rfl ((if0 _ _).trans (flt hc1).1) ?_
  refine Wk.iconst X0 hx (v := (0 : Int32)) (hb hby d25_6) rfl rfl ?_
  refine Wk.istoreN X0 hx (Ls' := #[.val (.int v_), .val (.int (0 : Int32)), .unset, .unset]) (hb hby d25_7) rfl rfl ?_
  refine Wk.iloadN X0 hx (hb hby d25_8) rfl rfl ?_
  refine Wk.ineg X0 hx (hb hby d25_9) rfl ?_
  refine Wk.istoreNA X0 hx (Ls' := fun z => #[.val (.int z), .val (.int (0 : Int32)), .unset, .unset]) (hb hby d25_10) rfl (fun _ => rfl) ?_
  intro i11 hi11
  show Wp p e below _ _ s₁ (mkF m 11 #[.val (.int i11), .val (.int (0 : Int32)), .unset, .unset] [])
  refine Wk.bipush X0 hx (v := (-10 : Int32)) (hb hby d25_11) rfl rfl ?_
  refine Wk.istoreN X0 hx (Ls' := #[.val (.int i11), .val (.int (0 : Int32)), .val (.int (-10 : Int32)), .unset]) (hb hby d25_13) rfl rfl ?_
  refine Wk.iconst X0 hx (v := (1 : Int32)) (hb hby d25_14) rfl rfl ?_
  refine Wk.istoreN X0 hx (Ls' := #[.val (.int i11), .val (.int (0 : Int32)), .val (.int (-10 : Int32)), .val (.int (1 : Int32))]) (hb hby d25_15) rfl rfl ?_
  refine Wk.iloadN X0 hx (hb hby d25_16) rfl rfl ?_
  refine Wk.bipush X0 hx (v := (10 : Int32)) (hb hby d25_17) rfl rfl ?_
  refine Wk.icmpNo X0 hx (hb hby d25_19) rfl (tlt (by decide : (1 : Int32) < (10 : Int32))).2.1 ?_
  refine Wk.iloadN X0 hx (hb hby d25_22) rfl rfl ?_
  refine Wk.iloadN X0 hx (hb hby d25_23) rfl rfl ?_
  by_cases hc12 : (-10 : Int32) < i11
  · skip
    refine Wk.icmpNo X0 hx (hb hby d25_24) rfl (tlt hc12).2.2.2 ?_
    refine Wk.iloadN X0 hx (hb hby d25_27) rfl rfl ?_
    refine Wk.iloadN X0 hx (hb hby d25_28) rfl rfl ?_
    refine Wk.iadd X0 hx (hb hby d25_29) rfl ?_
    rw [(by decide : (((1 : Int32) + (0 : Int32)) : Int32) = (1 : Int32))]
    exact Wk.retI' X0 hx hlk hr (hb hby d25_30) (by decide) (by decide) (Qc := Q_rm_ssz Z v_ h0) e0 ⟨(1 : Int32), rfl, N0, rfl, (own_sizP (pl := 0) 1 hc1 hi11 (Or.inl rfl) (Or.inr ⟨hc12, own_pw1⟩) (by decide) rfl)⟩
  refine Wk.icmpYes X0 hx (hb hby d25_24) (by decide) (q := 31) rfl (flt hc12).2.2.2 ?_
  refine Wk.bipush X0 hx (v := (10 : Int32)) (hb hby d25_31) rfl rfl ?_
  refine Wk.iloadN X0 hx (hb hby d25_33) rfl rfl ?_
  refine Wk.imul X0 hx (hb hby d25_34) rfl ?_
  rw [(by decide : (((10 : Int32) * (-10 : Int32)) : Int32) = (-100 : Int32))]
  refine Wk.istoreN X0 hx (Ls' := #[.val (.int i11), .val (.int (0 : Int32)), .val (.int (-100 : Int32)), .val (.int (1 : Int32))]) (hb hby d25_35) rfl rfl ?_
  refine Wk.iinc X0 hx (Ls' := #[.val (.int i11), .val (.int (0 : Int32)), .val (.int (-100 : Int32)), .val (.int (2 : Int32))]) (hb hby d25_36) rfl rfl rfl ?_
  refine Wk.goto X0 hx (hb hby d25_39) (by decide) (q := 16) rfl ?_
  refine Wk.iloadN X0 hx (hb hby d25_16) rfl rfl ?_
  refine Wk.bipush X0 hx (v := (10 : Int32)) (hb hby d25_17) rfl rfl ?_
  refine Wk.icmpNo X0 hx (hb hby d25_19) rfl (tlt (by decide : (2 : Int32) < (10 : Int32))).2.1 ?_
  refine Wk.iloadN X0 hx (hb hby d25_22) rfl rfl ?_
  refine Wk.iloadN X0 hx (hb hby d25_23) rfl rfl ?_
  by_cases hc13 : (-100 : Int32) < i11
  · skip
    refine Wk.icmpNo X0 hx (hb hby d25_24) rfl (tlt hc13).2.2.2 ?_
    refine Wk.iloadN X0 hx (hb hby d25_27) rfl rfl ?_
    refine Wk.iloadN X0 hx (hb hby d25_28) rfl rfl ?_
    refine Wk.iadd X0 hx (hb hby d25_29) rfl ?_
    rw [(by decide : (((2 : Int32) + (0 : Int32)) : Int32) = (2 : Int32))]
    exact Wk.retI' X0 hx hlk hr (hb hby d25_30) (by decide) (by decide) (Qc := Q_rm_ssz Z v_ h0) e0 ⟨(2 : Int32), rfl, N0, rfl, (own_sizP 2 hc1 hi11 (Or.inr ⟨hc12, own_pw1⟩) (Or.inr ⟨hc13, own_pw2⟩) (by decide) rfl)⟩
  refine Wk.icmpYes X0 hx (hb hby d25_24) (by decide) (q := 31) rfl (flt hc13).2.2.2 ?_
  refine Wk.bipush X0 hx (v := (10 : Int32)) (hb hby d25_31) rfl rfl ?_
  refine Wk.iloadN X0 hx (hb hby d25_33) rfl rfl ?_
  refine Wk.imul X0 hx (hb hby d25_34) rfl ?_
  rw [(by decide : (((10 : Int32) * (-100 : Int32)) : Int32) = (-1000 : Int32))]
  refine Wk.istoreN X0 hx (Ls' := #[.val (.int i11), .val (.int (0 : Int32)), .val (.int (-1000 : Int32)), .val (.int (2 : Int32))]) (hb hby d25_35) rfl rfl ?_
  refine Wk.iinc X0 hx (Ls' := #[.val (.int i11), .val (.int (0 : Int32)), .val (.int (-1000 : Int32)), .val (.int (3 : Int32))]) (hb hby d25_36) rfl rfl rfl ?_
  refine Wk.goto X0 hx (hb hby d25_39) (by decide) (q := 16) rfl ?_
  refine Wk.iloadN X0 hx (hb hby d25_16) rfl rfl ?_
  refine Wk.bipush X0 hx (v := (10 : Int32)) (hb hby d25_17) rfl rfl ?_
  refine Wk.icmpNo X0 hx (hb hby d25_19) rfl (tlt (by decide : (3 : Int32) < (10 : Int32))).2.1 ?_
  refine Wk.iloadN X0 hx (hb hby d25_22) rfl rfl ?_
  refine Wk.iloadN X0 hx (hb hby d25_23) rfl rfl ?_
  by_cases hc14 : (-1000 : Int32) < i11
  · skip
    refine Wk.icmpNo X0 hx (hb hby d25_24) rfl (tlt hc14).2.2.2 ?_
    refine Wk.iloadN X0 hx (hb hby d25_27) rfl rfl ?_
    refine Wk.iloadN X0 hx (hb hby d25_28) rfl rfl ?_
    refine Wk.iadd X0 hx (hb hby d25_29) rfl ?_
    rw [(by decide : (((3 : Int32) + (0 : Int32)) : Int32) = (3 : Int32))]
    exact Wk.retI' X0 hx hlk hr (hb hby d25_30) (by decide) (by decide) (Qc := Q_rm_ssz Z v_ h0) e0 ⟨(3 : Int32), rfl, N0, rfl, (own_sizP 3 hc1 hi11 (Or.inr ⟨hc13, own_pw2⟩) (Or.inr ⟨hc14, own_pw3⟩) (by decide) rfl)⟩
  refine Wk.icmpYes X0 hx (hb hby d25_24) (by decide) (q := 31) rfl (flt hc14).2.2.2 ?_
  refine Wk.bipush X0 hx (v := (10 : Int32)) (hb hby d25_31) rfl rfl ?_
  refine Wk.iloadN X0 hx (hb hby d25_33) rfl rfl ?_
  refine Wk.imul X0 hx (hb hby d25_34) rfl ?_
  rw [(by decide : (((10 : Int32) * (-1000 : Int32)) : Int32) = (-10000 : Int32))]
  refine Wk.istoreN X0 hx (Ls' := #[.val (.int i11), .val (.int (0 : Int32)), .val (.int (-10000 : Int32)), .val (.int (3 : Int32))]) (hb hby d25_35) rfl rfl ?_
  refine Wk.iinc X0 hx (Ls' := #[.val (.int i11), .val (.int (0 : Int32)), .val (.int (-10000 : Int32)), .val (.int (4 : Int32))]) (hb hby d25_36) rfl rfl rfl ?_
  refine Wk.goto X0 hx (hb hby d25_39) (by decide) (q := 16) rfl ?_
  refine Wk.iloadN X0 hx (hb hby d25_16) rfl rfl ?_
  refine Wk.bipush X0 hx (v := (10 : Int32)) (hb hby d25_17) rfl rfl ?_
  refine Wk.icmpNo X0 hx (hb hby d25_19) rfl (tlt (by decide : (4 : Int32) < (10 : Int32))).2.1 ?_
  refine Wk.iloadN X0 hx (hb hby d25_22) rfl rfl ?_
  refine Wk.iloadN X0 hx (hb hby d25_23) rfl rfl ?_
  by_cases hc15 : (-10000 : Int32) < i11
  · skip
    refine Wk.icmpNo X0 hx (hb hby d25_24) rfl (tlt hc15).2.2.2 ?_
    refine Wk.iloadN X0 hx (hb hby d25_27) rfl rfl ?_
    refine Wk.iloadN X0 hx (hb hby d25_28) rfl rfl ?_
    refine Wk.iadd X0 hx (hb hby d25_29) rfl ?_
    rw [(by decide : (((4 : Int32) + (0 : Int32)) : Int32) = (4 : Int32))]
    exact Wk.retI' X0 hx hlk hr (hb hby d25_30) (by decide) (by decide) (Qc := Q_rm_ssz Z v_ h0) e0 ⟨(4 : Int32), rfl, N0, rfl, (own_sizP 4 hc1 hi11 (Or.inr ⟨hc14, own_pw3⟩) (Or.inr ⟨hc15, own_pw4⟩) (by decide) rfl)⟩
  refine Wk.icmpYes X0 hx (hb hby d25_24) (by decide) (q := 31) rfl (flt hc15).2.2.2 ?_
  refine Wk.bipush X0 hx (v := (10 : Int32)) (hb hby d25_31) rfl rfl ?_
  refine Wk.iloadN X0 hx (hb hby d25_33) rfl rfl ?_
  refine Wk.imul X0 hx (hb hby d25_34) rfl ?_
  rw [(by decide : (((10 : Int32) * (-10000 : Int32)) : Int32) = (-100000 : Int32))]
  refine Wk.istoreN X0 hx (Ls' := #[.val (.int i11), .val (.int (0 : Int32)), .val (.int (-100000 : Int32)), .val (.int (4 : Int32))]) (hb hby d25_35) rfl rfl ?_
  refine Wk.iinc X0 hx (Ls' := #[.val (.int i11), .val (.int (0 : Int32)), .val (.int (-100000 : Int32)), .val (.int (5 : Int32))]) (hb hby d25_36) rfl rfl rfl ?_
  refine Wk.goto X0 hx (hb hby d25_39) (by decide) (q := 16) rfl ?_
  refine Wk.iloadN X0 hx (hb hby d25_16) rfl rfl ?_
  refine Wk.bipush X0 hx (v := (10 : Int32)) (hb hby d25_17) rfl rfl ?_
  refine Wk.icmpNo X0 hx (hb hby d25_19) rfl (tlt (by decide : (5 : Int32) < (10 : Int32))).2.1 ?_
  refine Wk.iloadN X0 hx (hb hby d25_22) rfl rfl ?_
  refine Wk.iloadN X0 hx (hb hby d25_23) rfl rfl ?_
  by_cases hc16 : (-100000 : Int32) < i11
  · skip
    refine Wk.icmpNo X0 hx (hb hby d25_24) rfl (tlt hc16).2.2.2 ?_
    refine Wk.iloadN X0 hx (hb hby d25_27) rfl rfl ?_
    refine Wk.iloadN X0 hx (hb hby d25_28) rfl rfl ?_
    refine Wk.iadd X0 hx (hb hby d25_29) rfl ?_
    rw [(by decide : (((5 : Int32) + (0 : Int32)) : Int32) = (5 : Int32))]
    exact Wk.retI' X0 hx hlk hr (hb hby d25_30) (by decide) (by decide) (Qc := Q_rm_ssz Z v_ h0) e0 ⟨(5 : Int32), rfl, N0, rfl, (own_sizP 5 hc1 hi11 (Or.inr ⟨hc15, own_pw4⟩) (Or.inr ⟨hc16, own_pw5⟩) (by decide) rfl)⟩
  refine Wk.icmpYes X0 hx (hb hby d25_24) (by decide) (q := 31) rfl (flt hc16).2.2.2 ?_
  refine Wk.bipush X0 hx (v := (10 : Int32)) (hb hby d25_31) rfl rfl ?_
  refine Wk.iloadN X0 hx (hb hby d25_33) rfl rfl ?_
  refine Wk.imul X0 hx (hb hby d25_34) rfl ?_
  rw [(by decide : (((10 : Int32) * (-100000 : Int32)) : Int32) = (-1000000 : Int32))]
  refine Wk.istoreN X0 hx (Ls' := #[.val (.int i11), .val (.int (0 : Int32)), .val (.int (-1000000 : Int32)), .val (.int (5 : Int32))]) (hb hby d25_35) rfl rfl ?_
  refine Wk.iinc X0 hx (Ls' := #[.val (.int i11), .val (.int (0 : Int32)), .val (.int (-1000000 : Int32)), .val (.int (6 : Int32))]) (hb hby d25_36) rfl rfl rfl ?_
  refine Wk.goto X0 hx (hb hby d25_39) (by decide) (q := 16) rfl ?_
  refine Wk.iloadN X0 hx (hb hby d25_16) rfl rfl ?_
  refine Wk.bipush X0 hx (v := (10 : Int32)) (hb hby d25_17) rfl rfl ?_
  refine Wk.icmpNo X0 hx (hb hby d25_19) rfl (tlt (by decide : (6 : Int32) < (10 : Int32))).2.1 ?_
  refine Wk.iloadN X0 hx (hb hby d25_22) rfl rfl ?_
  refine Wk.iloadN X0 hx (hb hby d25_23) rfl rfl ?_
  by_cases hc17 : (-1000000 : Int32) < i11
  · skip
    refine Wk.icmpNo X0 hx (hb hby d25_24) rfl (tlt hc17).2.2.2 ?_
    refine Wk.iloadN X0 hx (hb hby d25_27) rfl rfl ?_
    refine Wk.iloadN X0 hx (hb hby d25_28) rfl rfl ?_
    refine Wk.iadd X0 hx (hb hby d25_29) rfl ?_
    rw [(by decide : (((6 : Int32) + (0 : Int32)) : Int32) = (6 : Int32))]
    exact Wk.retI' X0 hx hlk hr (hb hby d25_30) (by decide) (by decide) (Qc := Q_rm_ssz Z v_ h0) e0 ⟨(6 : Int32), rfl, N0, rfl, (own_sizP 6 hc1 hi11 (Or.inr ⟨hc16, own_pw5⟩) (Or.inr ⟨hc17, own_pw6⟩) (by decide) rfl)⟩
  refine Wk.icmpYes X0 hx (hb hby d25_24) (by decide) (q := 31) rfl (flt hc17).2.2.2 ?_
  refine Wk.bipush X0 hx (v := (10 : Int32)) (hb hby d25_31) rfl rfl ?_
  refine Wk.iloadN X0 hx (hb hby d25_33) rfl rfl ?_
  refine Wk.imul X0 hx (hb hby d25_34) rfl ?_
  rw [(by decide : (((10 : Int32) * (-1000000 : Int32)) : Int32) = (-10000000 : Int32))]
  refine Wk.istoreN X0 hx (Ls' := #[.val (.int i11), .val (.int (0 : Int32)), .val (.int (-10000000 : Int32)), .val (.int (6 : Int32))]) (hb hby d25_35) rfl rfl ?_
  refine Wk.iinc X0 hx (Ls' := #[.val (.int i11), .val (.int (0 : Int32)), .val (.int (-10000000 : Int32)), .val (.int (7 : Int32))]) (hb hby d25_36) rfl rfl rfl ?_
  refine Wk.goto X0 hx (hb hby d25_39) (by decide) (q := 16) rfl ?_
  refine Wk.iloadN X0 hx (hb hby d25_16) rfl rfl ?_
  refine Wk.bipush X0 hx (v := (10 : Int32)) (hb hby d25_17) rfl rfl ?_
  refine Wk.icmpNo X0 hx (hb hby d25_19) rfl (tlt (by decide : (7 : Int32) < (10 : Int32))).2.1 ?_
  refine Wk.iloadN X0 hx (hb hby d25_22) rfl rfl ?_
  refine Wk.iloadN X0 hx (hb hby d25_23) rfl rfl ?_
  by_cases hc18 : (-10000000 : Int32) < i11
  · skip
    refine Wk.icmpNo X0 hx (hb hby d25_24) rfl (tlt hc18).2.2.2 ?_
    refine Wk.iloadN X0 hx (hb hby d25_27) rfl rfl ?_
    refine Wk.iloadN X0 hx (hb hby d25_28) rfl rfl ?_
    refine Wk.iadd X0 hx (hb hby d25_29) rfl ?_
    rw [(by decide : (((7 : Int32) + (0 : Int32)) : Int32) = (7 : Int32))]
    exact Wk.retI' X0 hx hlk hr (hb hby d25_30) (by decide) (by decide) (Qc := Q_rm_ssz Z v_ h0) e0 ⟨(7 : Int32), rfl, N0, rfl, (own_sizP 7 hc1 hi11 (Or.inr ⟨hc17, own_pw6⟩) (Or.inr ⟨hc18, own_pw7⟩) (by decide) rfl)⟩
  refine Wk.icmpYes X0 hx (hb hby d25_24) (by decide) (q := 31) rfl (flt hc18).2.2.2 ?_
  refine Wk.bipush X0 hx (v := (10 : Int32)) (hb hby d25_31) rfl rfl ?_
  refine Wk.iloadN X0 hx (hb hby d25_33) rfl rfl ?_
  refine Wk.imul X0 hx (hb hby d25_34) rfl ?_
  rw [(by decide : (((10 : Int32) * (-10000000 : Int32)) : Int32) = (-100000000 : Int32))]
  refine Wk.istoreN X0 hx (Ls' := #[.val (.int i11), .val (.int (0 : Int32)), .val (.int (-100000000 : Int32)), .val (.int (7 : Int32))]) (hb hby d25_35) rfl rfl ?_
  refine Wk.iinc X0 hx (Ls' := #[.val (.int i11), .val (.int (0 : Int32)), .val (.int (-100000000 : Int32)), .val (.int (8 : Int32))]) (hb hby d25_36) rfl rfl rfl ?_
  refine Wk.goto X0 hx (hb hby d25_39) (by decide) (q := 16) rfl ?_
  refine Wk.iloadN X0 hx (hb hby d25_16) rfl rfl ?_
  refine Wk.bipush X0 hx (v := (10 : Int32)) (hb hby d25_17) rfl rfl ?_
  refine Wk.icmpNo X0 hx (hb hby d25_19) rfl (tlt (by decide : (8 : Int32) < (10 : Int32))).2.1 ?_
  refine Wk.iloadN X0 hx (hb hby d25_22) rfl rfl ?_
  refine Wk.iloadN X0 hx (hb hby d25_23) rfl rfl ?_
  by_cases hc19 : (-100000000 : Int32) < i11
  · skip
    refine Wk.icmpNo X0 hx (hb hby d25_24) rfl (tlt hc19).2.2.2 ?_
    refine Wk.iloadN X0 hx (hb hby d25_27) rfl rfl ?_
    refine Wk.iloadN X0 hx (hb hby d25_28) rfl rfl ?_
    refine Wk.iadd X0 hx (hb hby d25_29) rfl ?_
    rw [(by decide : (((8 : Int32) + (0 : Int32)) : Int32) = (8 : Int32))]
    exact Wk.retI' X0 hx hlk hr (hb hby d25_30) (by decide) (by decide) (Qc := Q_rm_ssz Z v_ h0) e0 ⟨(8 : Int32), rfl, N0, rfl, (own_sizP 8 hc1 hi11 (Or.inr ⟨hc18, own_pw7⟩) (Or.inr ⟨hc19, own_pw8⟩) (by decide) rfl)⟩
  refine Wk.icmpYes X0 hx (hb hby d25_24) (by decide) (q := 31) rfl (flt hc19).2.2.2 ?_
  refine Wk.bipush X0 hx (v := (10 : Int32)) (hb hby d25_31) rfl rfl ?_
  refine Wk.iloadN X0 hx (hb hby d25_33) rfl rfl ?_
  refine Wk.imul X0 hx (hb hby d25_34) rfl ?_
  rw [(by decide : (((10 : Int32) * (-100000000 : Int32)) : Int32) = (-1000000000 : Int32))]
  refine Wk.istoreN X0 hx (Ls' := #[.val (.int i11), .val (.int (0 : Int32)), .val (.int (-1000000000 : Int32)), .val (.int (8 : Int32))]) (hb hby d25_35) rfl rfl ?_
  refine Wk.iinc X0 hx (Ls' := #[.val (.int i11), .val (.int (0 : Int32)), .val (.int (-1000000000 : Int32)), .val (.int (9 : Int32))]) (hb hby d25_36) rfl rfl rfl ?_
  refine Wk.goto X0 hx (hb hby d25_39) (by decide) (q := 16) rfl ?_
  refine Wk.iloadN X0 hx (hb hby d25_16) rfl rfl ?_
  refine Wk.bipush X0 hx (v := (10 : Int32)) (hb hby d25_17) rfl rfl ?_
  refine Wk.icmpNo X0 hx (hb hby d25_19) rfl (tlt (by decide : (9 : Int32) < (10 : Int32))).2.1 ?_
  refine Wk.iloadN X0 hx (hb hby d25_22) rfl rfl ?_
  refine Wk.iloadN X0 hx (hb hby d25_23) rfl rfl ?_
  by_cases hc20 : (-1000000000 : Int32) < i11
  · skip
    refine Wk.icmpNo X0 hx (hb hby d25_24) rfl (tlt hc20).2.2.2 ?_
    refine Wk.iloadN X0 hx (hb hby d25_27) rfl rfl ?_
    refine Wk.iloadN X0 hx (hb hby d25_28) rfl rfl ?_
    refine Wk.iadd X0 hx (hb hby d25_29) rfl ?_
    rw [(by decide : (((9 : Int32) + (0 : Int32)) : Int32) = (9 : Int32))]
    exact Wk.retI' X0 hx hlk hr (hb hby d25_30) (by decide) (by decide) (Qc := Q_rm_ssz Z v_ h0) e0 ⟨(9 : Int32), rfl, N0, rfl, (own_sizP 9 hc1 hi11 (Or.inr ⟨hc19, own_pw8⟩) (Or.inr ⟨hc20, own_pw9⟩) (by decide) rfl)⟩
  refine Wk.icmpYes X0 hx (hb hby d25_24) (by decide) (q := 31) rfl (flt hc20).2.2.2 ?_
  refine Wk.bipush X0 hx (v := (10 : Int32)) (hb hby d25_31) rfl rfl ?_
  refine Wk.iloadN X0 hx (hb hby d25_33) rfl rfl ?_
  refine Wk.imul X0 hx (hb hby d25_34) rfl ?_
  rw [(by decide : (((10 : Int32) * (-1000000000 : Int32)) : Int32) = (-1410065408 : Int32))]
  refine Wk.istoreN X0 hx (Ls' := #[.val (.int i11), .val (.int (0 : Int32)), .val (.int (-1410065408 : Int32)), .val (.int (9 : Int32))]) (hb hby d25_35) rfl rfl ?_
  refine Wk.iinc X0 hx (Ls' := #[.val (.int i11), .val (.int (0 : Int32)), .val (.int (-1410065408 : Int32)), .val (.int (10 : Int32))]) (hb hby d25_36) rfl rfl rfl ?_
  refine Wk.goto X0 hx (hb hby d25_39) (by decide) (q := 16) rfl ?_
  refine Wk.iloadN X0 hx (hb hby d25_16) rfl rfl ?_
  refine Wk.bipush X0 hx (v := (10 : Int32)) (hb hby d25_17) rfl rfl ?_
  refine Wk.icmpYes X0 hx (hb hby d25_19) (by decide) (q := 42) rfl (flt (by decide : ¬ ((10 : Int32) < (10 : Int32)))).2.1 ?_
  refine Wk.bipush X0 hx (v := (10 : Int32)) (hb hby d25_42) rfl rfl ?_
  refine Wk.iloadN X0 hx (hb hby d25_44) rfl rfl ?_
  refine Wk.iadd X0 hx (hb hby d25_45) rfl ?_
  rw [(by decide : (((10 : Int32) + (0 : Int32)) : Int32) = (10 : Int32))]
  exact Wk.retI' X0 hx hlk hr (hb hby d25_46) (by decide) (by decide) (Qc := Q_rm_ssz Z v_ h0) e0 ⟨(10 : Int32), rfl, N0, rfl, (own_sizP (ph := 0) 10 hc1 hi11 (Or.inr ⟨hc20, own_pw9⟩) (Or.inl rfl) (by decide) rfl)⟩
theorem d27_22 : decode jdk_33_method_12_code 22 = .ok (.iload_n 0, 1) := by decide +kernel
theorem d27_23 : decode jdk_33_method_12_code 23 = .ok (.bipush (-100), 2) := by decide +kernel
theorem d27_25 : decode jdk_33_method_12_code 25 = .ok (.if_icmp .gt 47, 3) := by decide +kernel
theorem d27_72 : decode jdk_33_method_12_code 72 = .ok (.aload_n 2, 1) := by decide +kernel
theorem d27_73 : decode jdk_33_method_12_code 73 = .ok (.iinc 5 (-1), 3) := by decide +kernel
theorem d27_76 : decode jdk_33_method_12_code 76 = .ok (.iload 5, 2) := by decide +kernel
theorem d27_78 : decode jdk_33_method_12_code 78 = .ok (.getstatic 83, 3) := by decide +kernel
theorem d27_81 : decode jdk_33_method_12_code 81 = .ok (.iload_n 0, 1) := by decide +kernel
theorem d27_82 : decode jdk_33_method_12_code 82 = .ok (.ineg, 1) := by decide +kernel
theorem d27_83 : decode jdk_33_method_12_code 83 = .ok (.baload, 1) := by decide +kernel
theorem d27_84 : decode jdk_33_method_12_code 84 = .ok (.bastore, 1) := by decide +kernel
theorem d27_85 : decode jdk_33_method_12_code 85 = .ok (.iload_n 0, 1) := by decide +kernel
theorem d27_86 : decode jdk_33_method_12_code 86 = .ok (.bipush (-9), 2) := by decide +kernel
theorem d27_88 : decode jdk_33_method_12_code 88 = .ok (.if_icmp .ge 16, 3) := by decide +kernel
theorem d27_91 : decode jdk_33_method_12_code 91 = .ok (.aload_n 2, 1) := by decide +kernel
theorem d27_92 : decode jdk_33_method_12_code 92 = .ok (.iinc 5 (-1), 3) := by decide +kernel
theorem d27_95 : decode jdk_33_method_12_code 95 = .ok (.iload 5, 2) := by decide +kernel
theorem d27_97 : decode jdk_33_method_12_code 97 = .ok (.getstatic 87, 3) := by decide +kernel
theorem d27_100 : decode jdk_33_method_12_code 100 = .ok (.iload_n 0, 1) := by decide +kernel
theorem d27_101 : decode jdk_33_method_12_code 101 = .ok (.ineg, 1) := by decide +kernel
theorem d27_102 : decode jdk_33_method_12_code 102 = .ok (.baload, 1) := by decide +kernel
theorem d27_103 : decode jdk_33_method_12_code 103 = .ok (.bastore, 1) := by decide +kernel
theorem d27_104 : decode jdk_33_method_12_code 104 = .ok (.iload 6, 2) := by decide +kernel
theorem d27_106 : decode jdk_33_method_12_code 106 = .ok (.ifCond .eq 12, 3) := by decide +kernel
theorem d27_118 : decode jdk_33_method_12_code 118 = .ok (.iload 5, 2) := by decide +kernel
theorem d27_120 : decode jdk_33_method_12_code 120 = .ok (.ireturn, 1) := by decide +kernel
theorem d27_109 : decode jdk_33_method_12_code 109 = .ok (.aload_n 2, 1) := by decide +kernel
theorem d27_110 : decode jdk_33_method_12_code 110 = .ok (.iinc 5 (-1), 3) := by decide +kernel
theorem d27_113 : decode jdk_33_method_12_code 113 = .ok (.iload 5, 2) := by decide +kernel
theorem d27_115 : decode jdk_33_method_12_code 115 = .ok (.bipush 45, 2) := by decide +kernel
theorem d27_117 : decode jdk_33_method_12_code 117 = .ok (.bastore, 1) := by decide +kernel
theorem d27_28 : decode jdk_33_method_12_code 28 = .ok (.iload_n 0, 1) := by decide +kernel
theorem d27_29 : decode jdk_33_method_12_code 29 = .ok (.bipush 100, 2) := by decide +kernel
theorem d27_31 : decode jdk_33_method_12_code 31 = .ok (.idiv, 1) := by decide +kernel
theorem d27_32 : decode jdk_33_method_12_code 32 = .ok (.istore_n 3, 1) := by decide +kernel
theorem d27_33 : decode jdk_33_method_12_code 33 = .ok (.iload_n 3, 1) := by decide +kernel
theorem d27_34 : decode jdk_33_method_12_code 34 = .ok (.bipush 100, 2) := by decide +kernel
theorem d27_36 : decode jdk_33_method_12_code 36 = .ok (.imul, 1) := by decide +kernel
theorem d27_37 : decode jdk_33_method_12_code 37 = .ok (.iload_n 0, 1) := by decide +kernel
theorem d27_38 : decode jdk_33_method_12_code 38 = .ok (.isub, 1) := by decide +kernel
theorem d27_39 : decode jdk_33_method_12_code 39 = .ok (.istore 4, 2) := by decide +kernel
theorem d27_41 : decode jdk_33_method_12_code 41 = .ok (.iload_n 3, 1) := by decide +kernel
theorem d27_42 : decode jdk_33_method_12_code 42 = .ok (.istore_n 0, 1) := by decide +kernel
theorem d27_43 : decode jdk_33_method_12_code 43 = .ok (.aload_n 2, 1) := by decide +kernel
theorem d27_44 : decode jdk_33_method_12_code 44 = .ok (.iinc 5 (-1), 3) := by decide +kernel
theorem d27_47 : decode jdk_33_method_12_code 47 = .ok (.iload 5, 2) := by decide +kernel
theorem d27_49 : decode jdk_33_method_12_code 49 = .ok (.getstatic 83, 3) := by decide +kernel
theorem d27_52 : decode jdk_33_method_12_code 52 = .ok (.iload 4, 2) := by decide +kernel
theorem d27_54 : decode jdk_33_method_12_code 54 = .ok (.baload, 1) := by decide +kernel
theorem d27_55 : decode jdk_33_method_12_code 55 = .ok (.bastore, 1) := by decide +kernel
theorem d27_56 : decode jdk_33_method_12_code 56 = .ok (.aload_n 2, 1) := by decide +kernel
theorem d27_57 : decode jdk_33_method_12_code 57 = .ok (.iinc 5 (-1), 3) := by decide +kernel
theorem d27_60 : decode jdk_33_method_12_code 60 = .ok (.iload 5, 2) := by decide +kernel
theorem d27_62 : decode jdk_33_method_12_code 62 = .ok (.getstatic 87, 3) := by decide +kernel
theorem d27_65 : decode jdk_33_method_12_code 65 = .ok (.iload 4, 2) := by decide +kernel
theorem d27_67 : decode jdk_33_method_12_code 67 = .ok (.baload, 1) := by decide +kernel
theorem d27_68 : decode jdk_33_method_12_code 68 = .ok (.bastore, 1) := by decide +kernel
theorem d27_69 : decode jdk_33_method_12_code 69 = .ok (.goto (-47), 3) := by decide +kernel
theorem d27_0 : decode jdk_33_method_12_code 0 = .ok (.iload_n 1, 1) := by decide +kernel
theorem d27_1 : decode jdk_33_method_12_code 1 = .ok (.istore 5, 2) := by decide +kernel
theorem d27_3 : decode jdk_33_method_12_code 3 = .ok (.iload_n 0, 1) := by decide +kernel
theorem d27_4 : decode jdk_33_method_12_code 4 = .ok (.ifCond .ge 7, 3) := by decide +kernel
theorem d27_7 : decode jdk_33_method_12_code 7 = .ok (.iconst 1, 1) := by decide +kernel
theorem d27_8 : decode jdk_33_method_12_code 8 = .ok (.goto 4, 3) := by decide +kernel
theorem d27_12 : decode jdk_33_method_12_code 12 = .ok (.istore 6, 2) := by decide +kernel
theorem d27_14 : decode jdk_33_method_12_code 14 = .ok (.iload 6, 2) := by decide +kernel
theorem d27_16 : decode jdk_33_method_12_code 16 = .ok (.ifCond .ne 6, 3) := by decide +kernel
theorem d27_11 : decode jdk_33_method_12_code 11 = .ok (.iconst 0, 1) := by decide +kernel
theorem d27_19 : decode jdk_33_method_12_code 19 = .ok (.iload_n 0, 1) := by decide +kernel
theorem d27_20 : decode jdk_33_method_12_code 20 = .ok (.ineg, 1) := by decide +kernel
theorem d27_21 : decode jdk_33_method_12_code 21 = .ok (.istore_n 0, 1) := by decide +kernel
def Q_rm_gch (Z : State) (v_ : Int32) (e_ : Int32) (va : Addr) (kv : ClassId) (cap : Int32) (vs : List Value) (bs : List Int32) (da : Addr) (kd : ClassId) (dt : Addr) (kt : ClassId) (h0 : Heap) (v : Option Value) (h : Heap) (L : List Loc) : Prop := ∃ r : Int32, ∃ vw : List Value, v = some (.int r) ∧ Fk h0.size [va] L ∧ Keep h0 h [va] ∧ Arv Z h va kv .byte cap vw (.int (0 : Int32)) ∧ vw.length = cap.toNatClampNeg ∧ Pfx vw (bs ++ db v_)
set_option maxRecDepth 65536 in
set_option maxHeartbeats 40000000 in
theorem rm_gch (l : Launch) (Z : State) (a0 : Array Value) (hw : ∀ d ∈ tables_1, d.before a0 Z = true) (ws : List Jvm.Cond) (v_ : Int32) (e_ : Int32) (va : Addr) (kv : ClassId) (cap : Int32) (vs : List Value) (bs : List Int32) (da : Addr) (kd : ClassId) (dt : Addr) (kt : ClassId) (h0 : Heap) (O0 : Old Z Z.heap.size h0) (sO : Sta Z Z.heap "java/lang/Integer" "DigitOnes" "[B" (.ref da)) (pO : Arv Z h0 da kd .byte (100 : Int32) ones (.int (0 : Int32))) (sN : Sta Z Z.heap "java/lang/Integer" "DigitTens" "[B" (.ref dt)) (pN : Arv Z h0 dt kt .byte (100 : Int32) tens (.int (0 : Int32))) (nO : da ≠ va) (nN : dt ≠ va) (pv : Arv Z h0 va kv .byte cap vs (.int (0 : Int32))) (he : e_.toInt = ((bs.length + (db v_).length : Nat) : Int)) (hfit : bs.length + (db v_).length ≤ cap.toNatClampNeg) (hlen : vs.length = cap.toNatClampNeg) (hpf : Pfx vs bs) (hcc : cap = 16 ∨ cap = 34) (hva : Z.heap.size ≤ va) :
    Ctr l Z (⟨"java/lang/Integer", "getChars", "(II[B)I"⟩ : MethodName) jdk_33_method_12_code 7 (some .int) ws ({ frames := 0, cells := 0, slots := 0, locals := 0 } : Room) #[(.int v_), (.int e_), (.ref va)] h0 (Q_rm_gch Z v_ e_ va kv cap vs bs da kd dt kt h0) := by
  refine Ctr.intro (Ls := fun _ => #[.val (.int v_), .val (.int e_), .val (.ref va), .unset, .unset, .unset, .unset]) (plainFor_of_name pn18) (fun m => by first | rfl | (simp [entryFrame, mkF, argsToLocals, Value.category]; done)) ?_
  intro p e s m below meth c s₁ hx hby hml hr hlk hZ hown hnm hs0 X0 e0
  have w : ∀ (k : Nat) (d : Jvm.Cond), tables_1[k]? = some d → d.before a0 Z = true := fun k d q => hw d (List.mem_of_getElem? q)
  have N0 := Fk.nil h0.size [va]
  obtain ⟨uu, huu⟩ : ∃ u, u = v_.toInt.natAbs := ⟨_, rfl⟩
  obtain ⟨EE, hEE⟩ : ∃ E, E = bs.length + (db v_).length := ⟨_, rfl⟩
  have hE1 : e_.toInt = (EE : Int) := by rw [hEE]; exact he
  have hE0 : e_.toInt + ((0 : Nat) : Int) = (EE : Int) := by rw [hE1]; simp
  have hE2 : EE ≤ cap.toNatClampNeg := by rw [hEE]; exact hfit
  have hE3 : EE ≤ 34 := Nat.le_trans hE2 (capN hcc).2
  have hE5 : bs.length + dl uu ≤ EE := own_E5 hEE huu
  have hu31 : uu ≤ 2147483648 := own_u31 huu
  have key : ∀ x0_ sg_ : Int32, x0_.toInt = -((uu / 10 ^ 0 : Nat) : Int) → ((v_ < 0 ∧ ¬ sg_ = 0) ∨ (¬ v_ < 0 ∧ sg_ = 0)) → Wp p e below (fun v t L => Q_rm_gch Z v_ e_ va kv cap vs bs da kd dt kt h0 v t.heap L) (NF s (({ frames := 0, cells := 0, slots := 0, locals := 0 } : Room) : Room).cells (({ frames := 0, cells := 0, slots := 0, locals := 0 } : Room) : Room).slots) s₁ (mkF m 22 #[.val (.int x0_), .val (.int e_), .val (.ref va), .unset, .unset, .val (.int e_), .val (.int sg_)] []) := by
    intro x0_ sg_ hx0 hsg
    refine Wk.iloadN X0 hx (hb hby d27_22) rfl rfl ?_
    refine Wk.bipush X0 hx (v := (-100 : Int32)) (hb hby d27_23) rfl rfl ?_
    by_cases hc1 : (-100 : Int32) < x0_
    · skip
      refine Wk.icmpYes X0 hx (hb hby d27_25) (by decide) (q := 72) rfl (tlt hc1).2.2.1 ?_
      have hw2 : uu / 10 ^ 0 < 100 := own_c72 hx0 hc1
      have hr3 : (-x0_).toInt = ((uu / 10 ^ 0 % 100 : Nat) : Int) := own_ng2 hx0 hw2
      refine Wk.aloadN X0 hx (hb hby d27_72) rfl rfl rfl ?_
      refine Wk.iinc X0 hx (Ls' := #[.val (.int x0_), .val (.int e_), .val (.ref va), .unset, .unset, .val (.int (e_ + (-1 : Int32))), .val (.int sg_)]) (hb hby d27_73) rfl rfl rfl ?_
      refine Wk.iload X0 hx (hb hby d27_76) rfl rfl ?_
      refine Wk.getstatic X0 hx hZ hown (host := "") (Or.inl (w 161 _ rfl)) Via.refl e0 (sO.ext O0.2) (hb hby d27_78) rfl ?_
      intro T4 X4 e4
      refine Wk.iloadN X4 hx (hb hby d27_81) rfl rfl ?_
      refine Wk.ineg X4 hx (hb hby d27_82) rfl ?_
      refine Wk.baload X4 hx hZ e4 pO (own_nn hr3) (own_100 hr3) (v := (dch uu 0)) (own_ones hr3) (hb hby d27_83) rfl ?_
      have hg5 : 0 < dl uu := dl_gt (u := uu) (k := 0) (Or.inl rfl) (by decide)
      have hk6 : 0 < EE := own_hk hE5 hg5
      have hj7 := own_nxt (m := 0) hE0 hk6 hE3
      have hl7 := own_lin (m := 0) hj7 hk6
      refine Wk.bastore X4 hx hZ e4 pv (own_nn hl7) (own_pos hl7 hE2 hk6 hcc) (EE - 1 - 0) (natI hl7) (own_hl hk6 hE2 hlen) (w := (dch uu 0)) (dch_byte _ _) (hb hby d27_84) rfl ?_
      intro T8 h8 L8 M8 X8 e8 W8 A8
      have N8 := M8 _ _ N0 (Or.inl (List.mem_of_getElem? (i := 0) rfl))
      have O9 : Old Z Z.heap.size h8 := O0.wr W8 hva
      have V8 : Arv Z h8 va kv .byte cap (vs.set (EE - 1 - 0) (.int (dch uu 0))) (.int (0 : Int32)) := A8
      obtain ⟨w10, Aw10, Lo10, Pf10, Ln10⟩ : ∃ w, Arv Z h8 va kv .byte cap w (.int (0 : Int32)) ∧ Low w EE uu 1 ∧ Pfx w bs ∧ w.length = cap.toNatClampNeg := ⟨_, V8, Low.step (Low.none vs EE uu) hk6 (by rw [hlen]; exact hE2), Pfx.set hpf (own_ge hE5 hg5), by rw [List.length_set]; exact hlen⟩
      refine Wk.iloadN X8 hx (hb hby d27_85) rfl rfl ?_
      refine Wk.bipush X8 hx (v := (-9 : Int32)) (hb hby d27_86) rfl rfl ?_
      by_cases hc11 : x0_ < (-9 : Int32)
      · skip
        refine Wk.icmpNo X8 hx (hb hby d27_88) rfl (tlt hc11).2.1 ?_
        have hw12 : 10 ≤ uu / 10 ^ 0 := own_c91 hx0 hc11
        refine Wk.aloadN X8 hx (hb hby d27_91) rfl rfl rfl ?_
        refine Wk.iinc X8 hx (Ls' := #[.val (.int x0_), .val (.int e_), .val (.ref va), .unset, .unset, .val (.int ((e_ + (-1 : Int32)) + (-1 : Int32))), .val (.int sg_)]) (hb hby d27_92) rfl rfl rfl ?_
        refine Wk.iload X8 hx (hb hby d27_95) rfl rfl ?_
        refine Wk.getstatic X8 hx hZ hown (host := "") (Or.inl (w 238 _ rfl)) Via.refl e8 (sN.ext O9.2) (hb hby d27_97) rfl ?_
        intro T13 X13 e13
        refine Wk.iloadN X13 hx (hb hby d27_100) rfl rfl ?_
        refine Wk.ineg X13 hx (hb hby d27_101) rfl ?_
        have KK14 : Keep h0 h8 [va] := ((Keep.refl h0 [va]).wr W8 (Or.inl (List.mem_of_getElem? (i := 0) rfl)))
        have f15 := (pN.keep KK14 (ninS nN nin0))
        refine Wk.baload X13 hx hZ e13 f15 (own_nn hr3) (own_100 hr3) (v := (dch uu 1)) (own_tens hr3) (hb hby d27_102) rfl ?_
        have hg16 : 1 < dl uu := dl_gt (u := uu) (k := 1) (Or.inr (own_p1 (k := 0) hw12)) (by decide)
        have hk17 : 1 < EE := own_hk hE5 hg16
        have hj18 := own_nxt (m := 1) hj7 hk17 hE3
        have hl18 := own_lin (m := 1) hj18 hk17
        refine Wk.bastore X13 hx hZ e13 Aw10 (own_nn hl18) (own_pos hl18 hE2 hk17 hcc) (EE - 1 - 1) (natI hl18) (own_hl hk17 hE2 Ln10) (w := (dch uu 1)) (dch_byte _ _) (hb hby d27_103) rfl ?_
        intro T19 h19 L19 M19 X19 e19 W19 A19
        have N19 := M19 _ _ N8 (Or.inl (List.mem_of_getElem? (i := 0) rfl))
        have O20 : Old Z Z.heap.size h19 := O9.wr W19 hva
        have V19 : Arv Z h19 va kv .byte cap (w10.set (EE - 1 - 1) (.int (dch uu 1))) (.int (0 : Int32)) := A19
        obtain ⟨w21, Aw21, Lo21, Pf21, Ln21⟩ : ∃ w, Arv Z h19 va kv .byte cap w (.int (0 : Int32)) ∧ Low w EE uu 2 ∧ Pfx w bs ∧ w.length = cap.toNatClampNeg := ⟨_, V19, Low.step Lo10 hk17 (by rw [Ln10]; exact hE2), Pfx.set Pf10 (own_ge hE5 hg16), by rw [List.length_set]; exact Ln10⟩
        refine Wk.iload X19 hx (hb hby d27_104) rfl rfl ?_
        by_cases hc22 : sg_ = (0 : Int32)
        · skip
          refine Wk.ifYes X19 hx (hb hby d27_106) (by decide) (q := 118) rfl ((if0 _ _).trans (teq hc22).1) ?_
          have hd23 : dl uu = 2 := dl_is (k := 1) (Or.inr (own_p1 (k := 0) hw12)) (own_q1 (k := 0) hw2) (by decide)
          refine Wk.iload X19 hx (hb hby d27_118) rfl rfl ?_
          have KK24 : Keep h0 h19 [va] := (KK14.wr W19 (Or.inl (List.mem_of_getElem? (i := 0) rfl)))
          exact Wk.retI' X19 hx hlk hr (hb hby d27_120) (by decide) (by decide) (Qc := Q_rm_gch Z v_ e_ va kv cap vs bs da kd dt kt h0) e19 ⟨((e_ + (-1 : Int32)) + (-1 : Int32)), w21, rfl, N19, KK24, Aw21, Ln21, (own_finP Pf21 Lo21 (own_psE hEE huu (own_sgN hsg hc22)) hd23 huu (own_sgN hsg hc22))⟩
        refine Wk.ifNo X19 hx (hb hby d27_106) rfl ((if0 _ _).trans (feq hc22).1) ?_
        refine Wk.aloadN X19 hx (hb hby d27_109) rfl rfl rfl ?_
        refine Wk.iinc X19 hx (Ls' := #[.val (.int x0_), .val (.int e_), .val (.ref va), .unset, .unset, .val (.int (((e_ + (-1 : Int32)) + (-1 : Int32)) + (-1 : Int32))), .val (.int sg_)]) (hb hby d27_110) rfl rfl rfl ?_
        refine Wk.iload X19 hx (hb hby d27_113) rfl rfl ?_
        refine Wk.bipush X19 hx (v := (45 : Int32)) (hb hby d27_115) rfl rfl ?_
        have hd25 : dl uu = 2 := dl_is (k := 1) (Or.inr (own_p1 (k := 0) hw12)) (own_q1 (k := 0) hw2) (by decide)
        have hs26 : EE = bs.length + 1 + dl uu := own_sgE hEE huu (own_sgY hsg hc22)
        have hk27 : 2 < EE := own_sgk hs26 hd25
        have hj28 := own_nxt (m := 2) hj18 hk27 hE3
        have hl28 := own_lin (m := 2) hj28 hk27
        refine Wk.bastore X19 hx hZ e19 Aw21 (own_nn hl28) (own_pos hl28 hE2 hk27 hcc) bs.length (own_sgi hl28 hs26 hd25) (own_sgl hs26 hE2 Ln21) (w := (45 : Int32)) rfl (hb hby d27_117) rfl ?_
        intro T29 h29 L29 M29 X29 e29 W29 A29
        have N29 := M29 _ _ N19 (Or.inl (List.mem_of_getElem? (i := 0) rfl))
        have O30 : Old Z Z.heap.size h29 := O20.wr W29 hva
        have V29 : Arv Z h29 va kv .byte cap (w21.set bs.length (.int (45 : Int32))) (.int (0 : Int32)) := A29
        obtain ⟨w31, Aw31, Lo31, Pf31, Ln31⟩ : ∃ w, Arv Z h29 va kv .byte cap w (.int (0 : Int32)) ∧ Low w EE uu 2 ∧ Pfx w (bs ++ [45]) ∧ w.length = cap.toNatClampNeg := ⟨_, V29, Low.away Lo21 (own_sga hs26 hd25), Pfx.snoc Pf21 (own_sgl hs26 hE2 Ln21), by rw [List.length_set]; exact Ln21⟩
        refine Wk.iload X29 hx (hb hby d27_118) rfl rfl ?_
        have KK32 : Keep h0 h29 [va] := ((KK14.wr W19 (Or.inl (List.mem_of_getElem? (i := 0) rfl))).wr W29 (Or.inl (List.mem_of_getElem? (i := 0) rfl)))
        exact Wk.retI' X29 hx hlk hr (hb hby d27_120) (by decide) (by decide) (Qc := Q_rm_gch Z v_ e_ va kv cap vs bs da kd dt kt h0) e29 ⟨(((e_ + (-1 : Int32)) + (-1 : Int32)) + (-1 : Int32)), w31, rfl, N29, KK32, Aw31, Ln31, (own_finN Pf31 Lo31 hs26 hd25 huu (own_sgY hsg hc22))⟩
      refine Wk.icmpYes X8 hx (hb hby d27_88) (by decide) (q := 104) rfl (flt hc11).2.1 ?_
      refine Wk.iload X8 hx (hb hby d27_104) rfl rfl ?_
      by_cases hc33 : sg_ = (0 : Int32)
      · skip
        refine Wk.ifYes X8 hx (hb hby d27_106) (by decide) (q := 118) rfl ((if0 _ _).trans (teq hc33).1) ?_
        have hw34 : uu / 10 ^ 0 < 10 := own_c90 hx0 hc11
        have hd35 : dl uu = 1 := dl_is (k := 0) (Or.inl rfl) hw34 (by decide)
        refine Wk.iload X8 hx (hb hby d27_118) rfl rfl ?_
        have KK36 : Keep h0 h8 [va] := ((Keep.refl h0 [va]).wr W8 (Or.inl (List.mem_of_getElem? (i := 0) rfl)))
        exact Wk.retI' X8 hx hlk hr (hb hby d27_120) (by decide) (by decide) (Qc := Q_rm_gch Z v_ e_ va kv cap vs bs da kd dt kt h0) e8 ⟨(e_ + (-1 : Int32)), w10, rfl, N8, KK36, Aw10, Ln10, (own_finP Pf10 Lo10 (own_psE hEE huu (own_sgN hsg hc33)) hd35 huu (own_sgN hsg hc33))⟩
      refine Wk.ifNo X8 hx (hb hby d27_106) rfl ((if0 _ _).trans (feq hc33).1) ?_
      refine Wk.aloadN X8 hx (hb hby d27_109) rfl rfl rfl ?_
      refine Wk.iinc X8 hx (Ls' := #[.val (.int x0_), .val (.int e_), .val (.ref va), .unset, .unset, .val (.int ((e_ + (-1 : Int32)) + (-1 : Int32))), .val (.int sg_)]) (hb hby d27_110) rfl rfl rfl ?_
      refine Wk.iload X8 hx (hb hby d27_113) rfl rfl ?_
      refine Wk.bipush X8 hx (v := (45 : Int32)) (hb hby d27_115) rfl rfl ?_
      have hw37 : uu / 10 ^ 0 < 10 := own_c90 hx0 hc11
      have hd38 : dl uu = 1 := dl_is (k := 0) (Or.inl rfl) hw37 (by decide)
      have hs39 : EE = bs.length + 1 + dl uu := own_sgE hEE huu (own_sgY hsg hc33)
      have hk40 : 1 < EE := own_sgk hs39 hd38
      have hj41 := own_nxt (m := 1) hj7 hk40 hE3
      have hl41 := own_lin (m := 1) hj41 hk40
      refine Wk.bastore X8 hx hZ e8 Aw10 (own_nn hl41) (own_pos hl41 hE2 hk40 hcc) bs.length (own_sgi hl41 hs39 hd38) (own_sgl hs39 hE2 Ln10) (w := (45 : Int32)) rfl (hb hby d27_117) rfl ?_
      intro T42 h42 L42 M42 X42 e42 W42 A42
      have N42 := M42 _ _ N8 (Or.inl (List.mem_of_getElem? (i := 0) rfl))
      have O43 : Old Z Z.heap.size h42 := O9.wr W42 hva
      have V42 : Arv Z h42 va kv .byte cap (w10.set bs.length (.int (45 : Int32))) (.int (0 : Int32)) := A42
      obtain ⟨w44, Aw44, Lo44, Pf44, Ln44⟩ : ∃ w, Arv Z h42 va kv .byte cap w (.int (0 : Int32)) ∧ Low w EE uu 1 ∧ Pfx w (bs ++ [45]) ∧ w.length = cap.toNatClampNeg := ⟨_, V42, Low.away Lo10 (own_sga hs39 hd38), Pfx.snoc Pf10 (own_sgl hs39 hE2 Ln10), by rw [List.length_set]; exact Ln10⟩
      refine Wk.iload X42 hx (hb hby d27_118) rfl rfl ?_
      have KK45 : Keep h0 h42 [va] := (((Keep.refl h0 [va]).wr W8 (Or.inl (List.mem_of_getElem? (i := 0) rfl))).wr W42 (Or.inl (List.mem_of_getElem? (i := 0) rfl)))
      exact Wk.retI' X42 hx hlk hr (hb hby d27_120) (by decide) (by decide) (Qc := Q_rm_gch Z v_ e_ va kv cap vs bs da kd dt kt h0) e42 ⟨((e_ + (-1 : Int32)) + (-1 : Int32)), w44, rfl, N42, KK45, Aw44, Ln44, (own_finN Pf44 Lo44 hs39 hd38 huu (own_sgY hsg hc33))⟩
    refine Wk.icmpNo X0 hx (hb hby d27_25) rfl (flt hc1).2.2.1 ?_
    have hw46 : 100 ≤ uu / 10 ^ 0 := own_c28 hx0 hc1
    refine Wk.iloadN X0 hx (hb hby d27_28) rfl rfl ?_
    refine Wk.bipush X0 hx (v := (100 : Int32)) (hb hby d27_29) rfl rfl ?_
    refine Wk.idiv X0 hx (hb hby d27_31) rfl (by decide) ?_
    refine Wk.istoreNA X0 hx (Ls' := fun z => #[.val (.int x0_), .val (.int e_), .val (.ref va), .val (.int z), .unset, .val (.int e_), .val (.int sg_)]) (hb hby d27_32) rfl (fun _ => rfl) ?_
    intro i47 hi47
    show Wp p e below _ _ s₁ (mkF m 33 #[.val (.int x0_), .val (.int e_), .val (.ref va), .val (.int i47), .unset, .val (.int e_), .val (.int sg_)] [])
    refine Wk.iloadN X0 hx (hb hby d27_33) rfl rfl ?_
    refine Wk.bipush X0 hx (v := (100 : Int32)) (hb hby d27_34) rfl rfl ?_
    refine Wk.imul X0 hx (hb hby d27_36) rfl ?_
    refine Wk.iloadN X0 hx (hb hby d27_37) rfl rfl ?_
    refine Wk.isub X0 hx (hb hby d27_38) rfl ?_
    refine Wk.istoreA X0 hx (Ls' := fun z => #[.val (.int x0_), .val (.int e_), .val (.ref va), .val (.int i47), .val (.int z), .val (.int e_), .val (.int sg_)]) (hb hby d27_39) rfl (fun _ => rfl) ?_
    intro i48 hi48
    show Wp p e below _ _ s₁ (mkF m 41 #[.val (.int x0_), .val (.int e_), .val (.ref va), .val (.int i47), .val (.int i48), .val (.int e_), .val (.int sg_)] [])
    refine Wk.iloadN X0 hx (hb hby d27_41) rfl rfl ?_
    refine Wk.istoreN X0 hx (Ls' := #[.val (.int i47), .val (.int e_), .val (.ref va), .val (.int i47), .val (.int i48), .val (.int e_), .val (.int sg_)]) (hb hby d27_42) rfl rfl ?_
    have hr49 : i48.toInt = ((uu / 10 ^ 0 % 100 : Nat) : Int) := own_rem hx0 hi47 hi48
    refine Wk.aloadN X0 hx (hb hby d27_43) rfl rfl rfl ?_
    refine Wk.iinc X0 hx (Ls' := #[.val (.int i47), .val (.int e_), .val (.ref va), .val (.int i47), .val (.int i48), .val (.int (e_ + (-1 : Int32))), .val (.int sg_)]) (hb hby d27_44) rfl rfl rfl ?_
    refine Wk.iload X0 hx (hb hby d27_47) rfl rfl ?_
    refine Wk.getstatic X0 hx hZ hown (host := "") (Or.inl (w 161 _ rfl)) Via.refl e0 (sO.ext O0.2) (hb hby d27_49) rfl ?_
    intro T50 X50 e50
    refine Wk.iload X50 hx (hb hby d27_52) rfl rfl ?_
    refine Wk.baload X50 hx hZ e50 pO (own_nn hr49) (own_100 hr49) (v := (dch uu 0)) (own_ones hr49) (hb hby d27_54) rfl ?_
    have hg51 : 0 < dl uu := dl_gt (u := uu) (k := 0) (Or.inl rfl) (by decide)
    have hk52 : 0 < EE := own_hk hE5 hg51
    have hj53 := own_nxt (m := 0) hE0 hk52 hE3
    have hl53 := own_lin (m := 0) hj53 hk52
    refine Wk.bastore X50 hx hZ e50 pv (own_nn hl53) (own_pos hl53 hE2 hk52 hcc) (EE - 1 - 0) (natI hl53) (own_hl hk52 hE2 hlen) (w := (dch uu 0)) (dch_byte _ _) (hb hby d27_55) rfl ?_
    intro T54 h54 L54 M54 X54 e54 W54 A54
    have N54 := M54 _ _ N0 (Or.inl (List.mem_of_getElem? (i := 0) rfl))
    have O55 : Old Z Z.heap.size h54 := O0.wr W54 hva
    have V54 : Arv Z h54 va kv .byte cap (vs.set (EE - 1 - 0) (.int (dch uu 0))) (.int (0 : Int32)) := A54
    obtain ⟨w56, Aw56, Lo56, Pf56, Ln56⟩ : ∃ w, Arv Z h54 va kv .byte cap w (.int (0 : Int32)) ∧ Low w EE uu 1 ∧ Pfx w bs ∧ w.length = cap.toNatClampNeg := ⟨_, V54, Low.step (Low.none vs EE uu) hk52 (by rw [hlen]; exact hE2), Pfx.set hpf (own_ge hE5 hg51), by rw [List.length_set]; exact hlen⟩
    refine Wk.aloadN X54 hx (hb hby d27_56) rfl rfl rfl ?_
    refine Wk.iinc X54 hx (Ls' := #[.val (.int i47), .val (.int e_), .val (.ref va), .val (.int i47), .val (.int i48), .val (.int ((e_ + (-1 : Int32)) + (-1 : Int32))), .val (.int sg_)]) (hb hby d27_57) rfl rfl rfl ?_
    refine Wk.iload X54 hx (hb hby d27_60) rfl rfl ?_
    refine Wk.getstatic X54 hx hZ hown (host := "") (Or.inl (w 238 _ rfl)) Via.refl e54 (sN.ext O55.2) (hb hby d27_62) rfl ?_
    intro T57 X57 e57
    refine Wk.iload X57 hx (hb hby d27_65) rfl rfl ?_
    have KK58 : Keep h0 h54 [va] := ((Keep.refl h0 [va]).wr W54 (Or.inl (List.mem_of_getElem? (i := 0) rfl)))
    have f59 := (pN.keep KK58 (ninS nN nin0))
    refine Wk.baload X57 hx hZ e57 f59 (own_nn hr49) (own_100 hr49) (v := (dch uu 1)) (own_tens hr49) (hb hby d27_67) rfl ?_
    have hg60 : 1 < dl uu := dl_gt (u := uu) (k := 1) (Or.inr (own_p1 (k := 0) (Nat.le_trans (by decide) hw46))) (by decide)
    have hk61 : 1 < EE := own_hk hE5 hg60
    have hj62 := own_nxt (m := 1) hj53 hk61 hE3
    have hl62 := own_lin (m := 1) hj62 hk61
    refine Wk.bastore X57 hx hZ e57 Aw56 (own_nn hl62) (own_pos hl62 hE2 hk61 hcc) (EE - 1 - 1) (natI hl62) (own_hl hk61 hE2 Ln56) (w := (dch uu 1)) (dch_byte _ _) (hb hby d27_68) rfl ?_
    intro T63 h63 L63 M63 X63 e63 W63 A63
    have N63 := M63 _ _ N54 (Or.inl (List.mem_of_getElem? (i := 0) rfl))
    have O64 : Old Z Z.heap.size h63 := O55.wr W63 hva
    have V63 : Arv Z h63 va kv .byte cap (w56.set (EE - 1 - 1) (.int (dch uu 1))) (.int (0 : Int32)) := A63
    obtain ⟨w65, Aw65, Lo65, Pf65, Ln65⟩ : ∃ w, Arv Z h63 va kv .byte cap w (.int (0 : Int32)) ∧ Low w EE uu 2 ∧ Pfx w bs ∧ w.length = cap.toNatClampNeg := ⟨_, V63, Low.step Lo56 hk61 (by rw [Ln56]; exact hE2), Pfx.set Pf56 (own_ge hE5 hg60), by rw [List.length_set]; exact Ln56⟩
    refine Wk.goto X63 hx (hb hby d27_69) (by decide) (q := 22) rfl ?_
    have hx66 : i47.toInt = -((uu / 10 ^ 2 : Nat) : Int) := own_rnd (k := 0) hx0 hi47
    refine Wk.iloadN X63 hx (hb hby d27_22) rfl rfl ?_
    refine Wk.bipush X63 hx (v := (-100 : Int32)) (hb hby d27_23) rfl rfl ?_
    by_cases hc67 : (-100 : Int32) < i47
    · skip
      refine Wk.icmpYes X63 hx (hb hby d27_25) (by decide) (q := 72) rfl (tlt hc67).2.2.1 ?_
      have hw68 : uu / 10 ^ 2 < 100 := own_c72 hx66 hc67
      have hr69 : (-i47).toInt = ((uu / 10 ^ 2 % 100 : Nat) : Int) := own_ng2 hx66 hw68
      refine Wk.aloadN X63 hx (hb hby d27_72) rfl rfl rfl ?_
      refine Wk.iinc X63 hx (Ls' := #[.val (.int i47), .val (.int e_), .val (.ref va), .val (.int i47), .val (.int i48), .val (.int (((e_ + (-1 : Int32)) + (-1 : Int32)) + (-1 : Int32))), .val (.int sg_)]) (hb hby d27_73) rfl rfl rfl ?_
      refine Wk.iload X63 hx (hb hby d27_76) rfl rfl ?_
      refine Wk.getstatic X63 hx hZ hown (host := "") (Or.inl (w 161 _ rfl)) Via.refl e63 (sO.ext O64.2) (hb hby d27_78) rfl ?_
      intro T70 X70 e70
      refine Wk.iloadN X70 hx (hb hby d27_81) rfl rfl ?_
      refine Wk.ineg X70 hx (hb hby d27_82) rfl ?_
      have KK71 : Keep h0 h63 [va] := (KK58.wr W63 (Or.inl (List.mem_of_getElem? (i := 0) rfl)))
      have f72 := (pO.keep KK71 (ninS nO nin0))
      refine Wk.baload X70 hx hZ e70 f72 (own_nn hr69) (own_100 hr69) (v := (dch uu 2)) (own_ones hr69) (hb hby d27_83) rfl ?_
      have hg73 : 2 < dl uu := dl_gt (u := uu) (k := 2) (Or.inr (own_p2 (k := 0) hw46)) (by decide)
      have hk74 : 2 < EE := own_hk hE5 hg73
      have hj75 := own_nxt (m := 2) hj62 hk74 hE3
      have hl75 := own_lin (m := 2) hj75 hk74
      refine Wk.bastore X70 hx hZ e70 Aw65 (own_nn hl75) (own_pos hl75 hE2 hk74 hcc) (EE - 1 - 2) (natI hl75) (own_hl hk74 hE2 Ln65) (w := (dch uu 2)) (dch_byte _ _) (hb hby d27_84) rfl ?_
      intro T76 h76 L76 M76 X76 e76 W76 A76
      have N76 := M76 _ _ N63 (Or.inl (List.mem_of_getElem? (i := 0) rfl))
      have O77 : Old Z Z.heap.size h76 := O64.wr W76 hva
      have V76 : Arv Z h76 va kv .byte cap (w65.set (EE - 1 - 2) (.int (dch uu 2))) (.int (0 : Int32)) := A76
      obtain ⟨w78, Aw78, Lo78, Pf78, Ln78⟩ : ∃ w, Arv Z h76 va kv .byte cap w (.int (0 : Int32)) ∧ Low w EE uu 3 ∧ Pfx w bs ∧ w.length = cap.toNatClampNeg := ⟨_, V76, Low.step Lo65 hk74 (by rw [Ln65]; exact hE2), Pfx.set Pf65 (own_ge hE5 hg73), by rw [List.length_set]; exact Ln65⟩
      refine Wk.iloadN X76 hx (hb hby d27_85) rfl rfl ?_
      refine Wk.bipush X76 hx (v := (-9 : Int32)) (hb hby d27_86) rfl rfl ?_
      by_cases hc79 : i47 < (-9 : Int32)
      · skip
        refine Wk.icmpNo X76 hx (hb hby d27_88) rfl (tlt hc79).2.1 ?_
        have hw80 : 10 ≤ uu / 10 ^ 2 := own_c91 hx66 hc79
        refine Wk.aloadN X76 hx (hb hby d27_91) rfl rfl rfl ?_
        refine Wk.iinc X76 hx (Ls' := #[.val (.int i47), .val (.int e_), .val (.ref va), .val (.int i47), .val (.int i48), .val (.int ((((e_ + (-1 : Int32)) + (-1 : Int32)) + (-1 : Int32)) + (-1 : Int32))), .val (.int sg_)]) (hb hby d27_92) rfl rfl rfl ?_
        refine Wk.iload X76 hx (hb hby d27_95) rfl rfl ?_
        refine Wk.getstatic X76 hx hZ hown (host := "") (Or.inl (w 238 _ rfl)) Via.refl e76 (sN.ext O77.2) (hb hby d27_97) rfl ?_
        intro T81 X81 e81
        refine Wk.iloadN X81 hx (hb hby d27_100) rfl rfl ?_
        refine Wk.ineg X81 hx (hb hby d27_101) rfl ?_
        have KK82 : Keep h54 h76 [va] := (((Keep.refl h54 [va]).wr W63 (Or.inl (List.mem_of_getElem? (i := 0) rfl))).wr W76 (Or.inl (List.mem_of_getElem? (i := 0) rfl)))
        have f83 := (f59.keep KK82 (ninS nN nin0))
        refine Wk.baload X81 hx hZ e81 f83 (own_nn hr69) (own_100 hr69) (v := (dch uu 3)) (own_tens hr69) (hb hby d27_102) rfl ?_
        have hg84 : 3 < dl uu := dl_gt (u := uu) (k := 3) (Or.inr (own_p1 (k := 2) hw80)) (by decide)
        have hk85 : 3 < EE := own_hk hE5 hg84
        have hj86 := own_nxt (m := 3) hj75 hk85 hE3
        have hl86 := own_lin (m := 3) hj86 hk85
        refine Wk.bastore X81 hx hZ e81 Aw78 (own_nn hl86) (own_pos hl86 hE2 hk85 hcc) (EE - 1 - 3) (natI hl86) (own_hl hk85 hE2 Ln78) (w := (dch uu 3)) (dch_byte _ _) (hb hby d27_103) rfl ?_
        intro T87 h87 L87 M87 X87 e87 W87 A87
        have N87 := M87 _ _ N76 (Or.inl (List.mem_of_getElem? (i := 0) rfl))
        have O88 : Old Z Z.heap.size h87 := O77.wr W87 hva
        have V87 : Arv Z h87 va kv .byte cap (w78.set (EE - 1 - 3) (.int (dch uu 3))) (.int (0 : Int32)) := A87
        obtain ⟨w89, Aw89, Lo89, Pf89, Ln89⟩ : ∃ w, Arv Z h87 va kv .byte cap w (.int (0 : Int32)) ∧ Low w EE uu 4 ∧ Pfx w bs ∧ w.length = cap.toNatClampNeg := ⟨_, V87, Low.step Lo78 hk85 (by rw [Ln78]; exact hE2), Pfx.set Pf78 (own_ge hE5 hg84), by rw [List.length_set]; exact Ln78⟩
        refine Wk.iload X87 hx (hb hby d27_104) rfl rfl ?_
        by_cases hc90 : sg_ = (0 : Int32)
        · skip
          refine Wk.ifYes X87 hx (hb hby d27_106) (by decide) (q := 118) rfl ((if0 _ _).trans (teq hc90).1) ?_
          have hd91 : dl uu = 4 := dl_is (k := 3) (Or.inr (own_p1 (k := 2) hw80)) (own_q1 (k := 2) hw68) (by decide)
          refine Wk.iload X87 hx (hb hby d27_118) rfl rfl ?_
          have KK92 : Keep h0 h87 [va] := ((KK71.wr W76 (Or.inl (List.mem_of_getElem? (i := 0) rfl))).wr W87 (Or.inl (List.mem_of_getElem? (i := 0) rfl)))
          exact Wk.retI' X87 hx hlk hr (hb hby d27_120) (by decide) (by decide) (Qc := Q_rm_gch Z v_ e_ va kv cap vs bs da kd dt kt h0) e87 ⟨((((e_ + (-1 : Int32)) + (-1 : Int32)) + (-1 : Int32)) + (-1 : Int32)), w89, rfl, N87, KK92, Aw89, Ln89, (own_finP Pf89 Lo89 (own_psE hEE huu (own_sgN hsg hc90)) hd91 huu (own_sgN hsg hc90))⟩
        refine Wk.ifNo X87 hx (hb hby d27_106) rfl ((if0 _ _).trans (feq hc90).1) ?_
        refine Wk.aloadN X87 hx (hb hby d27_109) rfl rfl rfl ?_
        refine Wk.iinc X87 hx (Ls' := #[.val (.int i47), .val (.int e_), .val (.ref va), .val (.int i47), .val (.int i48), .val (.int (((((e_ + (-1 : Int32)) + (-1 : Int32)) + (-1 : Int32)) + (-1 : Int32)) + (-1 : Int32))), .val (.int sg_)]) (hb hby d27_110) rfl rfl rfl ?_
        refine Wk.iload X87 hx (hb hby d27_113) rfl rfl ?_
        refine Wk.bipush X87 hx (v := (45 : Int32)) (hb hby d27_115) rfl rfl ?_
        have hd93 : dl uu = 4 := dl_is (k := 3) (Or.inr (own_p1 (k := 2) hw80)) (own_q1 (k := 2) hw68) (by decide)
        have hs94 : EE = bs.length + 1 + dl uu := own_sgE hEE huu (own_sgY hsg hc90)
        have hk95 : 4 < EE := own_sgk hs94 hd93
        have hj96 := own_nxt (m := 4) hj86 hk95 hE3
        have hl96 := own_lin (m := 4) hj96 hk95
        refine Wk.bastore X87 hx hZ e87 Aw89 (own_nn hl96) (own_pos hl96 hE2 hk95 hcc) bs.length (own_sgi hl96 hs94 hd93) (own_sgl hs94 hE2 Ln89) (w := (45 : Int32)) rfl (hb hby d27_117) rfl ?_
        intro T97 h97 L97 M97 X97 e97 W97 A97
        have N97 := M97 _ _ N87 (Or.inl (List.mem_of_getElem? (i := 0) rfl))
        have O98 : Old Z Z.heap.size h97 := O88.wr W97 hva
        have V97 : Arv Z h97 va kv .byte cap (w89.set bs.length (.int (45 : Int32))) (.int (0 : Int32)) := A97
        obtain ⟨w99, Aw99, Lo99, Pf99, Ln99⟩ : ∃ w, Arv Z h97 va kv .byte cap w (.int (0 : Int32)) ∧ Low w EE uu 4 ∧ Pfx w (bs ++ [45]) ∧ w.length = cap.toNatClampNeg := ⟨_, V97, Low.away Lo89 (own_sga hs94 hd93), Pfx.snoc Pf89 (own_sgl hs94 hE2 Ln89), by rw [List.length_set]; exact Ln89⟩
        refine Wk.iload X97 hx (hb hby d27_118) rfl rfl ?_
        have KK100 : Keep h0 h97 [va] := (((KK71.wr W76 (Or.inl (List.mem_of_getElem? (i := 0) rfl))).wr W87 (Or.inl (List.mem_of_getElem? (i := 0) rfl))).wr W97 (Or.inl (List.mem_of_getElem? (i := 0) rfl)))
        exact Wk.retI' X97 hx hlk hr (hb hby d27_120) (by decide) (by decide) (Qc := Q_rm_gch Z v_ e_ va kv cap vs bs da kd dt kt h0) e97 ⟨(((((e_ + (-1 : Int32)) + (-1 : Int32)) + (-1 : Int32)) + (-1 : Int32)) + (-1 : Int32)), w99, rfl, N97, KK100, Aw99, Ln99, (own_finN Pf99 Lo99 hs94 hd93 huu (own_sgY hsg hc90))⟩
      refine Wk.icmpYes X76 hx (hb hby d27_88) (by decide) (q := 104) rfl (flt hc79).2.1 ?_
      refine Wk.iload X76 hx (hb hby d27_104) rfl rfl ?_
      by_cases hc101 : sg_ = (0 : Int32)
      · skip
        refine Wk.ifYes X76 hx (hb hby d27_106) (by decide) (q := 118) rfl ((if0 _ _).trans (teq hc101).1) ?_
        have hw102 : uu / 10 ^ 2 < 10 := own_c90 hx66 hc79
        have hd103 : dl uu = 3 := dl_is (k := 2) (Or.inr (own_p2 (k := 0) hw46)) hw102 (by decide)
        refine Wk.iload X76 hx (hb hby d27_118) rfl rfl ?_
        have KK104 : Keep h0 h76 [va] := (KK71.wr W76 (Or.inl (List.mem_of_getElem? (i := 0) rfl)))
        exact Wk.retI' X76 hx hlk hr (hb hby d27_120) (by decide) (by decide) (Qc := Q_rm_gch Z v_ e_ va kv cap vs bs da kd dt kt h0) e76 ⟨(((e_ + (-1 : Int32)) + (-1 : Int32)) + (-1 : Int32)), w78, rfl, N76, KK104, Aw78, Ln78, (own_finP Pf78 Lo78 (own_psE hEE huu (own_sgN hsg hc101)) hd103 huu (own_sgN hsg hc101))⟩
      refine Wk.ifNo X76 hx (hb hby d27_106) rfl ((if0 _ _).trans (feq hc101).1) ?_
      refine Wk.aloadN X76 hx (hb hby d27_109) rfl rfl rfl ?_
      refine Wk.iinc X76 hx (Ls' := #[.val (.int i47), .val (.int e_), .val (.ref va), .val (.int i47), .val (.int i48), .val (.int ((((e_ + (-1 : Int32)) + (-1 : Int32)) + (-1 : Int32)) + (-1 : Int32))), .val (.int sg_)]) (hb hby d27_110) rfl rfl rfl ?_
      refine Wk.iload X76 hx (hb hby d27_113) rfl rfl ?_
      refine Wk.bipush X76 hx (v := (45 : Int32)) (hb hby d27_115) rfl rfl ?_
      have hw105 : uu / 10 ^ 2 < 10 := own_c90 hx66 hc79
      have hd106 : dl uu = 3 := dl_is (k := 2) (Or.inr (own_p2 (k := 0) hw46)) hw105 (by decide)
      have hs107 : EE = bs.length + 1 + dl uu := own_sgE hEE huu (own_sgY hsg hc101)
      have hk108 : 3 < EE := own_sgk hs107 hd106
      have hj109 := own_nxt (m := 3) hj75 hk108 hE3
      have hl109 := own_lin (m := 3) hj109 hk108
      refine Wk.bastore X76 hx hZ e76 Aw78 (own_nn hl109) (own_pos hl109 hE2 hk108 hcc) bs.length (own_sgi hl109 hs107 hd106) (own_sgl hs107 hE2 Ln78) (w := (45 : Int32)) rfl (hb hby d27_117) rfl ?_
      intro T110 h110 L110 M110 X110 e110 W110 A110
      have N110 := M110 _ _ N76 (Or.inl (List.mem_of_getElem? (i := 0) rfl))
      have O111 : Old Z Z.heap.size h110 := O77.wr W110 hva
      have V110 : Arv Z h110 va kv .byte cap (w78.set bs.length (.int (45 : Int32))) (.int (0 : Int32)) := A110
      obtain ⟨w112, Aw112, Lo112, Pf112, Ln112⟩ : ∃ w, Arv Z h110 va kv .byte cap w (.int (0 : Int32)) ∧ Low w EE uu 3 ∧ Pfx w (bs ++ [45]) ∧ w.length = cap.toNatClampNeg := ⟨_, V110, Low.away Lo78 (own_sga hs107 hd106), Pfx.snoc Pf78 (own_sgl hs107 hE2 Ln78), by rw [List.length_set]; exact Ln78⟩
      refine Wk.iload X110 hx (hb hby d27_118) rfl rfl ?_
      have KK113 : Keep h0 h110 [va] := ((KK71.wr W76 (Or.inl (List.mem_of_getElem? (i := 0) rfl))).wr W110 (Or.inl (List.mem_of_getElem? (i := 0) rfl)))
      exact Wk.retI' X110 hx hlk hr (hb hby d27_120) (by decide) (by decide) (Qc := Q_rm_gch Z v_ e_ va kv cap vs bs da kd dt kt h0) e110 ⟨((((e_ + (-1 : Int32)) + (-1 : Int32)) + (-1 : Int32)) + (-1 : Int32)), w112, rfl, N110, KK113, Aw112, Ln112, (own_finN Pf112 Lo112 hs107 hd106 huu (own_sgY hsg hc101))⟩
    refine Wk.icmpNo X63 hx (hb hby d27_25) rfl (flt hc67).2.2.1 ?_
    have hw114 : 100 ≤ uu / 10 ^ 2 := own_c28 hx66 hc67
    refine Wk.iloadN X63 hx (hb hby d27_28) rfl rfl ?_
    refine Wk.bipush X63 hx (v := (100 : Int32)) (hb hby d27_29) rfl rfl ?_
    refine Wk.idiv X63 hx (hb hby d27_31) rfl (by decide) ?_
    refine Wk.istoreNA X63 hx (Ls' := fun z => #[.val (.int i47), .val (.int e_), .val (.ref va), .val (.int z), .val (.int i48), .val (.int ((e_ + (-1 : Int32)) + (-1 : Int32))), .val (.int sg_)]) (hb hby d27_32) rfl (fun _ => rfl) ?_
    intro i115 hi115
    show Wp p e below _ _ T63 (mkF m 33 #[.val (.int i47), .val (.int e_), .val (.ref va), .val (.int i115), .val (.int i48), .val (.int ((e_ + (-1 : Int32)) + (-1 : Int32))), .val (.int sg_)] [])
    refine Wk.iloadN X63 hx (hb hby d27_33) rfl rfl ?_
    refine Wk.bipush X63 hx (v := (100 : Int32)) (hb hby d27_34) rfl rfl ?_
    refine Wk.imul X63 hx (hb hby d27_36) rfl ?_
    refine Wk.iloadN X63 hx (hb hby d27_37) rfl rfl ?_
    refine Wk.isub X63 hx (hb hby d27_38) rfl ?_
    refine Wk.istoreA X63 hx (Ls' := fun z => #[.val (.int i47), .val (.int e_), .val (.ref va), .val (.int i115), .val (.int z), .val (.int ((e_ + (-1 : Int32)) + (-1 : Int32))), .val (.int sg_)]) (hb hby d27_39) rfl (fun _ => rfl) ?_
    intro i116 hi116
    show Wp p e below _ _ T63 (mkF m 41 #[.val (.int i47), .val (.int e_), .val (.ref va), .val (.int i115), .val (.int i116), .val (.int ((e_ + (-1 : Int32)) + (-1 : Int32))), .val (.int sg_)] [])
    refine Wk.iloadN X63 hx (hb hby d27_41) rfl rfl ?_
    refine Wk.istoreN X63 hx (Ls' := #[.val (.int i115), .val (.int e_), .val (.ref va), .val (.int i115), .val (.int i116), .val (.int ((e_ + (-1 : Int32)) + (-1 : Int32))), .val (.int sg_)]) (hb hby d27_42) rfl rfl ?_
    have hr117 : i116.toInt = ((uu / 10 ^ 2 % 100 : Nat) : Int) := own_rem hx66 hi115 hi116
    refine Wk.aloadN X63 hx (hb hby d27_43) rfl rfl rfl ?_
    refine Wk.iinc X63 hx (Ls' := #[.val (.int i115), .val (.int e_), .val (.ref va), .val (.int i115), .val (.int i116), .val (.int (((e_ + (-1 : Int32)) + (-1 : Int32)) + (-1 : Int32))), .val (.int sg_)]) (hb hby d27_44) rfl rfl rfl ?_
    refine Wk.iload X63 hx (hb hby d27_47) rfl rfl ?_
    refine Wk.getstatic X63 hx hZ hown (host := "") (Or.inl (w 161 _ rfl)) Via.refl e63 (sO.ext O64.2) (hb hby d27_49) rfl ?_
    intro T118 X118 e118
    refine Wk.iload X118 hx (hb hby d27_52) rfl rfl ?_
    have KK119 : Keep h0 h63 [va] := (KK58.wr W63 (Or.inl (List.mem_of_getElem? (i := 0) rfl)))
    have f120 := (pO.keep KK119 (ninS nO nin0))
    refine Wk.baload X118 hx hZ e118 f120 (own_nn hr117) (own_100 hr117) (v := (dch uu 2)) (own_ones hr117) (hb hby d27_54) rfl ?_
    have hg121 : 2 < dl uu := dl_gt (u := uu) (k := 2) (Or.inr (Nat.lt_of_lt_of_le (by decide) hw114)) (by decide)
    have hk122 : 2 < EE := own_hk hE5 hg121
    have hj123 := own_nxt (m := 2) hj62 hk122 hE3
    have hl123 := own_lin (m := 2) hj123 hk122
    refine Wk.bastore X118 hx hZ e118 Aw65 (own_nn hl123) (own_pos hl123 hE2 hk122 hcc) (EE - 1 - 2) (natI hl123) (own_hl hk122 hE2 Ln65) (w := (dch uu 2)) (dch_byte _ _) (hb hby d27_55) rfl ?_
    intro T124 h124 L124 M124 X124 e124 W124 A124
    have N124 := M124 _ _ N63 (Or.inl (List.mem_of_getElem? (i := 0) rfl))
    have O125 : Old Z Z.heap.size h124 := O64.wr W124 hva
    have V124 : Arv Z h124 va kv .byte cap (w65.set (EE - 1 - 2) (.int (dch uu 2))) (.int (0 : Int32)) := A124
    obtain ⟨w126, Aw126, Lo126, Pf126, Ln126⟩ : ∃ w, Arv Z h124 va kv .byte cap w (.int (0 : Int32)) ∧ Low w EE uu 3 ∧ Pfx w bs ∧ w.length = cap.toNatClampNeg := ⟨_, V124, Low.step Lo65 hk122 (by rw [Ln65]; exact hE2), Pfx.set Pf65 (own_ge hE5 hg121), by rw [List.length_set]; exact Ln65⟩
    refine Wk.aloadN X124 hx (hb hby d27_56) rfl rfl rfl ?_
    refine Wk.iinc X124 hx (Ls' := #[.val (.int i115), .val (.int e_), .val (.ref va), .val (.int i115), .val (.int i116), .val (.int ((((e_ + (-1 : Int32)) + (-1 : Int32)) + (-1 : Int32)) + (-1 : Int32))), .val (.int sg_)]) (hb hby d27_57) rfl rfl rfl ?_
    refine Wk.iload X124 hx (hb hby d27_60) rfl rfl ?_
    refine Wk.getstatic X124 hx hZ hown (host := "") (Or.inl (w 238 _ rfl)) Via.refl e124 (sN.ext O125.2) (hb hby d27_62) rfl ?_
    intro T127 X127 e127
    refine Wk.iload X127 hx (hb hby d27_65) rfl rfl ?_
    have KK128 : Keep h54 h124 [va] := (((Keep.refl h54 [va]).wr W63 (Or.inl (List.mem_of_getElem? (i := 0) rfl))).wr W124 (Or.inl (List.mem_of_getElem? (i := 0) rfl)))
    have f129 := (f59.keep KK128 (ninS nN nin0))
    refine Wk.baload X127 hx hZ e127 f129 (own_nn hr117) (own_100 hr117) (v := (dch uu 3)) (own_tens hr117) (hb hby d27_67) rfl ?_
    have hg130 : 3 < dl uu := dl_gt (u := uu) (k := 3) (Or.inr (own_p1 (k := 2) (Nat.le_trans (by decide) hw114))) (by decide)
    have hk131 : 3 < EE := own_hk hE5 hg130
    have hj132 := own_nxt (m := 3) hj123 hk131 hE3
    have hl132 := own_lin (m := 3) hj132 hk131
    refine Wk.bastore X127 hx hZ e127 Aw126 (own_nn hl132) (own_pos hl132 hE2 hk131 hcc) (EE - 1 - 3) (natI hl132) (own_hl hk131 hE2 Ln126) (w := (dch uu 3)) (dch_byte _ _) (hb hby d27_68) rfl ?_
    intro T133 h133 L133 M133 X133 e133 W133 A133
    have N133 := M133 _ _ N124 (Or.inl (List.mem_of_getElem? (i := 0) rfl))
    have O134 : Old Z Z.heap.size h133 := O125.wr W133 hva
    have V133 : Arv Z h133 va kv .byte cap (w126.set (EE - 1 - 3) (.int (dch uu 3))) (.int (0 : Int32)) := A133
    obtain ⟨w135, Aw135, Lo135, Pf135, Ln135⟩ : ∃ w, Arv Z h133 va kv .byte cap w (.int (0 : Int32)) ∧ Low w EE uu 4 ∧ Pfx w bs ∧ w.length = cap.toNatClampNeg := ⟨_, V133, Low.step Lo126 hk131 (by rw [Ln126]; exact hE2), Pfx.set Pf126 (own_ge hE5 hg130), by rw [List.length_set]; exact Ln126⟩
    refine Wk.goto X133 hx (hb hby d27_69) (by decide) (q := 22) rfl ?_
    have hx136 : i115.toInt = -((uu / 10 ^ 4 : Nat) : Int) := own_rnd (k := 2) hx66 hi115
    refine Wk.iloadN X133 hx (hb hby d27_22) rfl rfl ?_
    refine Wk.bipush X133 hx (v := (-100 : Int32)) (hb hby d27_23) rfl rfl ?_
    by_cases hc137 : (-100 : Int32) < i115
    · skip
      refine Wk.icmpYes X133 hx (hb hby d27_25) (by decide) (q := 72) rfl (tlt hc137).2.2.1 ?_
      have hw138 : uu / 10 ^ 4 < 100 := own_c72 hx136 hc137
      have hr139 : (-i115).toInt = ((uu / 10 ^ 4 % 100 : Nat) : Int) := own_ng2 hx136 hw138
      refine Wk.aloadN X133 hx (hb hby d27_72) rfl rfl rfl ?_
      refine Wk.iinc X133 hx (Ls' := #[.val (.int i115), .val (.int e_), .val (.ref va), .val (.int i115), .val (.int i116), .val (.int (((((e_ + (-1 : Int32)) + (-1 : Int32)) + (-1 : Int32)) + (-1 : Int32)) + (-1 : Int32))), .val (.int sg_)]) (hb hby d27_73) rfl rfl rfl ?_
      refine Wk.iload X133 hx (hb hby d27_76) rfl rfl ?_
      refine Wk.getstatic X133 hx hZ hown (host := "") (Or.inl (w 161 _ rfl)) Via.refl e133 (sO.ext O134.2) (hb hby d27_78) rfl ?_
      intro T140 X140 e140
      refine Wk.iloadN X140 hx (hb hby d27_81) rfl rfl ?_
      refine Wk.ineg X140 hx (hb hby d27_82) rfl ?_
      have KK141 : Keep h63 h133 [va] := (((Keep.refl h63 [va]).wr W124 (Or.inl (List.mem_of_getElem? (i := 0) rfl))).wr W133 (Or.inl (List.mem_of_getElem? (i := 0) rfl)))
      have f142 := (f120.keep KK141 (ninS nO nin0))
      refine Wk.baload X140 hx hZ e140 f142 (own_nn hr139) (own_100 hr139) (v := (dch uu 4)) (own_ones hr139) (hb hby d27_83) rfl ?_
      have hg143 : 4 < dl uu := dl_gt (u := uu) (k := 4) (Or.inr (own_p2 (k := 2) hw114)) (by decide)
      have hk144 : 4 < EE := own_hk hE5 hg143
      have hj145 := own_nxt (m := 4) hj132 hk144 hE3
      have hl145 := own_lin (m := 4) hj145 hk144
      refine Wk.bastore X140 hx hZ e140 Aw135 (own_nn hl145) (own_pos hl145 hE2 hk144 hcc) (EE - 1 - 4) (natI hl145) (own_hl hk144 hE2 Ln135) (w := (dch uu 4)) (dch_byte _ _) (hb hby d27_84) rfl ?_
      intro T146 h146 L146 M146 X146 e146 W146 A146
      have N146 := M146 _ _ N133 (Or.inl (List.mem_of_getElem? (i := 0) rfl))
      have O147 : Old Z Z.heap.size h146 := O134.wr W146 hva
      have V146 : Arv Z h146 va kv .byte cap (w135.set (EE - 1 - 4) (.int (dch uu 4))) (.int (0 : Int32)) := A146
      obtain ⟨w148, Aw148, Lo148, Pf148, Ln148⟩ : ∃ w, Arv Z h146 va kv .byte cap w (.int (0 : Int32)) ∧ Low w EE uu 5 ∧ Pfx w bs ∧ w.length = cap.toNatClampNeg := ⟨_, V146, Low.step Lo135 hk144 (by rw [Ln135]; exact hE2), Pfx.set Pf135 (own_ge hE5 hg143), by rw [List.length_set]; exact Ln135⟩
      refine Wk.iloadN X146 hx (hb hby d27_85) rfl rfl ?_
      refine Wk.bipush X146 hx (v := (-9 : Int32)) (hb hby d27_86) rfl rfl ?_
      by_cases hc149 : i115 < (-9 : Int32)
      · skip
        refine Wk.icmpNo X146 hx (hb hby d27_88) rfl (tlt hc149).2.1 ?_
        have hw150 : 10 ≤ uu / 10 ^ 4 := own_c91 hx136 hc149
        refine Wk.aloadN X146 hx (hb hby d27_91) rfl rfl rfl ?_
        refine Wk.iinc X146 hx (Ls' := #[.val (.int i115), .val (.int e_), .val (.ref va), .val (.int i115), .val (.int i116), .val (.int ((((((e_ + (-1 : Int32)) + (-1 : Int32)) + (-1 : Int32)) + (-1 : Int32)) + (-1 : Int32)) + (-1 : Int32))), .val (.int sg_)]) (hb hby d27_92) rfl rfl rfl ?_
        refine Wk.iload X146 hx (hb hby d27_95) rfl rfl ?_
        refine Wk.getstatic X146 hx hZ hown (host := "") (Or.inl (w 238 _ rfl)) Via.refl e146 (sN.ext O147.2) (hb hby d27_97) rfl ?_
        intro T151 X151 e151
        refine Wk.iloadN X151 hx (hb hby d27_100) rfl rfl ?_
        refine Wk.ineg X151 hx (hb hby d27_101) rfl ?_
        have KK152 : Keep h124 h146 [va] := (((Keep.refl h124 [va]).wr W133 (Or.inl (List.mem_of_getElem? (i := 0) rfl))).wr W146 (Or.inl (List.mem_of_getElem? (i := 0) rfl)))
        have f153 := (f129.keep KK152 (ninS nN nin0))
        refine Wk.baload X151 hx hZ e151 f153 (own_nn hr139) (own_100 hr139) (v := (dch uu 5)) (own_tens hr139) (hb hby d27_102) rfl ?_
        have hg154 : 5 < dl uu := dl_gt (u := uu) (k := 5) (Or.inr (own_p1 (k := 4) hw150)) (by decide)
        have hk155 : 5 < EE := own_hk hE5 hg154
        have hj156 := own_nxt (m := 5) hj145 hk155 hE3
        have hl156 := own_lin (m := 5) hj156 hk155
        refine Wk.bastore X151 hx hZ e151 Aw148 (own_nn hl156) (own_pos hl156 hE2 hk155 hcc) (EE - 1 - 5) (natI hl156) (own_hl hk155 hE2 Ln148) (w := (dch uu 5)) (dch_byte _ _) (hb hby d27_103) rfl ?_
        intro T157 h157 L157 M157 X157 e157 W157 A157
        have N157 := M157 _ _ N146 (Or.inl (List.mem_of_getElem? (i := 0) rfl))
        have O158 : Old Z Z.heap.size h157 := O147.wr W157 hva
        have V157 : Arv Z h157 va kv .byte cap (w148.set (EE - 1 - 5) (.int (dch uu 5))) (.int (0 : Int32)) := A157
        obtain ⟨w159, Aw159, Lo159, Pf159, Ln159⟩ : ∃ w, Arv Z h157 va kv .byte cap w (.int (0 : Int32)) ∧ Low w EE uu 6 ∧ Pfx w bs ∧ w.length = cap.toNatClampNeg := ⟨_, V157, Low.step Lo148 hk155 (by rw [Ln148]; exact hE2), Pfx.set Pf148 (own_ge hE5 hg154), by rw [List.length_set]; exact Ln148⟩
        refine Wk.iload X157 hx (hb hby d27_104) rfl rfl ?_
        by_cases hc160 : sg_ = (0 : Int32)
        · skip
          refine Wk.ifYes X157 hx (hb hby d27_106) (by decide) (q := 118) rfl ((if0 _ _).trans (teq hc160).1) ?_
          have hd161 : dl uu = 6 := dl_is (k := 5) (Or.inr (own_p1 (k := 4) hw150)) (own_q1 (k := 4) hw138) (by decide)
          refine Wk.iload X157 hx (hb hby d27_118) rfl rfl ?_
          have KK162 : Keep h0 h157 [va] := ((((KK119.wr W124 (Or.inl (List.mem_of_getElem? (i := 0) rfl))).wr W133 (Or.inl (List.mem_of_getElem? (i := 0) rfl))).wr W146 (Or.inl (List.mem_of_getElem? (i := 0) rfl))).wr W157 (Or.inl (List.mem_of_getElem? (i := 0) rfl)))
          exact Wk.retI' X157 hx hlk hr (hb hby d27_120) (by decide) (by decide) (Qc := Q_rm_gch Z v_ e_ va kv cap vs bs da kd dt kt h0) e157 ⟨((((((e_ + (-1 : Int32)) + (-1 : Int32)) + (-1 : Int32)) + (-1 : Int32)) + (-1 : Int32)) + (-1 : Int32)), w159, rfl, N157, KK162, Aw159, Ln159, (own_finP Pf159 Lo159 (own_psE hEE huu (own_sgN hsg hc160)) hd161 huu (own_sgN hsg hc160))⟩
        refine Wk.ifNo X157 hx (hb hby d27_106) rfl ((if0 _ _).trans (feq hc160).1) ?_
        refine Wk.aloadN X157 hx (hb hby d27_109) rfl rfl rfl ?_
        refine Wk.iinc X157 hx (Ls' := #[.val (.int i115), .val (.int e_), .val (.ref va), .val (.int i115), .val (.int i116), .val (.int (((((((e_ + (-1 : Int32)) + (-1 : Int32)) + (-1 : Int32)) + (-1 : Int32)) + (-1 : Int32)) + (-1 : Int32)) + (-1 : Int32))), .val (.int sg_)]) (hb hby d27_110) rfl rfl rfl ?_
        refine Wk.iload X157 hx (hb hby d27_113) rfl rfl ?_
        refine Wk.bipush X157 hx (v := (45 : Int32)) (hb hby d27_115) rfl rfl ?_
        have hd163 : dl uu = 6 := dl_is (k := 5) (Or.inr (own_p1 (k := 4) hw150)) (own_q1 (k := 4) hw138) (by decide)
        have hs164 : EE = bs.length + 1 + dl uu := own_sgE hEE huu (own_sgY hsg hc160)
        have hk165 : 6 < EE := own_sgk hs164 hd163
        have hj166 := own_nxt (m := 6) hj156 hk165 hE3
        have hl166 := own_lin (m := 6) hj166 hk165
        refine Wk.bastore X157 hx hZ e157 Aw159 (own_nn hl166) (own_pos hl166 hE2 hk165 hcc) bs.length (own_sgi hl166 hs164 hd163) (own_sgl hs164 hE2 Ln159) (w := (45 : Int32)) rfl (hb hby d27_117) rfl ?_
        intro T167 h167 L167 M167 X167 e167 W167 A167
        have N167 := M167 _ _ N157 (Or.inl (List.mem_of_getElem? (i := 0) rfl))
        have O168 : Old Z Z.heap.size h167 := O158.wr W167 hva
        have V167 : Arv Z h167 va kv .byte cap (w159.set bs.length (.int (45 : Int32))) (.int (0 : Int32)) := A167
        obtain ⟨w169, Aw169, Lo169, Pf169, Ln169⟩ : ∃ w, Arv Z h167 va kv .byte cap w (.int (0 : Int32)) ∧ Low w EE uu 6 ∧ Pfx w (bs ++ [45]) ∧ w.length = cap.toNatClampNeg := ⟨_, V167, Low.away Lo159 (own_sga hs164 hd163), Pfx.snoc Pf159 (own_sgl hs164 hE2 Ln159), by rw [List.length_set]; exact Ln159⟩
        refine Wk.iload X167 hx (hb hby d27_118) rfl rfl ?_
        have KK170 : Keep h0 h167 [va] := (((((KK119.wr W124 (Or.inl (List.mem_of_getElem? (i := 0) rfl))).wr W133 (Or.inl (List.mem_of_getElem? (i := 0) rfl))).wr W146 (Or.inl (List.mem_of_getElem? (i := 0) rfl))).wr W157 (Or.inl (List.mem_of_getElem? (i := 0) rfl))).wr W167 (Or.inl (List.mem_of_getElem? (i := 0) rfl)))
        exact Wk.retI' X167 hx hlk hr (hb hby d27_120) (by decide) (by decide) (Qc := Q_rm_gch Z v_ e_ va kv cap vs bs da kd dt kt h0) e167 ⟨(((((((e_ + (-1 : Int32)) + (-1 : Int32)) + (-1 : Int32)) + (-1 : Int32)) + (-1 : Int32)) + (-1 : Int32)) + (-1 : Int32)), w169, rfl, N167, KK170, Aw169, Ln169, (own_finN Pf169 Lo169 hs164 hd163 huu (own_sgY hsg hc160))⟩
      refine Wk.icmpYes X146 hx (hb hby d27_88) (by decide) (q := 104) rfl (flt hc149).2.1 ?_
      refine Wk.iload X146 hx (hb hby d27_104) rfl rfl ?_
      by_cases hc171 : sg_ = (0 : Int32)
      · skip
        refine Wk.ifYes X146 hx (hb hby d27_106) (by decide) (q := 118) rfl ((if0 _ _).trans (teq hc171).1) ?_
        have hw172 : uu / 10 ^ 4 < 10 := own_c90 hx136 hc149
        have hd173 : dl uu = 5 := dl_is (k := 4) (Or.inr (own_p2 (k := 2) hw114)) hw172 (by decide)
        refine Wk.iload X146 hx (hb hby d27_118) rfl rfl ?_
        have KK174 : Keep h0 h146 [va] := (((KK119.wr W124 (Or.inl (List.mem_of_getElem? (i := 0) rfl))).wr W133 (Or.inl (List.mem_of_getElem? (i := 0) rfl))).wr W146 (Or.inl (List.mem_of_getElem? (i := 0) rfl)))
        exact Wk.retI' X146 hx hlk hr (hb hby d27_120) (by decide) (by decide) (Qc := Q_rm_gch Z v_ e_ va kv cap vs bs da kd dt kt h0) e146 ⟨(((((e_ + (-1 : Int32)) + (-1 : Int32)) + (-1 : Int32)) + (-1 : Int32)) + (-1 : Int32)), w148, rfl, N146, KK174, Aw148, Ln148, (own_finP Pf148 Lo148 (own_psE hEE huu (own_sgN hsg hc171)) hd173 huu (own_sgN hsg hc171))⟩
      refine Wk.ifNo X146 hx (hb hby d27_106) rfl ((if0 _ _).trans (feq hc171).1) ?_
      refine Wk.aloadN X146 hx (hb hby d27_109) rfl rfl rfl ?_
      refine Wk.iinc X146 hx (Ls' := #[.val (.int i115), .val (.int e_), .val (.ref va), .val (.int i115), .val (.int i116), .val (.int ((((((e_ + (-1 : Int32)) + (-1 : Int32)) + (-1 : Int32)) + (-1 : Int32)) + (-1 : Int32)) + (-1 : Int32))), .val (.int sg_)]) (hb hby d27_110) rfl rfl rfl ?_
      refine Wk.iload X146 hx (hb hby d27_113) rfl rfl ?_
      refine Wk.bipush X146 hx (v := (45 : Int32)) (hb hby d27_115) rfl rfl ?_
      have hw175 : uu / 10 ^ 4 < 10 := own_c90 hx136 hc149
      have hd176 : dl uu = 5 := dl_is (k := 4) (Or.inr (own_p2 (k := 2) hw114)) hw175 (by decide)
      have hs177 : EE = bs.length + 1 + dl uu := own_sgE hEE huu (own_sgY hsg hc171)
      have hk178 : 5 < EE := own_sgk hs177 hd176
      have hj179 := own_nxt (m := 5) hj145 hk178 hE3
      have hl179 := own_lin (m := 5) hj179 hk178
      refine Wk.bastore X146 hx hZ e146 Aw148 (own_nn hl179) (own_pos hl179 hE2 hk178 hcc) bs.length (own_sgi hl179 hs177 hd176) (own_sgl hs177 hE2 Ln148) (w := (45 : Int32)) rfl (hb hby d27_117) rfl ?_
      intro T180 h180 L180 M180 X180 e180 W180 A180
      have N180 := M180 _ _ N146 (Or.inl (List.mem_of_getElem? (i := 0) rfl))
      have O181 : Old Z Z.heap.size h180 := O147.wr W180 hva
      have V180 : Arv Z h180 va kv .byte cap (w148.set bs.length (.int (45 : Int32))) (.int (0 : Int32)) := A180
      obtain ⟨w182, Aw182, Lo182, Pf182, Ln182⟩ : ∃ w, Arv Z h180 va kv .byte cap w (.int (0 : Int32)) ∧ Low w EE uu 5 ∧ Pfx w (bs ++ [45]) ∧ w.length = cap.toNatClampNeg := ⟨_, V180, Low.away Lo148 (own_sga hs177 hd176), Pfx.snoc Pf148 (own_sgl hs177 hE2 Ln148), by rw [List.length_set]; exact Ln148⟩
      refine Wk.iload X180 hx (hb hby d27_118) rfl rfl ?_
      have KK183 : Keep h0 h180 [va] := ((((KK119.wr W124 (Or.inl (List.mem_of_getElem? (i := 0) rfl))).wr W133 (Or.inl (List.mem_of_getElem? (i := 0) rfl))).wr W146 (Or.inl (List.mem_of_getElem? (i := 0) rfl))).wr W180 (Or.inl (List.mem_of_getElem? (i := 0) rfl)))
      exact Wk.retI' X180 hx hlk hr (hb hby d27_120) (by decide) (by decide) (Qc := Q_rm_gch Z v_ e_ va kv cap vs bs da kd dt kt h0) e180 ⟨((((((e_ + (-1 : Int32)) + (-1 : Int32)) + (-1 : Int32)) + (-1 : Int32)) + (-1 : Int32)) + (-1 : Int32)), w182, rfl, N180, KK183, Aw182, Ln182, (own_finN Pf182 Lo182 hs177 hd176 huu (own_sgY hsg hc171))⟩
    refine Wk.icmpNo X133 hx (hb hby d27_25) rfl (flt hc137).2.2.1 ?_
    have hw184 : 100 ≤ uu / 10 ^ 4 := own_c28 hx136 hc137
    refine Wk.iloadN X133 hx (hb hby d27_28) rfl rfl ?_
    refine Wk.bipush X133 hx (v := (100 : Int32)) (hb hby d27_29) rfl rfl ?_
    refine Wk.idiv X133 hx (hb hby d27_31) rfl (by decide) ?_
    refine Wk.istoreNA X133 hx (Ls' := fun z => #[.val (.int i115), .val (.int e_), .val (.ref va), .val (.int z), .val (.int i116), .val (.int ((((e_ + (-1 : Int32)) + (-1 : Int32)) + (-1 : Int32)) + (-1 : Int32))), .val (.int sg_)]) (hb hby d27_32) rfl (fun _ => rfl) ?_
    intro i185 hi185
    show Wp p e below _ _ T133 (mkF m 33 #[.val (.int i115), .val (.int e_), .val (.ref va), .val (.int i185), .val (.int i116), .val (.int ((((e_ + (-1 : Int32)) + (-1 : Int32)) + (-1 : Int32)) + (-1 : Int32))), .val (.int sg_)] [])
    refine Wk.iloadN X133 hx (hb hby d27_33) rfl rfl ?_
    refine Wk.bipush X133 hx (v := (100 : Int32)) (hb hby d27_34) rfl rfl ?_
    refine Wk.imul X133 hx (hb hby d27_36) rfl ?_
    refine Wk.iloadN X133 hx (hb hby d27_37) rfl rfl ?_
    refine Wk.isub X133 hx (hb hby d27_38) rfl ?_
    refine Wk.istoreA X133 hx (Ls' := fun z => #[.val (.int i115), .val (.int e_), .val (.ref va), .val (.int i185), .val (.int z), .val (.int ((((e_ + (-1 : Int32)) + (-1 : Int32)) + (-1 : Int32)) + (-1 : Int32))), .val (.int sg_)]) (hb hby d27_39) rfl (fun _ => rfl) ?_
    intro i186 hi186
    show Wp p e below _ _ T133 (mkF m 41 #[.val (.int i115), .val (.int e_), .val (.ref va), .val (.int i185), .val (.int i186), .val (.int ((((e_ + (-1 : Int32)) + (-1 : Int32)) + (-1 : Int32)) + (-1 : Int32))), .val (.int sg_)] [])
    refine Wk.iloadN X133 hx (hb hby d27_41) rfl rfl ?_
    refine Wk.istoreN X133 hx (Ls' := #[.val (.int i185), .val (.int e_), .val (.ref va), .val (.int i185), .val (.int i186), .val (.int ((((e_ + (-1 : Int32)) + (-1 : Int32)) + (-1 : Int32)) + (-1 : Int32))), .val (.int sg_)]) (hb hby d27_42) rfl rfl ?_
    have hr187 : i186.toInt = ((uu / 10 ^ 4 % 100 : Nat) : Int) := own_rem hx136 hi185 hi186
    refine Wk.aloadN X133 hx (hb hby d27_43) rfl rfl rfl ?_
    refine Wk.iinc X133 hx (Ls' := #[.val (.int i185), .val (.int e_), .val (.ref va), .val (.int i185), .val (.int i186), .val (.int (((((e_ + (-1 : Int32)) + (-1 : Int32)) + (-1 : Int32)) + (-1 : Int32)) + (-1 : Int32))), .val (.int sg_)]) (hb hby d27_44) rfl rfl rfl ?_
    refine Wk.iload X133 hx (hb hby d27_47) rfl rfl ?_
    refine Wk.getstatic X133 hx hZ hown (host := "") (Or.inl (w 161 _ rfl)) Via.refl e133 (sO.ext O134.2) (hb hby d27_49) rfl ?_
    intro T188 X188 e188
    refine Wk.iload X188 hx (hb hby d27_52) rfl rfl ?_
    have KK189 : Keep h63 h133 [va] := (((Keep.refl h63 [va]).wr W124 (Or.inl (List.mem_of_getElem? (i := 0) rfl))).wr W133 (Or.inl (List.mem_of_getElem? (i := 0) rfl)))
    have f190 := (f120.keep KK189 (ninS nO nin0))
    refine Wk.baload X188 hx hZ e188 f190 (own_nn hr187) (own_100 hr187) (v := (dch uu 4)) (own_ones hr187) (hb hby d27_54) rfl ?_
    have hg191 : 4 < dl uu := dl_gt (u := uu) (k := 4) (Or.inr (Nat.lt_of_lt_of_le (by decide) hw184)) (by decide)
    have hk192 : 4 < EE := own_hk hE5 hg191
    have hj193 := own_nxt (m := 4) hj132 hk192 hE3
    have hl193 := own_lin (m := 4) hj193 hk192
    refine Wk.bastore X188 hx hZ e188 Aw135 (own_nn hl193) (own_pos hl193 hE2 hk192 hcc) (EE - 1 - 4) (natI hl193) (own_hl hk192 hE2 Ln135) (w := (dch uu 4)) (dch_byte _ _) (hb hby d27_55) rfl ?_
    intro T194 h194 L194 M194 X194 e194 W194 A194
    have N194 := M194 _ _ N133 (Or.inl (List.mem_of_getElem? (i := 0) rfl))
    have O195 : Old Z Z.heap.size h194 := O134.wr W194 hva
    have V194 : Arv Z h194 va kv .byte cap (w135.set (EE - 1 - 4) (.int (dch uu 4))) (.int (0 : Int32)) := A194
    obtain ⟨w196, Aw196, Lo196, Pf196, Ln196⟩ : ∃ w, Arv Z h194 va kv .byte cap w (.int (0 : Int32)) ∧ Low w EE uu 5 ∧ Pfx w bs ∧ w.length = cap.toNatClampNeg := ⟨_, V194, Low.step Lo135 hk192 (by rw [Ln135]; exact hE2), Pfx.set Pf135 (own_ge hE5 hg191), by rw [List.length_set]; exact Ln135⟩
    refine Wk.aloadN X194 hx (hb hby d27_56) rfl rfl rfl ?_
    refine Wk.iinc X194 hx (Ls' := #[.val (.int i185), .val (.int e_), .val (.ref va), .val (.int i185), .val (.int i186), .val (.int ((((((e_ + (-1 : Int32)) + (-1 : Int32)) + (-1 : Int32)) + (-1 : Int32)) + (-1 : Int32)) + (-1 : Int32))), .val (.int sg_)]) (hb hby d27_57) rfl rfl rfl ?_
    refine Wk.iload X194 hx (hb hby d27_60) rfl rfl ?_
    refine Wk.getstatic X194 hx hZ hown (host := "") (Or.inl (w 238 _ rfl)) Via.refl e194 (sN.ext O195.2) (hb hby d27_62) rfl ?_
    intro T197 X197 e197
    refine Wk.iload X197 hx (hb hby d27_65) rfl rfl ?_
    have KK198 : Keep h124 h194 [va] := (((Keep.refl h124 [va]).wr W133 (Or.inl (List.mem_of_getElem? (i := 0) rfl))).wr W194 (Or.inl (List.mem_of_getElem? (i := 0) rfl)))
    have f199 := (f129.keep KK198 (ninS nN nin0))
    refine Wk.baload X197 hx hZ e197 f199 (own_nn hr187) (own_100 hr187) (v := (dch uu 5)) (own_tens hr187) (hb hby d27_67) rfl ?_
    have hg200 : 5 < dl uu := dl_gt (u := uu) (k := 5) (Or.inr (own_p1 (k := 4) (Nat.le_trans (by decide) hw184))) (by decide)
    have hk201 : 5 < EE := own_hk hE5 hg200
    have hj202 := own_nxt (m := 5) hj193 hk201 hE3
    have hl202 := own_lin (m := 5) hj202 hk201
    refine Wk.bastore X197 hx hZ e197 Aw196 (own_nn hl202) (own_pos hl202 hE2 hk201 hcc) (EE - 1 - 5) (natI hl202) (own_hl hk201 hE2 Ln196) (w := (dch uu 5)) (dch_byte _ _) (hb hby d27_68) rfl ?_
    intro T203 h203 L203 M203 X203 e203 W203 A203
    have N203 := M203 _ _ N194 (Or.inl (List.mem_of_getElem? (i := 0) rfl))
    have O204 : Old Z Z.heap.size h203 := O195.wr W203 hva
    have V203 : Arv Z h203 va kv .byte cap (w196.set (EE - 1 - 5) (.int (dch uu 5))) (.int (0 : Int32)) := A203
    obtain ⟨w205, Aw205, Lo205, Pf205, Ln205⟩ : ∃ w, Arv Z h203 va kv .byte cap w (.int (0 : Int32)) ∧ Low w EE uu 6 ∧ Pfx w bs ∧ w.length = cap.toNatClampNeg := ⟨_, V203, Low.step Lo196 hk201 (by rw [Ln196]; exact hE2), Pfx.set Pf196 (own_ge hE5 hg200), by rw [List.length_set]; exact Ln196⟩
    refine Wk.goto X203 hx (hb hby d27_69) (by decide) (q := 22) rfl ?_
    have hx206 : i185.toInt = -((uu / 10 ^ 6 : Nat) : Int) := own_rnd (k := 4) hx136 hi185
    refine Wk.iloadN X203 hx (hb hby d27_22) rfl rfl ?_
    refine Wk.bipush X203 hx (v := (-100 : Int32)) (hb hby d27_23) rfl rfl ?_
    by_cases hc207 : (-100 : Int32) < i185
    · skip
      refine Wk.icmpYes X203 hx (hb hby d27_25) (by decide) (q := 72) rfl (tlt hc207).2.2.1 ?_
      have hw208 : uu / 10 ^ 6 < 100 := own_c72 hx206 hc207
      have hr209 : (-i185).toInt = ((uu / 10 ^ 6 % 100 : Nat) : Int) := own_ng2 hx206 hw208
      refine Wk.aloadN X203 hx (hb hby d27_72) rfl rfl rfl ?_
      refine Wk.iinc X203 hx (Ls' := #[.val (.int i185), .val (.int e_), .val (.ref va), .val (.int i185), .val (.int i186), .val (.int (((((((e_ + (-1 : Int32)) + (-1 : Int32)) + (-1 : Int32)) + (-1 : Int32)) + (-1 : Int32)) + (-1 : Int32)) + (-1 : Int32))), .val (.int sg_)]) (hb hby d27_73) rfl rfl rfl ?_
      refine Wk.iload X203 hx (hb hby d27_76) rfl rfl ?_
      refine Wk.getstatic X203 hx hZ hown (host := "") (Or.inl (w 161 _ rfl)) Via.refl e203 (sO.ext O204.2) (hb hby d27_78) rfl ?_
      intro T210 X210 e210
      refine Wk.iloadN X210 hx (hb hby d27_81) rfl rfl ?_
      refine Wk.ineg X210 hx (hb hby d27_82) rfl ?_
      have KK211 : Keep h133 h203 [va] := (((Keep.refl h133 [va]).wr W194 (Or.inl (List.mem_of_getElem? (i := 0) rfl))).wr W203 (Or.inl (List.mem_of_getElem? (i := 0) rfl)))
      have f212 := (f190.keep KK211 (ninS nO nin0))
      refine Wk.baload X210 hx hZ e210 f212 (own_nn hr209) (own_100 hr209) (v := (dch uu 6)) (own_ones hr209) (hb hby d27_83) rfl ?_
      have hg213 : 6 < dl uu := dl_gt (u := uu) (k := 6) (Or.inr (own_p2 (k := 4) hw184)) (by decide)
      have hk214 : 6 < EE := own_hk hE5 hg213
      have hj215 := own_nxt (m := 6) hj202 hk214 hE3
      have hl215 := own_lin (m := 6) hj215 hk214
      refine Wk.bastore X210 hx hZ e210 Aw205 (own_nn hl215) (own_pos hl215 hE2 hk214 hcc) (EE - 1 - 6) (natI hl215) (own_hl hk214 hE2 Ln205) (w := (dch uu 6)) (dch_byte _ _) (hb hby d27_84) rfl ?_
      intro T216 h216 L216 M216 X216 e216 W216 A216
      have N216 := M216 _ _ N203 (Or.inl (List.mem_of_getElem? (i := 0) rfl))
      have O217 : Old Z Z.heap.size h216 := O204.wr W216 hva
      have V216 : Arv Z h216 va kv .byte cap (w205.set (EE - 1 - 6) (.int (dch uu 6))) (.int (0 : Int32)) := A216
      obtain ⟨w218, Aw218, Lo218, Pf218, Ln218⟩ : ∃ w, Arv Z h216 va kv .byte cap w (.int (0 : Int32)) ∧ Low w EE uu 7 ∧ Pfx w bs ∧ w.length = cap.toNatClampNeg := ⟨_, V216, Low.step Lo205 hk214 (by rw [Ln205]; exact hE2), Pfx.set Pf205 (own_ge hE5 hg213), by rw [List.length_set]; exact Ln205⟩
      refine Wk.iloadN X216 hx (hb hby d27_85) rfl rfl ?_
      refine Wk.bipush X216 hx (v := (-9 : Int32)) (hb hby d27_86) rfl rfl ?_
      by_cases hc219 : i185 < (-9 : Int32)
      · skip
        refine Wk.icmpNo X216 hx (hb hby d27_88) rfl (tlt hc219).2.1 ?_
        have hw220 : 10 ≤ uu / 10 ^ 6 := own_c91 hx206 hc219
        refine Wk.aloadN X216 hx (hb hby d27_91) rfl rfl rfl ?_
        refine Wk.iinc X216 hx (Ls' := #[.val (.int i185), .val (.int e_), .val (.ref va), .val (.int i185), .val (.int i186), .val (.int ((((((((e_ + (-1 : Int32)) + (-1 : Int32)) + (-1 : Int32)) + (-1 : Int32)) + (-1 : Int32)) + (-1 : Int32)) + (-1 : Int32)) + (-1 : Int32))), .val (.int sg_)]) (hb hby d27_92) rfl rfl rfl ?_
        refine Wk.iload X216 hx (hb hby d27_95) rfl rfl ?_
        refine Wk.getstatic X216 hx hZ hown (host := "") (Or.inl (w 238 _ rfl)) Via.refl e216 (sN.ext O217.2) (hb hby d27_97) rfl ?_
        intro T221 X221 e221
        refine Wk.iloadN X221 hx (hb hby d27_100) rfl rfl ?_
        refine Wk.ineg X221 hx (hb hby d27_101) rfl ?_
        have KK222 : Keep h194 h216 [va] := (((Keep.refl h194 [va]).wr W203 (Or.inl (List.mem_of_getElem? (i := 0) rfl))).wr W216 (Or.inl (List.mem_of_getElem? (i := 0) rfl)))
        have f223 := (f199.keep KK222 (ninS nN nin0))
        refine Wk.baload X221 hx hZ e221 f223 (own_nn hr209) (own_100 hr209) (v := (dch uu 7)) (own_tens hr209) (hb hby d27_102) rfl ?_
        have hg224 : 7 < dl uu := dl_gt (u := uu) (k := 7) (Or.inr (own_p1 (k := 6) hw220)) (by decide)
        have hk225 : 7 < EE := own_hk hE5 hg224
        have hj226 := own_nxt (m := 7) hj215 hk225 hE3
        have hl226 := own_lin (m := 7) hj226 hk225
        refine Wk.bastore X221 hx hZ e221 Aw218 (own_nn hl226) (own_pos hl226 hE2 hk225 hcc) (EE - 1 - 7) (natI hl226) (own_hl hk225 hE2 Ln218) (w := (dch uu 7)) (dch_byte _ _) (hb hby d27_103) rfl ?_
        intro T227 h227 L227 M227 X227 e227 W227 A227
        have N227 := M227 _ _ N216 (Or.inl (List.mem_of_getElem? (i := 0) rfl))
        have O228 : Old Z Z.heap.size h227 := O217.wr W227 hva
        have V227 : Arv Z h227 va kv .byte cap (w218.set (EE - 1 - 7) (.int (dch uu 7))) (.int (0 : Int32)) := A227
        obtain ⟨w229, Aw229, Lo229, Pf229, Ln229⟩ : ∃ w, Arv Z h227 va kv .byte cap w (.int (0 : Int32)) ∧ Low w EE uu 8 ∧ Pfx w bs ∧ w.length = cap.toNatClampNeg := ⟨_, V227, Low.step Lo218 hk225 (by rw [Ln218]; exact hE2), Pfx.set Pf218 (own_ge hE5 hg224), by rw [List.length_set]; exact Ln218⟩
        refine Wk.iload X227 hx (hb hby d27_104) rfl rfl ?_
        by_cases hc230 : sg_ = (0 : Int32)
        · skip
          refine Wk.ifYes X227 hx (hb hby d27_106) (by decide) (q := 118) rfl ((if0 _ _).trans (teq hc230).1) ?_
          have hd231 : dl uu = 8 := dl_is (k := 7) (Or.inr (own_p1 (k := 6) hw220)) (own_q1 (k := 6) hw208) (by decide)
          refine Wk.iload X227 hx (hb hby d27_118) rfl rfl ?_
          have KK232 : Keep h0 h227 [va] := ((((((KK119.wr W124 (Or.inl (List.mem_of_getElem? (i := 0) rfl))).wr W133 (Or.inl (List.mem_of_getElem? (i := 0) rfl))).wr W194 (Or.inl (List.mem_of_getElem? (i := 0) rfl))).wr W203 (Or.inl (List.mem_of_getElem? (i := 0) rfl))).wr W216 (Or.inl (List.mem_of_getElem? (i := 0) rfl))).wr W227 (Or.inl (List.mem_of_getElem? (i := 0) rfl)))
          exact Wk.retI' X227 hx hlk hr (hb hby d27_120) (by decide) (by decide) (Qc := Q_rm_gch Z v_ e_ va kv cap vs bs da kd dt kt h0) e227 ⟨((((((((e_ + (-1 : Int32)) + (-1 : Int32)) + (-1 : Int32)) + (-1 : Int32)) + (-1 : Int32)) + (-1 : Int32)) + (-1 : Int32)) + (-1 : Int32)), w229, rfl, N227, KK232, Aw229, Ln229, (own_finP Pf229 Lo229 (own_psE hEE huu (own_sgN hsg hc230)) hd231 huu (own_sgN hsg hc230))⟩
        refine Wk.ifNo X227 hx (hb hby d27_106) rfl ((if0 _ _).trans (feq hc230).1) ?_
        refine Wk.aloadN X227 hx (hb hby d27_109) rfl rfl rfl ?_
        refine Wk.iinc X227 hx (Ls' := #[.val (.int i185), .val (.int e_), .val (.ref va), .val (.int i185), .val (.int i186), .val (.int (((((((((e_ + (-1 : Int32)) + (-1 : Int32)) + (-1 : Int32)) + (-1 : Int32)) + (-1 : Int32)) + (-1 : Int32)) + (-1 : Int32)) + (-1 : Int32)) + (-1 : Int32))), .val (.int sg_)]) (hb hby d27_110) rfl rfl rfl ?_
        refine Wk.iload X227 hx (hb hby d27_113) rfl rfl ?_
        refine Wk.bipush X227 hx (v := (45 : Int32)) (hb hby d27_115) rfl rfl ?_
        have hd233 : dl uu = 8 := dl_is (k := 7) (Or.inr (own_p1 (k := 6) hw220)) (own_q1 (k := 6) hw208) (by decide)
        have hs234 : EE = bs.length + 1 + dl uu := own_sgE hEE huu (own_sgY hsg hc230)
        have hk235 : 8 < EE := own_sgk hs234 hd233
        have hj236 := own_nxt (m := 8) hj226 hk235 hE3
        have hl236 := own_lin (m := 8) hj236 hk235
        refine Wk.bastore X227 hx hZ e227 Aw229 (own_nn hl236) (own_pos hl236 hE2 hk235 hcc) bs.length (own_sgi hl236 hs234 hd233) (own_sgl hs234 hE2 Ln229) (w := (45 : Int32)) rfl (hb hby d27_117) rfl ?_
        intro T237 h237 L237 M237 X237 e237 W237 A237
        have N237 := M237 _ _ N227 (Or.inl (List.mem_of_getElem? (i := 0) rfl))
        have O238 : Old Z Z.heap.size h237 := O228.wr W237 hva
        have V237 : Arv Z h237 va kv .byte cap (w229.set bs.length (.int (45 : Int32))) (.int (0 : Int32)) := A237
        obtain ⟨w239, Aw239, Lo239, Pf239, Ln239⟩ : ∃ w, Arv Z h237 va kv .byte cap w (.int (0 : Int32)) ∧ Low w EE uu 8 ∧ Pfx w (bs ++ [45]) ∧ w.length = cap.toNatClampNeg := ⟨_, V237, Low.away Lo229 (own_sga hs234 hd233), Pfx.snoc Pf229 (own_sgl hs234 hE2 Ln229), by rw [List.length_set]; exact Ln229⟩
        refine Wk.iload X237 hx (hb hby d27_118) rfl rfl ?_
        have KK240 : Keep h0 h237 [va] := (((((((KK119.wr W124 (Or.inl (List.mem_of_getElem? (i := 0) rfl))).wr W133 (Or.inl (List.mem_of_getElem? (i := 0) rfl))).wr W194 (Or.inl (List.mem_of_getElem? (i := 0) rfl))).wr W203 (Or.inl (List.mem_of_getElem? (i := 0) rfl))).wr W216 (Or.inl (List.mem_of_getElem? (i := 0) rfl))).wr W227 (Or.inl (List.mem_of_getElem? (i := 0) rfl))).wr W237 (Or.inl (List.mem_of_getElem? (i := 0) rfl)))
        exact Wk.retI' X237 hx hlk hr (hb hby d27_120) (by decide) (by decide) (Qc := Q_rm_gch Z v_ e_ va kv cap vs bs da kd dt kt h0) e237 ⟨(((((((((e_ + (-1 : Int32)) + (-1 : Int32)) + (-1 : Int32)) + (-1 : Int32)) + (-1 : Int32)) + (-1 : Int32)) + (-1 : Int32)) + (-1 : Int32)) + (-1 : Int32)), w239, rfl, N237, KK240, Aw239, Ln239, (own_finN Pf239 Lo239 hs234 hd233 huu (own_sgY hsg hc230))⟩
      refine Wk.icmpYes X216 hx (hb hby d27_88) (by decide) (q := 104) rfl (flt hc219).2.1 ?_
      refine Wk.iload X216 hx (hb hby d27_104) rfl rfl ?_
      by_cases hc241 : sg_ = (0 : Int32)
      · skip
        refine Wk.ifYes X216 hx (hb hby d27_106) (by decide) (q := 118) rfl ((if0 _ _).trans (teq hc241).1) ?_
        have hw242 : uu / 10 ^ 6 < 10 := own_c90 hx206 hc219
        have hd243 : dl uu = 7 := dl_is (k := 6) (Or.inr (own_p2 (k := 4) hw184)) hw242 (by decide)
        refine Wk.iload X216 hx (hb hby d27_118) rfl rfl ?_
        have KK244 : Keep h0 h216 [va] := (((((KK119.wr W124 (Or.inl (List.mem_of_getElem? (i := 0) rfl))).wr W133 (Or.inl (List.mem_of_getElem? (i := 0) rfl))).wr W194 (Or.inl (List.mem_of_getElem? (i := 0) rfl))).wr W203 (Or.inl (List.mem_of_getElem? (i := 0) rfl))).wr W216 (Or.inl (List.mem_of_getElem? (i := 0) rfl)))
        exact Wk.retI' X216 hx hlk hr (hb hby d27_120) (by decide) (by decide) (Qc := Q_rm_gch Z v_ e_ va kv cap vs bs da kd dt kt h0) e216 ⟨(((((((e_ + (-1 : Int32)) + (-1 : Int32)) + (-1 : Int32)) + (-1 : Int32)) + (-1 : Int32)) + (-1 : Int32)) + (-1 : Int32)), w218, rfl, N216, KK244, Aw218, Ln218, (own_finP Pf218 Lo218 (own_psE hEE huu (own_sgN hsg hc241)) hd243 huu (own_sgN hsg hc241))⟩
      refine Wk.ifNo X216 hx (hb hby d27_106) rfl ((if0 _ _).trans (feq hc241).1) ?_
      refine Wk.aloadN X216 hx (hb hby d27_109) rfl rfl rfl ?_
      refine Wk.iinc X216 hx (Ls' := #[.val (.int i185), .val (.int e_), .val (.ref va), .val (.int i185), .val (.int i186), .val (.int ((((((((e_ + (-1 : Int32)) + (-1 : Int32)) + (-1 : Int32)) + (-1 : Int32)) + (-1 : Int32)) + (-1 : Int32)) + (-1 : Int32)) + (-1 : Int32))), .val (.int sg_)]) (hb hby d27_110) rfl rfl rfl ?_
      refine Wk.iload X216 hx (hb hby d27_113) rfl rfl ?_
      refine Wk.bipush X216 hx (v := (45 : Int32)) (hb hby d27_115) rfl rfl ?_
      have hw245 : uu / 10 ^ 6 < 10 := own_c90 hx206 hc219
      have hd246 : dl uu = 7 := dl_is (k := 6) (Or.inr (own_p2 (k := 4) hw184)) hw245 (by decide)
      have hs247 : EE = bs.length + 1 + dl uu := own_sgE hEE huu (own_sgY hsg hc241)
      have hk248 : 7 < EE := own_sgk hs247 hd246
      have hj249 := own_nxt (m := 7) hj215 hk248 hE3
      have hl249 := own_lin (m := 7) hj249 hk248
      refine Wk.bastore X216 hx hZ e216 Aw218 (own_nn hl249) (own_pos hl249 hE2 hk248 hcc) bs.length (own_sgi hl249 hs247 hd246) (own_sgl hs247 hE2 Ln218) (w := (45 : Int32)) rfl (hb hby d27_117) rfl ?_
      intro T250 h250 L250 M250 X250 e250 W250 A250
      have N250 := M250 _ _ N216 (Or.inl (List.mem_of_getElem? (i := 0) rfl))
      have O251 : Old Z Z.heap.size h250 := O217.wr W250 hva
      have V250 : Arv Z h250 va kv .byte cap (w218.set bs.length (.int (45 : Int32))) (.int (0 : Int32)) := A250
      obtain ⟨w252, Aw252, Lo252, Pf252, Ln252⟩ : ∃ w, Arv Z h250 va kv .byte cap w (.int (0 : Int32)) ∧ Low w EE uu 7 ∧ Pfx w (bs ++ [45]) ∧ w.length = cap.toNatClampNeg := ⟨_, V250, Low.away Lo218 (own_sga hs247 hd246), Pfx.snoc Pf218 (own_sgl hs247 hE2 Ln218), by rw [List.length_set]; exact Ln218⟩
      refine Wk.iload X250 hx (hb hby d27_118) rfl rfl ?_
      have KK253 : Keep h0 h250 [va] := ((((((KK119.wr W124 (Or.inl (List.mem_of_getElem? (i := 0) rfl))).wr W133 (Or.inl (List.mem_of_getElem? (i := 0) rfl))).wr W194 (Or.inl (List.mem_of_getElem? (i := 0) rfl))).wr W203 (Or.inl (List.mem_of_getElem? (i := 0) rfl))).wr W216 (Or.inl (List.mem_of_getElem? (i := 0) rfl))).wr W250 (Or.inl (List.mem_of_getElem? (i := 0) rfl)))
      exact Wk.retI' X250 hx hlk hr (hb hby d27_120) (by decide) (by decide) (Qc := Q_rm_gch Z v_ e_ va kv cap vs bs da kd dt kt h0) e250 ⟨((((((((e_ + (-1 : Int32)) + (-1 : Int32)) + (-1 : Int32)) + (-1 : Int32)) + (-1 : Int32)) + (-1 : Int32)) + (-1 : Int32)) + (-1 : Int32)), w252, rfl, N250, KK253, Aw252, Ln252, (own_finN Pf252 Lo252 hs247 hd246 huu (own_sgY hsg hc241))⟩
    refine Wk.icmpNo X203 hx (hb hby d27_25) rfl (flt hc207).2.2.1 ?_
    have hw254 : 100 ≤ uu / 10 ^ 6 := own_c28 hx206 hc207
    refine Wk.iloadN X203 hx (hb hby d27_28) rfl rfl ?_
    refine Wk.bipush X203 hx (v := (100 : Int32)) (hb hby d27_29) rfl rfl ?_
    refine Wk.idiv X203 hx (hb hby d27_31) rfl (by decide) ?_
    refine Wk.istoreNA X203 hx (Ls' := fun z => #[.val (.int i185), .val (.int e_), .val (.ref va), .val (.int z), .val (.int i186), .val (.int ((((((e_ + (-1 : Int32)) + (-1 : Int32)) + (-1 : Int32)) + (-1 : Int32)) + (-1 : Int32)) + (-1 : Int32))), .val (.int sg_)]) (hb hby d27_32) rfl (fun _ => rfl) ?_
    intro i255 hi255
    show Wp p e below _ _ T203 (mkF m 33 #[.val (.int i185), .val (.int e_), .val (.ref va), .val (.int i255), .val (.int i186), .val (.int ((((((e_ + (-1 : Int32)) + (-1 : Int32)) + (-1 : Int32)) + (-1 : Int32)) + (-1 : Int32)) + (-1 : Int32))), .val (.int sg_)] [])
    refine Wk.iloadN X203 hx (hb hby d27_33) rfl rfl ?_
    refine Wk.bipush X203 hx (v := (100 : Int32)) (hb hby d27_34) rfl rfl ?_
    refine Wk.imul X203 hx (hb hby d27_36) rfl ?_
    refine Wk.iloadN X203 hx (hb hby d27_37) rfl rfl ?_
    refine Wk.isub X203 hx (hb hby d27_38) rfl ?_
    refine Wk.istoreA X203 hx (Ls' := fun z => #[.val (.int i185), .val (.int e_), .val (.ref va), .val (.int i255), .val (.int z), .val (.int ((((((e_ + (-1 : Int32)) + (-1 : Int32)) + (-1 : Int32)) + (-1 : Int32)) + (-1 : Int32)) + (-1 : Int32))), .val (.int sg_)]) (hb hby d27_39) rfl (fun _ => rfl) ?_
    intro i256 hi256
    show Wp p e below _ _ T203 (mkF m 41 #[.val (.int i185), .val (.int e_), .val (.ref va), .val (.int i255), .val (.int i256), .val (.int ((((((e_ + (-1 : Int32)) + (-1 : Int32)) + (-1 : Int32)) + (-1 : Int32)) + (-1 : Int32)) + (-1 : Int32))), .val (.int sg_)] [])
    refine Wk.iloadN X203 hx (hb hby d27_41) rfl rfl ?_
    refine Wk.istoreN X203 hx (Ls' := #[.val (.int i255), .val (.int e_), .val (.ref va), .val (.int i255), .val (.int i256), .val (.int ((((((e_ + (-1 : Int32)) + (-1 : Int32)) + (-1 : Int32)) + (-1 : Int32)) + (-1 : Int32)) + (-1 : Int32))), .val (.int sg_)]) (hb hby d27_42) rfl rfl ?_
    have hr257 : i256.toInt = ((uu / 10 ^ 6 % 100 : Nat) : Int) := own_rem hx206 hi255 hi256
    refine Wk.aloadN X203 hx (hb hby d27_43) rfl rfl rfl ?_
    refine Wk.iinc X203 hx (Ls' := #[.val (.int i255), .val (.int e_), .val (.ref va), .val (.int i255), .val (.int i256), .val (.int (((((((e_ + (-1 : Int32)) + (-1 : Int32)) + (-1 : Int32)) + (-1 : Int32)) + (-1 : Int32)) + (-1 : Int32)) + (-1 : Int32))), .val (.int sg_)]) (hb hby d27_44) rfl rfl rfl ?_
    refine Wk.iload X203 hx (hb hby d27_47) rfl rfl ?_
    refine Wk.getstatic X203 hx hZ hown (host := "") (Or.inl (w 161 _ rfl)) Via.refl e203 (sO.ext O204.2) (hb hby d27_49) rfl ?_
    intro T258 X258 e258
    refine Wk.iload X258 hx (hb hby d27_52) rfl rfl ?_
    have KK259 : Keep h133 h203 [va] := (((Keep.refl h133 [va]).wr W194 (Or.inl (List.mem_of_getElem? (i := 0) rfl))).wr W203 (Or.inl (List.mem_of_getElem? (i := 0) rfl)))
    have f260 := (f190.keep KK259 (ninS nO nin0))
    refine Wk.baload X258 hx hZ e258 f260 (own_nn hr257) (own_100 hr257) (v := (dch uu 6)) (own_ones hr257) (hb hby d27_54) rfl ?_
    have hg261 : 6 < dl uu := dl_gt (u := uu) (k := 6) (Or.inr (Nat.lt_of_lt_of_le (by decide) hw254)) (by decide)
    have hk262 : 6 < EE := own_hk hE5 hg261
    have hj263 := own_nxt (m := 6) hj202 hk262 hE3
    have hl263 := own_lin (m := 6) hj263 hk262
    refine Wk.bastore X258 hx hZ e258 Aw205 (own_nn hl263) (own_pos hl263 hE2 hk262 hcc) (EE - 1 - 6) (natI hl263) (own_hl hk262 hE2 Ln205) (w := (dch uu 6)) (dch_byte _ _) (hb hby d27_55) rfl ?_
    intro T264 h264 L264 M264 X264 e264 W264 A264
    have N264 := M264 _ _ N203 (Or.inl (List.mem_of_getElem? (i := 0) rfl))
    have O265 : Old Z Z.heap.size h264 := O204.wr W264 hva
    have V264 : Arv Z h264 va kv .byte cap (w205.set (EE - 1 - 6) (.int (dch uu 6))) (.int (0 : Int32)) := A264
    obtain ⟨w266, Aw266, Lo266, Pf266, Ln266⟩ : ∃ w, Arv Z h264 va kv .byte cap w (.int (0 : Int32)) ∧ Low w EE uu 7 ∧ Pfx w bs ∧ w.length = cap.toNatClampNeg := ⟨_, V264, Low.step Lo205 hk262 (by rw [Ln205]; exact hE2), Pfx.set Pf205 (own_ge hE5 hg261), by rw [List.length_set]; exact Ln205⟩
    refine Wk.aloadN X264 hx (hb hby d27_56) rfl rfl rfl ?_
    refine Wk.iinc X264 hx (Ls' := #[.val (.int i255), .val (.int e_), .val (.ref va), .val (.int i255), .val (.int i256), .val (.int ((((((((e_ + (-1 : Int32)) + (-1 : Int32)) + (-1 : Int32)) + (-1 : Int32)) + (-1 : Int32)) + (-1 : Int32)) + (-1 : Int32)) + (-1 : Int32))), .val (.int sg_)]) (hb hby d27_57) rfl rfl rfl ?_
    refine Wk.iload X264 hx (hb hby d27_60) rfl rfl ?_
    refine Wk.getstatic X264 hx hZ hown (host := "") (Or.inl (w 238 _ rfl)) Via.refl e264 (sN.ext O265.2) (hb hby d27_62) rfl ?_
    intro T267 X267 e267
    refine Wk.iload X267 hx (hb hby d27_65) rfl rfl ?_
    have KK268 : Keep h194 h264 [va] := (((Keep.refl h194 [va]).wr W203 (Or.inl (List.mem_of_getElem? (i := 0) rfl))).wr W264 (Or.inl (List.mem_of_getElem? (i := 0) rfl)))
    have f269 := (f199.keep KK268 (ninS nN nin0))
    refine Wk.baload X267 hx hZ e267 f269 (own_nn hr257) (own_100 hr257) (v := (dch uu 7)) (own_tens hr257) (hb hby d27_67) rfl ?_
    have hg270 : 7 < dl uu := dl_gt (u := uu) (k := 7) (Or.inr (own_p1 (k := 6) (Nat.le_trans (by decide) hw254))) (by decide)
    have hk271 : 7 < EE := own_hk hE5 hg270
    have hj272 := own_nxt (m := 7) hj263 hk271 hE3
    have hl272 := own_lin (m := 7) hj272 hk271
    refine Wk.bastore X267 hx hZ e267 Aw266 (own_nn hl272) (own_pos hl272 hE2 hk271 hcc) (EE - 1 - 7) (natI hl272) (own_hl hk271 hE2 Ln266) (w := (dch uu 7)) (dch_byte _ _) (hb hby d27_68) rfl ?_
    intro T273 h273 L273 M273 X273 e273 W273 A273
    have N273 := M273 _ _ N264 (Or.inl (List.mem_of_getElem? (i := 0) rfl))
    have O274 : Old Z Z.heap.size h273 := O265.wr W273 hva
    have V273 : Arv Z h273 va kv .byte cap (w266.set (EE - 1 - 7) (.int (dch uu 7))) (.int (0 : Int32)) := A273
    obtain ⟨w275, Aw275, Lo275, Pf275, Ln275⟩ : ∃ w, Arv Z h273 va kv .byte cap w (.int (0 : Int32)) ∧ Low w EE uu 8 ∧ Pfx w bs ∧ w.length = cap.toNatClampNeg := ⟨_, V273, Low.step Lo266 hk271 (by rw [Ln266]; exact hE2), Pfx.set Pf266 (own_ge hE5 hg270), by rw [List.length_set]; exact Ln266⟩
    refine Wk.goto X273 hx (hb hby d27_69) (by decide) (q := 22) rfl ?_
    have hx276 : i255.toInt = -((uu / 10 ^ 8 : Nat) : Int) := own_rnd (k := 6) hx206 hi255
    refine Wk.iloadN X273 hx (hb hby d27_22) rfl rfl ?_
    refine Wk.bipush X273 hx (v := (-100 : Int32)) (hb hby d27_23) rfl rfl ?_
    by_cases hc277 : (-100 : Int32) < i255
    · skip
      refine Wk.icmpYes X273 hx (hb hby d27_25) (by decide) (q := 72) rfl (tlt hc277).2.2.1 ?_
      have hw278 : uu / 10 ^ 8 < 100 := own_c72 hx276 hc277
      have hr279 : (-i255).toInt = ((uu / 10 ^ 8 % 100 : Nat) : Int) := own_ng2 hx276 hw278
      refine Wk.aloadN X273 hx (hb hby d27_72) rfl rfl rfl ?_
      refine Wk.iinc X273 hx (Ls' := #[.val (.int i255), .val (.int e_), .val (.ref va), .val (.int i255), .val (.int i256), .val (.int (((((((((e_ + (-1 : Int32)) + (-1 : Int32)) + (-1 : Int32)) + (-1 : Int32)) + (-1 : Int32)) + (-1 : Int32)) + (-1 : Int32)) + (-1 : Int32)) + (-1 : Int32))), .val (.int sg_)]) (hb hby d27_73) rfl rfl rfl ?_
      refine Wk.iload X273 hx (hb hby d27_76) rfl rfl ?_
      refine Wk.getstatic X273 hx hZ hown (host := "") (Or.inl (w 161 _ rfl)) Via.refl e273 (sO.ext O274.2) (hb hby d27_78) rfl ?_
      intro T280 X280 e280
      refine Wk.iloadN X280 hx (hb hby d27_81) rfl rfl ?_
      refine Wk.ineg X280 hx (hb hby d27_82) rfl ?_
      have KK281 : Keep h203 h273 [va] := (((Keep.refl h203 [va]).wr W264 (Or.inl (List.mem_of_getElem? (i := 0) rfl))).wr W273 (Or.inl (List.mem_of_getElem? (i := 0) rfl)))
      have f282 := (f260.keep KK281 (ninS nO nin0))
      refine Wk.baload X280 hx hZ e280 f282 (own_nn hr279) (own_100 hr279) (v := (dch uu 8)) (own_ones hr279) (hb hby d27_83) rfl ?_
      have hg283 : 8 < dl uu := dl_gt (u := uu) (k := 8) (Or.inr (own_p2 (k := 6) hw254)) (by decide)
      have hk284 : 8 < EE := own_hk hE5 hg283
      have hj285 := own_nxt (m := 8) hj272 hk284 hE3
      have hl285 := own_lin (m := 8) hj285 hk284
      refine Wk.bastore X280 hx hZ e280 Aw275 (own_nn hl285) (own_pos hl285 hE2 hk284 hcc) (EE - 1 - 8) (natI hl285) (own_hl hk284 hE2 Ln275) (w := (dch uu 8)) (dch_byte _ _) (hb hby d27_84) rfl ?_
      intro T286 h286 L286 M286 X286 e286 W286 A286
      have N286 := M286 _ _ N273 (Or.inl (List.mem_of_getElem? (i := 0) rfl))
      have O287 : Old Z Z.heap.size h286 := O274.wr W286 hva
      have V286 : Arv Z h286 va kv .byte cap (w275.set (EE - 1 - 8) (.int (dch uu 8))) (.int (0 : Int32)) := A286
      obtain ⟨w288, Aw288, Lo288, Pf288, Ln288⟩ : ∃ w, Arv Z h286 va kv .byte cap w (.int (0 : Int32)) ∧ Low w EE uu 9 ∧ Pfx w bs ∧ w.length = cap.toNatClampNeg := ⟨_, V286, Low.step Lo275 hk284 (by rw [Ln275]; exact hE2), Pfx.set Pf275 (own_ge hE5 hg283), by rw [List.length_set]; exact Ln275⟩
      refine Wk.iloadN X286 hx (hb hby d27_85) rfl rfl ?_
      refine Wk.bipush X286 hx (v := (-9 : Int32)) (hb hby d27_86) rfl rfl ?_
      by_cases hc289 : i255 < (-9 : Int32)
      · skip
        refine Wk.icmpNo X286 hx (hb hby d27_88) rfl (tlt hc289).2.1 ?_
        have hw290 : 10 ≤ uu / 10 ^ 8 := own_c91 hx276 hc289
        refine Wk.aloadN X286 hx (hb hby d27_91) rfl rfl rfl ?_
        refine Wk.iinc X286 hx (Ls' := #[.val (.int i255), .val (.int e_), .val (.ref va), .val (.int i255), .val (.int i256), .val (.int ((((((((((e_ + (-1 : Int32)) + (-1 : Int32)) + (-1 : Int32)) + (-1 : Int32)) + (-1 : Int32)) + (-1 : Int32)) + (-1 : Int32)) + (-1 : Int32)) + (-1 : Int32)) + (-1 : Int32))), .val (.int sg_)]) (hb hby d27_92) rfl rfl rfl ?_
        refine Wk.iload X286 hx (hb hby d27_95) rfl rfl ?_
        refine Wk.getstatic X286 hx hZ hown (host := "") (Or.inl (w 238 _ rfl)) Via.refl e286 (sN.ext O287.2) (hb hby d27_97) rfl ?_
        intro T291 X291 e291
        refine Wk.iloadN X291 hx (hb hby d27_100) rfl rfl ?_
        refine Wk.ineg X291 hx (hb hby d27_101) rfl ?_
        have KK292 : Keep h264 h286 [va] := (((Keep.refl h264 [va]).wr W273 (Or.inl (List.mem_of_getElem? (i := 0) rfl))).wr W286 (Or.inl (List.mem_of_getElem? (i := 0) rfl)))
        have f293 := (f269.keep KK292 (ninS nN nin0))
        refine Wk.baload X291 hx hZ e291 f293 (own_nn hr279) (own_100 hr279) (v := (dch uu 9)) (own_tens hr279) (hb hby d27_102) rfl ?_
        have hg294 : 9 < dl uu := dl_gt (u := uu) (k := 9) (Or.inr (own_p1 (k := 8) hw290)) (by decide)
        have hk295 : 9 < EE := own_hk hE5 hg294
        have hj296 := own_nxt (m := 9) hj285 hk295 hE3
        have hl296 := own_lin (m := 9) hj296 hk295
        refine Wk.bastore X291 hx hZ e291 Aw288 (own_nn hl296) (own_pos hl296 hE2 hk295 hcc) (EE - 1 - 9) (natI hl296) (own_hl hk295 hE2 Ln288) (w := (dch uu 9)) (dch_byte _ _) (hb hby d27_103) rfl ?_
        intro T297 h297 L297 M297 X297 e297 W297 A297
        have N297 := M297 _ _ N286 (Or.inl (List.mem_of_getElem? (i := 0) rfl))
        have O298 : Old Z Z.heap.size h297 := O287.wr W297 hva
        have V297 : Arv Z h297 va kv .byte cap (w288.set (EE - 1 - 9) (.int (dch uu 9))) (.int (0 : Int32)) := A297
        obtain ⟨w299, Aw299, Lo299, Pf299, Ln299⟩ : ∃ w, Arv Z h297 va kv .byte cap w (.int (0 : Int32)) ∧ Low w EE uu 10 ∧ Pfx w bs ∧ w.length = cap.toNatClampNeg := ⟨_, V297, Low.step Lo288 hk295 (by rw [Ln288]; exact hE2), Pfx.set Pf288 (own_ge hE5 hg294), by rw [List.length_set]; exact Ln288⟩
        refine Wk.iload X297 hx (hb hby d27_104) rfl rfl ?_
        by_cases hc300 : sg_ = (0 : Int32)
        · skip
          refine Wk.ifYes X297 hx (hb hby d27_106) (by decide) (q := 118) rfl ((if0 _ _).trans (teq hc300).1) ?_
          have hd301 : dl uu = 10 := dl_is (k := 9) (Or.inr (own_p1 (k := 8) hw290)) (own_q1 (k := 8) hw278) (by decide)
          refine Wk.iload X297 hx (hb hby d27_118) rfl rfl ?_
          have KK302 : Keep h0 h297 [va] := ((((((((KK119.wr W124 (Or.inl (List.mem_of_getElem? (i := 0) rfl))).wr W133 (Or.inl (List.mem_of_getElem? (i := 0) rfl))).wr W194 (Or.inl (List.mem_of_getElem? (i := 0) rfl))).wr W203 (Or.inl (List.mem_of_getElem? (i := 0) rfl))).wr W264 (Or.inl (List.mem_of_getElem? (i := 0) rfl))).wr W273 (Or.inl (List.mem_of_getElem? (i := 0) rfl))).wr W286 (Or.inl (List.mem_of_getElem? (i := 0) rfl))).wr W297 (Or.inl (List.mem_of_getElem? (i := 0) rfl)))
          exact Wk.retI' X297 hx hlk hr (hb hby d27_120) (by decide) (by decide) (Qc := Q_rm_gch Z v_ e_ va kv cap vs bs da kd dt kt h0) e297 ⟨((((((((((e_ + (-1 : Int32)) + (-1 : Int32)) + (-1 : Int32)) + (-1 : Int32)) + (-1 : Int32)) + (-1 : Int32)) + (-1 : Int32)) + (-1 : Int32)) + (-1 : Int32)) + (-1 : Int32)), w299, rfl, N297, KK302, Aw299, Ln299, (own_finP Pf299 Lo299 (own_psE hEE huu (own_sgN hsg hc300)) hd301 huu (own_sgN hsg hc300))⟩
        refine Wk.ifNo X297 hx (hb hby d27_106) rfl ((if0 _ _).trans (feq hc300).1) ?_
        refine Wk.aloadN X297 hx (hb hby d27_109) rfl rfl rfl ?_
        refine Wk.iinc X297 hx (Ls' := #[.val (.int i255), .val (.int e_), .val (.ref va), .val (.int i255), .val (.int i256), .val (.int (((((((((((e_ + (-1 : Int32)) + (-1 : Int32)) + (-1 : Int32)) + (-1 : Int32)) + (-1 : Int32)) + (-1 : Int32)) + (-1 : Int32)) + (-1 : Int32)) + (-1 : Int32)) + (-1 : Int32)) + (-1 : Int32))), .val (.int sg_)]) (hb hby d27_110) rfl rfl rfl ?_
        refine Wk.iload X297 hx (hb hby d27_113) rfl rfl ?_
        refine Wk.bipush X297 hx (v := (45 : Int32)) (hb hby d27_115) rfl rfl ?_
        have hd303 : dl uu = 10 := dl_is (k := 9) (Or.inr (own_p1 (k := 8) hw290)) (own_q1 (k := 8) hw278) (by decide)
        have hs304 : EE = bs.length + 1 + dl uu := own_sgE hEE huu (own_sgY hsg hc300)
        have hk305 : 10 < EE := own_sgk hs304 hd303
        have hj306 := own_nxt (m := 10) hj296 hk305 hE3
        have hl306 := own_lin (m := 10) hj306 hk305
        refine Wk.bastore X297 hx hZ e297 Aw299 (own_nn hl306) (own_pos hl306 hE2 hk305 hcc) bs.length (own_sgi hl306 hs304 hd303) (own_sgl hs304 hE2 Ln299) (w := (45 : Int32)) rfl (hb hby d27_117) rfl ?_
        intro T307 h307 L307 M307 X307 e307 W307 A307
        have N307 := M307 _ _ N297 (Or.inl (List.mem_of_getElem? (i := 0) rfl))
        have O308 : Old Z Z.heap.size h307 := O298.wr W307 hva
        have V307 : Arv Z h307 va kv .byte cap (w299.set bs.length (.int (45 : Int32))) (.int (0 : Int32)) := A307
        obtain ⟨w309, Aw309, Lo309, Pf309, Ln309⟩ : ∃ w, Arv Z h307 va kv .byte cap w (.int (0 : Int32)) ∧ Low w EE uu 10 ∧ Pfx w (bs ++ [45]) ∧ w.length = cap.toNatClampNeg := ⟨_, V307, Low.away Lo299 (own_sga hs304 hd303), Pfx.snoc Pf299 (own_sgl hs304 hE2 Ln299), by rw [List.length_set]; exact Ln299⟩
        refine Wk.iload X307 hx (hb hby d27_118) rfl rfl ?_
        have KK310 : Keep h0 h307 [va] := (((((((((KK119.wr W124 (Or.inl (List.mem_of_getElem? (i := 0) rfl))).wr W133 (Or.inl (List.mem_of_getElem? (i := 0) rfl))).wr W194 (Or.inl (List.mem_of_getElem? (i := 0) rfl))).wr W203 (Or.inl (List.mem_of_getElem? (i := 0) rfl))).wr W264 (Or.inl (List.mem_of_getElem? (i := 0) rfl))).wr W273 (Or.inl (List.mem_of_getElem? (i := 0) rfl))).wr W286 (Or.inl (List.mem_of_getElem? (i := 0) rfl))).wr W297 (Or.inl (List.mem_of_getElem? (i := 0) rfl))).wr W307 (Or.inl (List.mem_of_getElem? (i := 0) rfl)))
        exact Wk.retI' X307 hx hlk hr (hb hby d27_120) (by decide) (by decide) (Qc := Q_rm_gch Z v_ e_ va kv cap vs bs da kd dt kt h0) e307 ⟨(((((((((((e_ + (-1 : Int32)) + (-1 : Int32)) + (-1 : Int32)) + (-1 : Int32)) + (-1 : Int32)) + (-1 : Int32)) + (-1 : Int32)) + (-1 : Int32)) + (-1 : Int32)) + (-1 : Int32)) + (-1 : Int32)), w309, rfl, N307, KK310, Aw309, Ln309, (own_finN Pf309 Lo309 hs304 hd303 huu (own_sgY hsg hc300))⟩
      refine Wk.icmpYes X286 hx (hb hby d27_88) (by decide) (q := 104) rfl (flt hc289).2.1 ?_
      refine Wk.iload X286 hx (hb hby d27_104) rfl rfl ?_
      by_cases hc311 : sg_ = (0 : Int32)
      · skip
        refine Wk.ifYes X286 hx (hb hby d27_106) (by decide) (q := 118) rfl ((if0 _ _).trans (teq hc311).1) ?_
        have hw312 : uu / 10 ^ 8 < 10 := own_c90 hx276 hc289
        have hd313 : dl uu = 9 := dl_is (k := 8) (Or.inr (own_p2 (k := 6) hw254)) hw312 (by decide)
        refine Wk.iload X286 hx (hb hby d27_118) rfl rfl ?_
        have KK314 : Keep h0 h286 [va] := (((((((KK119.wr W124 (Or.inl (List.mem_of_getElem? (i := 0) rfl))).wr W133 (Or.inl (List.mem_of_getElem? (i := 0) rfl))).wr W194 (Or.inl (List.mem_of_getElem? (i := 0) rfl))).wr W203 (Or.inl (List.mem_of_getElem? (i := 0) rfl))).wr W264 (Or.inl (List.mem_of_getElem? (i := 0) rfl))).wr W273 (Or.inl (List.mem_of_getElem? (i := 0) rfl))).wr W286 (Or.inl (List.mem_of_getElem? (i := 0) rfl)))
        exact Wk.retI' X286 hx hlk hr (hb hby d27_120) (by decide) (by decide) (Qc := Q_rm_gch Z v_ e_ va kv cap vs bs da kd dt kt h0) e286 ⟨(((((((((e_ + (-1 : Int32)) + (-1 : Int32)) + (-1 : Int32)) + (-1 : Int32)) + (-1 : Int32)) + (-1 : Int32)) + (-1 : Int32)) + (-1 : Int32)) + (-1 : Int32)), w288, rfl, N286, KK314, Aw288, Ln288, (own_finP Pf288 Lo288 (own_psE hEE huu (own_sgN hsg hc311)) hd313 huu (own_sgN hsg hc311))⟩
      refine Wk.ifNo X286 hx (hb hby d27_106) rfl ((if0 _ _).trans (feq hc311).1) ?_
      refine Wk.aloadN X286 hx (hb hby d27_109) rfl rfl rfl ?_
      refine Wk.iinc X286 hx (Ls' := #[.val (.int i255), .val (.int e_), .val (.ref va), .val (.int i255), .val (.int i256), .val (.int ((((((((((e_ + (-1 : Int32)) + (-1 : Int32)) + (-1 : Int32)) + (-1 : Int32)) + (-1 : Int32)) + (-1 : Int32)) + (-1 : Int32)) + (-1 : Int32)) + (-1 : Int32)) + (-1 : Int32))), .val (.int sg_)]) (hb hby d27_110) rfl rfl rfl ?_
      refine Wk.iload X286 hx (hb hby d27_113) rfl rfl ?_
      refine Wk.bipush X286 hx (v := (45 : Int32)) (hb hby d27_115) rfl rfl ?_
      have hw315 : uu / 10 ^ 8 < 10 := own_c90 hx276 hc289
      have hd316 : dl uu = 9 := dl_is (k := 8) (Or.inr (own_p2 (k := 6) hw254)) hw315 (by decide)
      have hs317 : EE = bs.length + 1 + dl uu := own_sgE hEE huu (own_sgY hsg hc311)
      have hk318 : 9 < EE := own_sgk hs317 hd316
      have hj319 := own_nxt (m := 9) hj285 hk318 hE3
      have hl319 := own_lin (m := 9) hj319 hk318
      refine Wk.bastore X286 hx hZ e286 Aw288 (own_nn hl319) (own_pos hl319 hE2 hk318 hcc) bs.length (own_sgi hl319 hs317 hd316) (own_sgl hs317 hE2 Ln288) (w := (45 : Int32)) rfl (hb hby d27_117) rfl ?_
      intro T320 h320 L320 M320 X320 e320 W320 A320
      have N320 := M320 _ _ N286 (Or.inl (List.mem_of_getElem? (i := 0) rfl))
      have O321 : Old Z Z.heap.size h320 := O287.wr W320 hva
      have V320 : Arv Z h320 va kv .byte cap (w288.set bs.length (.int (45 : Int32))) (.int (0 : Int32)) := A320
      obtain ⟨w322, Aw322, Lo322, Pf322, Ln322⟩ : ∃ w, Arv Z h320 va kv .byte cap w (.int (0 : Int32)) ∧ Low w EE uu 9 ∧ Pfx w (bs ++ [45]) ∧ w.length = cap.toNatClampNeg := ⟨_, V320, Low.away Lo288 (own_sga hs317 hd316), Pfx.snoc Pf288 (own_sgl hs317 hE2 Ln288), by rw [List.length_set]; exact Ln288⟩
      refine Wk.iload X320 hx (hb hby d27_118) rfl rfl ?_
      have KK323 : Keep h0 h320 [va] := ((((((((KK119.wr W124 (Or.inl (List.mem_of_getElem? (i := 0) rfl))).wr W133 (Or.inl (List.mem_of_getElem? (i := 0) rfl))).wr W194 (Or.inl (List.mem_of_getElem? (i := 0) rfl))).wr W203 (Or.inl (List.mem_of_getElem? (i := 0) rfl))).wr W264 (Or.inl (List.mem_of_getElem? (i := 0) rfl))).wr W273 (Or.inl (List.mem_of_getElem? (i := 0) rfl))).wr W286 (Or.inl (List.mem_of_getElem? (i := 0) rfl))).wr W320 (Or.inl (List.mem_of_getElem? (i := 0) rfl)))
      exact Wk.retI' X320 hx hlk hr (hb hby d27_120) (by decide) (by decide) (Qc := Q_rm_gch Z v_ e_ va kv cap vs bs da kd dt kt h0) e320 ⟨((((((((((e_ + (-1 : Int32)) + (-1 : Int32)) + (-1 : Int32)) + (-1 : Int32)) + (-1 : Int32)) + (-1 : Int32)) + (-1 : Int32)) + (-1 : Int32)) + (-1 : Int32)) + (-1 : Int32)), w322, rfl, N320, KK323, Aw322, Ln322, (own_finN Pf322 Lo322 hs317 hd316 huu (own_sgY hsg hc311))⟩
    refine Wk.icmpNo X273 hx (hb hby d27_25) rfl (flt hc277).2.2.1 ?_
    have hw324 : 100 ≤ uu / 10 ^ 8 := own_c28 hx276 hc277
    exact (own_no8 hw324 hu31).elim
  refine Wk.iloadN X0 hx (hb hby d27_0) rfl rfl ?_
  refine Wk.istore X0 hx (Ls' := #[.val (.int v_), .val (.int e_), .val (.ref va), .unset, .unset, .val (.int e_), .unset]) (hb hby d27_1) rfl rfl ?_
  refine Wk.iloadN X0 hx (hb hby d27_3) rfl rfl ?_
  by_cases hc325 : v_ < (0 : Int32)
  · skip
    refine Wk.ifNo X0 hx (hb hby d27_4) rfl ((if0 _ _).trans (tlt hc325).2.1) ?_
    refine Wk.iconst X0 hx (v := (1 : Int32)) (hb hby d27_7) rfl rfl ?_
    refine Wk.goto X0 hx (hb hby d27_8) (by decide) (q := 12) rfl ?_
    refine Wk.istore X0 hx (Ls' := #[.val (.int v_), .val (.int e_), .val (.ref va), .unset, .unset, .val (.int e_), .val (.int (1 : Int32))]) (hb hby d27_12) rfl rfl ?_
    refine Wk.iload X0 hx (hb hby d27_14) rfl rfl ?_
    refine Wk.ifYes X0 hx (hb hby d27_16) (by decide) (q := 22) rfl ((if0 _ _).trans (feq (by decide : ¬ ((1 : Int32) = (0 : Int32)))).2) ?_
    exact key _ _ (own_x0N huu hc325) (Or.inl ⟨hc325, by decide⟩)
  refine Wk.ifYes X0 hx (hb hby d27_4) (by decide) (q := 11) rfl ((if0 _ _).trans (flt hc325).2.1) ?_
  refine Wk.iconst X0 hx (v := (0 : Int32)) (hb hby d27_11) rfl rfl ?_
  refine Wk.istore X0 hx (Ls' := #[.val (.int v_), .val (.int e_), .val (.ref va), .unset, .unset, .val (.int e_), .val (.int (0 : Int32))]) (hb hby d27_12) rfl rfl ?_
  refine Wk.iload X0 hx (hb hby d27_14) rfl rfl ?_
  refine Wk.ifNo X0 hx (hb hby d27_16) rfl ((if0 _ _).trans (teq (by decide : (0 : Int32) = (0 : Int32))).2) ?_
  refine Wk.iloadN X0 hx (hb hby d27_19) rfl rfl ?_
  refine Wk.ineg X0 hx (hb hby d27_20) rfl ?_
  refine Wk.istoreNA X0 hx (Ls' := fun z => #[.val (.int z), .val (.int e_), .val (.ref va), .unset, .unset, .val (.int e_), .val (.int (0 : Int32))]) (hb hby d27_21) rfl (fun _ => rfl) ?_
  intro i326 hi326
  show Wp p e below _ _ s₁ (mkF m 22 #[.val (.int i326), .val (.int e_), .val (.ref va), .unset, .unset, .val (.int e_), .val (.int (0 : Int32))] [])
  exact key _ _ (own_x0P huu hc325 hi326) (Or.inr ⟨hc325, rfl⟩)
theorem d26_0 : decode jdk_68_method_68_code 0 = .ok (.getstatic 18, 3) := by decide +kernel
theorem d26_3 : decode jdk_68_method_68_code 3 = .ok (.ifCond .eq 14, 3) := by decide +kernel
theorem d26_6 : decode jdk_68_method_68_code 6 = .ok (.aload_n 0, 1) := by decide +kernel
theorem d26_7 : decode jdk_68_method_68_code 7 = .ok (.getfield 22, 3) := by decide +kernel
theorem d26_10 : decode jdk_68_method_68_code 10 = .ok (.ifCond .ne 7, 3) := by decide +kernel
theorem d26_13 : decode jdk_68_method_68_code 13 = .ok (.iconst 1, 1) := by decide +kernel
theorem d26_14 : decode jdk_68_method_68_code 14 = .ok (.goto 4, 3) := by decide +kernel
theorem d26_18 : decode jdk_68_method_68_code 18 = .ok (.ireturn, 1) := by decide +kernel
def Q_rm_ai (Z : State) (sb : Addr) (va : Addr) (kv : ClassId) (cap : Int32) (cnt : Int32) (vs : List Value) (G1 : Int32) (h0 : Heap) (v : Option Value) (h : Heap) (L : List Loc) : Prop := v = some (.int (1 : Int32)) ∧ Fk h0.size [] L ∧ h = h0
set_option maxRecDepth 65536 in
set_option maxHeartbeats 40000000 in
theorem rm_ai (l : Launch) (Z : State) (a0 : Array Value) (hw : ∀ d ∈ tables_1, d.before a0 Z = true) (ws : List Jvm.Cond) (sb : Addr) (va : Addr) (kv : ClassId) (cap : Int32) (cnt : Int32) (vs : List Value) (G1 : Int32) (h0 : Heap) (O0 : Old Z Z.heap.size h0) (SG1 : Sta Z Z.heap "java/lang/String" "COMPACT_STRINGS" "Z" (.int G1)) (nG1 : ¬ G1 = 0) (pb0_ : Exa Z h0 sb "java/lang/StringBuilder") (pb1_ : Fld Z h0 sb "java/lang/AbstractStringBuilder" "value" "[B" (.ref va)) (pb2_ : Fld Z h0 sb "java/lang/AbstractStringBuilder" "coder" "B" (.int (0 : Int32))) (pb3_ : Fld Z h0 sb "java/lang/AbstractStringBuilder" "count" "I" (.int cnt)) (pb4_ : Exa Z h0 va "[B") (pb5_ : Arv Z h0 va kv .byte cap vs (.int (0 : Int32))) :
    Ctr l Z (⟨"java/lang/AbstractStringBuilder", "isLatin1", "()Z"⟩ : MethodName) jdk_68_method_68_code 1 (some .boolean) ws ({ frames := 0, cells := 0, slots := 0, locals := 0 } : Room) #[(.ref sb)] h0 (Q_rm_ai Z sb va kv cap cnt vs G1 h0) := by
  refine Ctr.intro (Ls := fun _ => #[.val (.ref sb)]) (plainFor_of_name pn2) (fun m => by first | rfl | (simp [entryFrame, mkF, argsToLocals, Value.category]; done)) ?_
  intro p e s m below meth c s₁ hx hby hml hr hlk hZ hown hnm hs0 X0 e0
  have w : ∀ (k : Nat) (d : Jvm.Cond), tables_1[k]? = some d → d.before a0 Z = true := fun k d q => hw d (List.mem_of_getElem? q)
  have N0 := Fk.nil h0.size []
  refine Wk.getstatic X0 hx hZ hown (host := "") (Or.inl (w 87 _ rfl)) Via.refl e0 (SG1.ext O0.2) (hb hby d26_0) rfl ?_
  intro T1 X1 e1
  refine Wk.ifNo X1 hx (hb hby d26_3) rfl ((if0 _ _).trans (feq nG1).1) ?_
  refine Wk.aloadN X1 hx (hb hby d26_6) rfl rfl rfl ?_
  refine Wk.getfield X1 hx hZ hown (host := "") (Or.inl (w 90 _ rfl)) Via.refl e1 pb2_ (hb hby d26_7) rfl ?_
  intro T2 X2 e2
  refine Wk.ifNo X2 hx (hb hby d26_10) rfl ((if0 _ _).trans (teq (by decide : (0 : Int32) = (0 : Int32))).2) ?_
  refine Wk.iconst X2 hx (v := (1 : Int32)) (hb hby d26_13) rfl rfl ?_
  refine Wk.goto X2 hx (hb hby d26_14) (by decide) (q := 18) rfl ?_
  exact Wk.retZ' X2 hx hlk hr (by simp) (hb hby d26_18) (by decide) (by decide) (Qc := Q_rm_ai Z sb va kv cap cnt vs G1 h0) e2 ⟨rfl, N0, rfl⟩
theorem d24_0 : decode jdk_68_method_32_code 0 = .ok (.aload_n 0, 1) := by decide +kernel
theorem d24_1 : decode jdk_68_method_32_code 1 = .ok (.getfield 79, 3) := by decide +kernel
theorem d24_4 : decode jdk_68_method_32_code 4 = .ok (.istore_n 2, 1) := by decide +kernel
theorem d24_5 : decode jdk_68_method_32_code 5 = .ok (.iload_n 2, 1) := by decide +kernel
theorem d24_6 : decode jdk_68_method_32_code 6 = .ok (.iload_n 1, 1) := by decide +kernel
theorem d24_7 : decode jdk_68_method_32_code 7 = .ok (.invokestatic 245, 3) := by decide +kernel
theorem d24_10 : decode jdk_68_method_32_code 10 = .ok (.iadd, 1) := by decide +kernel
theorem d24_11 : decode jdk_68_method_32_code 11 = .ok (.istore_n 3, 1) := by decide +kernel
theorem d24_12 : decode jdk_68_method_32_code 12 = .ok (.aload_n 0, 1) := by decide +kernel
theorem d24_13 : decode jdk_68_method_32_code 13 = .ok (.iload_n 3, 1) := by decide +kernel
theorem d24_14 : decode jdk_68_method_32_code 14 = .ok (.invokevirtual 100, 3) := by decide +kernel
theorem d24_17 : decode jdk_68_method_32_code 17 = .ok (.aload_n 0, 1) := by decide +kernel
theorem d24_18 : decode jdk_68_method_32_code 18 = .ok (.invokevirtual 83, 3) := by decide +kernel
theorem pd19 : parseMethodDescriptor "()Z" = some ⟨[], some .boolean⟩ := by decide +kernel
theorem d24_21 : decode jdk_68_method_32_code 21 = .ok (.ifCond .eq 16, 3) := by decide +kernel
theorem d24_24 : decode jdk_68_method_32_code 24 = .ok (.iload_n 1, 1) := by decide +kernel
theorem d24_25 : decode jdk_68_method_32_code 25 = .ok (.iload_n 3, 1) := by decide +kernel
theorem d24_26 : decode jdk_68_method_32_code 26 = .ok (.aload_n 0, 1) := by decide +kernel
theorem d24_27 : decode jdk_68_method_32_code 27 = .ok (.getfield 15, 3) := by decide +kernel
theorem d24_30 : decode jdk_68_method_32_code 30 = .ok (.invokestatic 248, 3) := by decide +kernel
theorem pd20 : parseMethodDescriptor "(II[B)I" = some ⟨[.int, .int, (.array .byte)], some .int⟩ := by decide +kernel
theorem d24_33 : decode jdk_68_method_32_code 33 = .ok (.pop, 1) := by decide +kernel
theorem d24_34 : decode jdk_68_method_32_code 34 = .ok (.goto 14, 3) := by decide +kernel
theorem d24_48 : decode jdk_68_method_32_code 48 = .ok (.aload_n 0, 1) := by decide +kernel
theorem d24_49 : decode jdk_68_method_32_code 49 = .ok (.iload_n 3, 1) := by decide +kernel
theorem d24_50 : decode jdk_68_method_32_code 50 = .ok (.putfield 79, 3) := by decide +kernel
theorem d24_53 : decode jdk_68_method_32_code 53 = .ok (.aload_n 0, 1) := by decide +kernel
theorem d24_54 : decode jdk_68_method_32_code 54 = .ok (.areturn, 1) := by decide +kernel
def Q_rm_asiA (Z : State) (sb : Addr) (va : Addr) (kv : ClassId) (cap : Int32) (cnt : Int32) (vs : List Value) (v_ : Int32) (bs : List Int32) (da : Addr) (kd : ClassId) (dt : Addr) (kt : ClassId) (G1 : Int32) (h0 : Heap) (v : Option Value) (h : Heap) (L : List Loc) : Prop := ∃ cq : Int32, ∃ vw : List Value, v = some (.ref sb) ∧ Fk h0.size [sb, va] L ∧ Keep h0 h [sb, va] ∧ Exa Z h sb "java/lang/StringBuilder" ∧ Fld Z h sb "java/lang/AbstractStringBuilder" "value" "[B" (.ref va) ∧ Fld Z h sb "java/lang/AbstractStringBuilder" "coder" "B" (.int (0 : Int32)) ∧ Fld Z h sb "java/lang/AbstractStringBuilder" "count" "I" (.int cq) ∧ Exa Z h va "[B" ∧ Arv Z h va kv .byte cap vw (.int (0 : Int32)) ∧ Buf vw cq cap (bs ++ db v_)
set_option maxRecDepth 65536 in
set_option maxHeartbeats 40000000 in
theorem rm_asiA (l : Launch) (Z : State) (a0 : Array Value) (hw : ∀ d ∈ tables_1, d.before a0 Z = true) (ws : List Jvm.Cond) (sb : Addr) (va : Addr) (kv : ClassId) (cap : Int32) (cnt : Int32) (vs : List Value) (v_ : Int32) (bs : List Int32) (da : Addr) (kd : ClassId) (dt : Addr) (kt : ClassId) (G1 : Int32) (h0 : Heap) (O0 : Old Z Z.heap.size h0) (SG1 : Sta Z Z.heap "java/lang/String" "COMPACT_STRINGS" "Z" (.int G1)) (nG1 : ¬ G1 = 0) (pb0_ : Exa Z h0 sb "java/lang/StringBuilder") (pb1_ : Fld Z h0 sb "java/lang/AbstractStringBuilder" "value" "[B" (.ref va)) (pb2_ : Fld Z h0 sb "java/lang/AbstractStringBuilder" "coder" "B" (.int (0 : Int32))) (pb3_ : Fld Z h0 sb "java/lang/AbstractStringBuilder" "count" "I" (.int cnt)) (pb4_ : Exa Z h0 va "[B") (pb5_ : Arv Z h0 va kv .byte cap vs (.int (0 : Int32))) (sO : Sta Z Z.heap "java/lang/Integer" "DigitOnes" "[B" (.ref da)) (pO : Arv Z h0 da kd .byte (100 : Int32) ones (.int (0 : Int32))) (sN : Sta Z Z.heap "java/lang/Integer" "DigitTens" "[B" (.ref dt)) (pN : Arv Z h0 dt kt .byte (100 : Int32) tens (.int (0 : Int32))) (nO : da ≠ va) (nN : dt ≠ va) (hB : Buf vs cnt cap bs) (hfit : bs.length + (db v_).length ≤ cap.toNatClampNeg) (hva : Z.heap.size ≤ va) (hsb : Z.heap.size ≤ sb) :
    Ctr l Z (⟨"java/lang/AbstractStringBuilder", "append", "(I)Ljava/lang/AbstractStringBuilder;"⟩ : MethodName) jdk_68_method_32_code 4 (some (.object "java/lang/AbstractStringBuilder")) ws ({ frames := 1, cells := 0, slots := 0, locals := 18 } : Room) #[(.ref sb), (.int v_)] h0 (Q_rm_asiA Z sb va kv cap cnt vs v_ bs da kd dt kt G1 h0) := by
  refine Ctr.intro (Ls := fun _ => #[.val (.ref sb), .val (.int v_), .unset, .unset]) (plainFor_of_name pn2) (fun m => by first | rfl | (simp [entryFrame, mkF, argsToLocals, Value.category]; done)) ?_
  intro p e s m below meth c s₁ hx hby hml hr hlk hZ hown hnm hs0 X0 e0
  have w : ∀ (k : Nat) (d : Jvm.Cond), tables_1[k]? = some d → d.before a0 Z = true := fun k d q => hw d (List.mem_of_getElem? q)
  have N0 := Fk.nil h0.size [sb, va]
  refine Wk.aloadN X0 hx (hb hby d24_0) rfl rfl rfl ?_
  refine Wk.getfield X0 hx hZ hown (host := "") (Or.inl (w 112 _ rfl)) Via.refl e0 pb3_ (hb hby d24_1) rfl ?_
  intro T1 X1 e1
  refine Wk.istoreN X1 hx (Ls' := #[.val (.ref sb), .val (.int v_), .val (.int cnt), .unset]) (hb hby d24_4) rfl rfl ?_
  refine Wk.iloadN X1 hx (hb hby d24_5) rfl rfl ?_
  refine Wk.iloadN X1 hx (hb hby d24_6) rfl rfl ?_
  refine Wk.callS X1 hx hZ hown (w 149 _ rfl) (w 150 _ rfl) (w 151 _ rfl) (w 152 _ rfl) (by decide) (as' := [(.int v_)]) (backOf (W := 1) (rm_ssz l Z a0 hw [] v_ h0 O0) hZ (w 152 _ rfl) (w 151 _ rfl) (by decide) (by decide)) e1 (by rw [hml]; rfl) (rest := [(.int cnt)]) (lenOf pd11 rfl) rfl (Nat.le_of_eq rfl) (hb hby d24_7) rfl (by decide) (by decide) ?_
  intro T2 h2 v2 L2 X2 e2 hQ2
  obtain ⟨r2, rfl, Nq2, K2, q2_0⟩ := hQ2
  have N2 := Fk.app N0 Nq2 (Nat.le_refl _) all0
  rw [K2] at e2
  show Wp p e below _ _ T2 (mkF m 10 #[.val (.ref sb), .val (.int v_), .val (.int cnt), .unset] [(.int r2), (.int cnt)])
  refine Wk.iadd X2 hx (hb hby d24_10) rfl ?_
  refine Wk.istoreNA X2 hx (Ls' := fun z => #[.val (.ref sb), .val (.int v_), .val (.int cnt), .val (.int z)]) (hb hby d24_11) rfl (fun _ => rfl) ?_
  intro i3 hi3
  show Wp p e below _ _ T2 (mkF m 12 #[.val (.ref sb), .val (.int v_), .val (.int cnt), .val (.int i3)] [])
  refine Wk.aloadN X2 hx (hb hby d24_12) rfl rfl rfl ?_
  refine Wk.iloadN X2 hx (hb hby d24_13) rfl rfl ?_
  refine Wk.callV X2 hx hZ (y := (⟨"java/lang/AbstractStringBuilder", "ensureCapacityInternal", "(I)V"⟩ : MethodName)) (z := (⟨"java/lang/AbstractStringBuilder", "ensureCapacityInternal", "(I)V"⟩ : MethodName)) hown (w 114 _ rfl) (declOf (w 115 _ rfl) (w 118 _ rfl)) (notFace_of_selects (args := #[]) (mvT hZ (w 117 _ rfl))) (w 117 _ rfl) (w 115 _ rfl) (by decide) (as' := [(.int i3)]) (backOf (W := 0) (rm_ensA l Z a0 hw [] sb va kv cap cnt vs i3 h0 O0 pb0_ pb1_ pb2_ pb3_ pb4_ pb5_ (own_noGi hB q2_0 hi3 hfit)) hZ (w 118 _ rfl) (w 84 _ rfl) (by decide) (by decide)) e2 pb0_ (by rw [hml]; rfl) (rest := []) (lenOf pd4 rfl) rfl (Nat.le_of_eq rfl) (hb hby d24_14) rfl (by decide) (by decide) ?_
  intro T4 h4 v4 L4 X4 e4 hQ4
  obtain ⟨rfl, Nq4, K4⟩ := hQ4
  have N4 := Fk.app N2 Nq4 (Nat.le_refl _) all0
  rw [K4] at e4
  show Wp p e below _ _ T4 (mkF m 17 #[.val (.ref sb), .val (.int v_), .val (.int cnt), .val (.int i3)] [])
  refine Wk.aloadN X4 hx (hb hby d24_17) rfl rfl rfl ?_
  refine Wk.callV X4 hx hZ (y := (⟨"java/lang/AbstractStringBuilder", "isLatin1", "()Z"⟩ : MethodName)) (z := (⟨"java/lang/AbstractStringBuilder", "isLatin1", "()Z"⟩ : MethodName)) hown (w 153 _ rfl) (w 154 _ rfl) (notFace_of_selects (args := #[]) (mvT hZ (w 156 _ rfl))) (w 156 _ rfl) (w 155 _ rfl) (by decide) (as' := []) (backOf (W := 0) (rm_ai l Z a0 hw [] sb va kv cap cnt vs G1 h0 O0 SG1 nG1 pb0_ pb1_ pb2_ pb3_ pb4_ pb5_) hZ (w 157 _ rfl) (w 84 _ rfl) (by decide) (by decide)) e4 pb0_ (by rw [hml]; rfl) (rest := []) (lenOf pd19 rfl) rfl (Nat.le_of_eq rfl) (hb hby d24_18) rfl (by decide) (by decide) ?_
  intro T5 h5 v5 L5 X5 e5 hQ5
  obtain ⟨rfl, Nq5, K5⟩ := hQ5
  have N5 := Fk.app N4 Nq5 (Nat.le_refl _) all0
  rw [K5] at e5
  show Wp p e below _ _ T5 (mkF m 21 #[.val (.ref sb), .val (.int v_), .val (.int cnt), .val (.int i3)] [(.int (1 : Int32))])
  refine Wk.ifNo X5 hx (hb hby d24_21) rfl ((if0 _ _).trans (feq (by decide : ¬ ((1 : Int32) = (0 : Int32)))).1) ?_
  refine Wk.iloadN X5 hx (hb hby d24_24) rfl rfl ?_
  refine Wk.iloadN X5 hx (hb hby d24_25) rfl rfl ?_
  refine Wk.aloadN X5 hx (hb hby d24_26) rfl rfl rfl ?_
  refine Wk.getfield X5 hx hZ hown (host := "") (Or.inl (w 88 _ rfl)) Via.refl e5 pb1_ (hb hby d24_27) rfl ?_
  intro T6 X6 e6
  refine Wk.callS X6 hx hZ hown (w 158 _ rfl) (w 159 _ rfl) (w 151 _ rfl) (w 160 _ rfl) (by decide) (as' := [(.int v_), (.int i3), (.ref va)]) (backOf (W := 0) (rm_gch l Z a0 hw [] v_ i3 va kv cap vs bs da kd dt kt h0 O0 sO pO sN pN nO nN pb5_ (own_sumi hB q2_0 hi3) hfit hB.2.1 hB.2.2.2.2 hB.2.2.2.1 hva) hZ (w 160 _ rfl) (w 151 _ rfl) (by decide) (by decide)) e6 (by rw [hml]; rfl) (rest := []) (lenOf pd20 rfl) rfl (Nat.le_of_eq rfl) (hb hby d24_30) rfl (by decide) (by decide) ?_
  intro T7 h7 v7 L7 X7 e7 hQ7
  obtain ⟨r7, vw7, rfl, Nq7, K7, q7_0, q7_1, q7_2⟩ := hQ7
  have N7 := Fk.app N5 Nq7 (Nat.le_refl _) (allS (Or.inl (List.mem_of_getElem? (i := 1) rfl)) all0)
  have O8 : Old Z Z.heap.size h7 := O0.keep K7 (allS hva all0)
  show Wp p e below _ _ T7 (mkF m 33 #[.val (.ref sb), .val (.int v_), .val (.int cnt), .val (.int i3)] [(.int r7)])
  refine Wk.pop X7 hx (hb hby d24_33) rfl rfl ?_
  refine Wk.goto X7 hx (hb hby d24_34) (by decide) (q := 48) rfl ?_
  refine Wk.aloadN X7 hx (hb hby d24_48) rfl rfl rfl ?_
  refine Wk.iloadN X7 hx (hb hby d24_49) rfl rfl ?_
  have KK9 : Keep h0 h7 [va] := ((Keep.refl h0 [va]).trans K7 (allS (Or.inl (List.mem_of_getElem? (i := 0) rfl)) all0))
  have f10 : Exa Z h7 sb "java/lang/StringBuilder" := (pb0_.keep KK9)
  have f11 : Exa Z h7 va "[B" := (pb4_.keep KK9)
  have f12 : Fld Z h7 sb "java/lang/AbstractStringBuilder" "count" "I" (.int cnt) := (pb3_.keep KK9 (ninS (Exa.ne f10 f11 (by decide)) nin0))
  have f14 : Fld Z h7 sb "java/lang/AbstractStringBuilder" "value" "[B" (.ref va) := (pb1_.keep KK9 (ninS (Exa.ne f10 f11 (by decide)) nin0))
  have f15 : Fld Z h7 sb "java/lang/AbstractStringBuilder" "coder" "B" (.int (0 : Int32)) := (pb2_.keep KK9 (ninS (Exa.ne f10 f11 (by decide)) nin0))
  refine Wk.putfield X7 hx hZ hown (host := "") (Or.inl (w 112 _ rfl)) Via.refl e7 f12 f10 (Or.inl (w 113 _ rfl)) (w 75 _ rfl) (ty := .int) (by decide) rfl rfl (hb hby d24_50) rfl ?_
  intro T13 h13 L13 M13 X13 e13 W13 Fw13
  have N13 := M13 _ _ N7 (Or.inl (List.mem_of_getElem? (i := 0) rfl))
  have O16 : Old Z Z.heap.size h13 := O8.wr W13 hsb
  have f17 : Fld Z h13 sb "java/lang/AbstractStringBuilder" "value" "[B" (.ref va) := f14.other W13 (Or.inr (slot_ne (Or.inl (w 89 _ rfl)) (Or.inl (w 113 _ rfl)) (by decide) (t := (.array .byte)) (t' := .int) (by decide) (by decide)))
  have f18 : Fld Z h13 sb "java/lang/AbstractStringBuilder" "coder" "B" (.int (0 : Int32)) := f15.other W13 (Or.inr (slot_ne (Or.inl (w 91 _ rfl)) (Or.inl (w 113 _ rfl)) (by decide) (t := .byte) (t' := .int) (by decide) (by decide)))
  have E13' : Exa Z h13 sb "java/lang/StringBuilder" := f10.wr W13
  refine Wk.aloadN X13 hx (hb hby d24_53) rfl rfl rfl ?_
  have KK19 : Keep h0 h13 [va, sb] := (((Keep.refl h0 [va, sb]).trans K7 (allS (Or.inl (List.mem_of_getElem? (i := 0) rfl)) all0)).wr W13 (Or.inl (List.mem_of_getElem? (i := 1) rfl)))
  have KK20 : Keep h7 h13 [sb] := ((Keep.refl h7 [sb]).wr W13 (Or.inl (List.mem_of_getElem? (i := 0) rfl)))
  have f21 : Exa Z h13 va "[B" := (f11.keep KK20)
  have f22 := (q7_0.keep KK20 (ninS (Exa.ne f21 E13' (by decide)) nin0))
  exact Wk.retA' X13 hx hlk hr rfl rfl (hb hby d24_54) (by decide) (by decide) (Qc := Q_rm_asiA Z sb va kv cap cnt vs v_ bs da kd dt kt G1 h0) e13 ⟨i3, vw7, rfl, N13, (keepMore KK19 (by simp)), E13', f17, f18, Fw13, f21, f22, (Buf.int (own_sumi hB q2_0 hi3) q7_1 hfit hB.2.2.2.1 q7_2)⟩
theorem d23_0 : decode jdk_67_method_15_code 0 = .ok (.aload_n 0, 1) := by decide +kernel
theorem d23_1 : decode jdk_67_method_15_code 1 = .ok (.iload_n 1, 1) := by decide +kernel
theorem d23_2 : decode jdk_67_method_15_code 2 = .ok (.invokespecial 53, 3) := by decide +kernel
theorem pd21 : parseMethodDescriptor "(I)Ljava/lang/AbstractStringBuilder;" = some ⟨[.int], some (.object "java/lang/AbstractStringBuilder")⟩ := by decide +kernel
theorem d23_5 : decode jdk_67_method_15_code 5 = .ok (.pop, 1) := by decide +kernel
theorem d23_6 : decode jdk_67_method_15_code 6 = .ok (.aload_n 0, 1) := by decide +kernel
theorem d23_7 : decode jdk_67_method_15_code 7 = .ok (.areturn, 1) := by decide +kernel
def Q_rm_sbiA (Z : State) (sb : Addr) (va : Addr) (kv : ClassId) (cap : Int32) (cnt : Int32) (vs : List Value) (v_ : Int32) (bs : List Int32) (da : Addr) (kd : ClassId) (dt : Addr) (kt : ClassId) (G1 : Int32) (h0 : Heap) (v : Option Value) (h : Heap) (L : List Loc) : Prop := ∃ cq : Int32, ∃ vw : List Value, v = some (.ref sb) ∧ Fk h0.size [sb, va] L ∧ Keep h0 h [sb, va] ∧ Exa Z h sb "java/lang/StringBuilder" ∧ Fld Z h sb "java/lang/AbstractStringBuilder" "value" "[B" (.ref va) ∧ Fld Z h sb "java/lang/AbstractStringBuilder" "coder" "B" (.int (0 : Int32)) ∧ Fld Z h sb "java/lang/AbstractStringBuilder" "count" "I" (.int cq) ∧ Exa Z h va "[B" ∧ Arv Z h va kv .byte cap vw (.int (0 : Int32)) ∧ Buf vw cq cap (bs ++ db v_)
set_option maxRecDepth 65536 in
set_option maxHeartbeats 40000000 in
theorem rm_sbiA (l : Launch) (Z : State) (a0 : Array Value) (hw : ∀ d ∈ tables_1, d.before a0 Z = true) (ws : List Jvm.Cond) (sb : Addr) (va : Addr) (kv : ClassId) (cap : Int32) (cnt : Int32) (vs : List Value) (v_ : Int32) (bs : List Int32) (da : Addr) (kd : ClassId) (dt : Addr) (kt : ClassId) (G1 : Int32) (h0 : Heap) (O0 : Old Z Z.heap.size h0) (SG1 : Sta Z Z.heap "java/lang/String" "COMPACT_STRINGS" "Z" (.int G1)) (nG1 : ¬ G1 = 0) (pb0_ : Exa Z h0 sb "java/lang/StringBuilder") (pb1_ : Fld Z h0 sb "java/lang/AbstractStringBuilder" "value" "[B" (.ref va)) (pb2_ : Fld Z h0 sb "java/lang/AbstractStringBuilder" "coder" "B" (.int (0 : Int32))) (pb3_ : Fld Z h0 sb "java/lang/AbstractStringBuilder" "count" "I" (.int cnt)) (pb4_ : Exa Z h0 va "[B") (pb5_ : Arv Z h0 va kv .byte cap vs (.int (0 : Int32))) (sO : Sta Z Z.heap "java/lang/Integer" "DigitOnes" "[B" (.ref da)) (pO : Arv Z h0 da kd .byte (100 : Int32) ones (.int (0 : Int32))) (sN : Sta Z Z.heap "java/lang/Integer" "DigitTens" "[B" (.ref dt)) (pN : Arv Z h0 dt kt .byte (100 : Int32) tens (.int (0 : Int32))) (nO : da ≠ va) (nN : dt ≠ va) (hB : Buf vs cnt cap bs) (hfit : bs.length + (db v_).length ≤ cap.toNatClampNeg) (hva : Z.heap.size ≤ va) (hsb : Z.heap.size ≤ sb) :
    Ctr l Z (⟨"java/lang/StringBuilder", "append", "(I)Ljava/lang/StringBuilder;"⟩ : MethodName) jdk_67_method_15_code 2 (some (.object "java/lang/StringBuilder")) ws ({ frames := 2, cells := 0, slots := 0, locals := 33 } : Room) #[(.ref sb), (.int v_)] h0 (Q_rm_sbiA Z sb va kv cap cnt vs v_ bs da kd dt kt G1 h0) := by
  refine Ctr.intro (Ls := fun _ => #[.val (.ref sb), .val (.int v_)]) (plainFor_of_name pn3) (fun m => by first | rfl | (simp [entryFrame, mkF, argsToLocals, Value.category]; done)) ?_
  intro p e s m below meth c s₁ hx hby hml hr hlk hZ hown hnm hs0 X0 e0
  have w : ∀ (k : Nat) (d : Jvm.Cond), tables_1[k]? = some d → d.before a0 Z = true := fun k d q => hw d (List.mem_of_getElem? q)
  have N0 := Fk.nil h0.size [sb, va]
  refine Wk.aloadN X0 hx (hb hby d23_0) rfl rfl rfl ?_
  refine Wk.iloadN X0 hx (hb hby d23_1) rfl rfl ?_
  refine Wk.callU X0 hx hZ hown (w 145 _ rfl) (sameSelf (y := (⟨"java/lang/AbstractStringBuilder", "append", "(I)Ljava/lang/AbstractStringBuilder;"⟩ : MethodName)) (w 117 _ rfl) rfl (w 146 _ rfl) (by decide)) (w 146 _ rfl) (w 99 _ rfl) (w 148 _ rfl) (by decide) (as' := [(.int v_)]) (backOf (W := 0) (rm_asiA l Z a0 hw [] sb va kv cap cnt vs v_ bs da kd dt kt G1 h0 O0 SG1 nG1 pb0_ pb1_ pb2_ pb3_ pb4_ pb5_ sO pO sN pN nO nN hB hfit hva hsb) hZ (w 148 _ rfl) (w 84 _ rfl) (by decide) (by decide)) e0 pb0_ (by rw [hml]; rfl) (rest := []) (lenOf pd21 rfl) rfl (Nat.le_of_eq rfl) (hb hby d23_2) rfl (by decide) (by decide) ?_
  intro T1 h1 v1 L1 X1 e1 hQ1
  obtain ⟨cq1, vw1, rfl, Nq1, K1, q1_0, q1_1, q1_2, q1_3, q1_4, q1_5, q1_6⟩ := hQ1
  have N1 := Fk.app N0 Nq1 (Nat.le_refl _) (allS (Or.inl (List.mem_of_getElem? (i := 0) rfl)) (allS (Or.inl (List.mem_of_getElem? (i := 1) rfl)) all0))
  have O2 : Old Z Z.heap.size h1 := O0.keep K1 (allS hsb (allS hva all0))
  show Wp p e below _ _ T1 (mkF m 5 #[.val (.ref sb), .val (.int v_)] [(.ref sb)])
  refine Wk.pop X1 hx (hb hby d23_5) rfl rfl ?_
  refine Wk.aloadN X1 hx (hb hby d23_6) rfl rfl rfl ?_
  have KK3 : Keep h0 h1 [sb, va] := ((Keep.refl h0 [sb, va]).trans K1 (allS (Or.inl (List.mem_of_getElem? (i := 0) rfl)) (allS (Or.inl (List.mem_of_getElem? (i := 1) rfl)) all0)))
  exact Wk.retA' X1 hx hlk hr rfl rfl (hb hby d23_7) (by decide) (by decide) (Qc := Q_rm_sbiA Z sb va kv cap cnt vs v_ bs da kd dt kt G1 h0) e1 ⟨cq1, vw1, rfl, N1, KK3, q1_0, q1_1, q1_2, q1_3, q1_4, q1_5, q1_6⟩
def Q_rm_asiB (Z : State) (sb : Addr) (va : Addr) (kv : ClassId) (cnt : Int32) (vs : List Value) (v_ : Int32) (bs : List Int32) (da : Addr) (kd : ClassId) (dt : Addr) (kt : ClassId) (G1 : Int32) (h0 : Heap) (v : Option Value) (h : Heap) (L : List Loc) : Prop := ∃ vb : Addr, ∃ kw : ClassId, ∃ cq : Int32, ∃ vw : List Value, v = some (.ref sb) ∧ Fk h0.size [sb] L ∧ Keep h0 h [sb] ∧ h0.size ≤ vb ∧ Exa Z h sb "java/lang/StringBuilder" ∧ Fld Z h sb "java/lang/AbstractStringBuilder" "value" "[B" (.ref vb) ∧ Fld Z h sb "java/lang/AbstractStringBuilder" "coder" "B" (.int (0 : Int32)) ∧ Fld Z h sb "java/lang/AbstractStringBuilder" "count" "I" (.int cq) ∧ Exa Z h vb "[B" ∧ Arv Z h vb kw .byte (34 : Int32) vw (.int (0 : Int32)) ∧ Buf vw cq (34 : Int32) (bs ++ db v_)
set_option maxRecDepth 65536 in
set_option maxHeartbeats 40000000 in
theorem rm_asiB (l : Launch) (Z : State) (a0 : Array Value) (hw : ∀ d ∈ tables_1, d.before a0 Z = true) (ws : List Jvm.Cond) (sb : Addr) (va : Addr) (kv : ClassId) (cnt : Int32) (vs : List Value) (v_ : Int32) (bs : List Int32) (da : Addr) (kd : ClassId) (dt : Addr) (kt : ClassId) (G1 : Int32) (h0 : Heap) (O0 : Old Z Z.heap.size h0) (SG1 : Sta Z Z.heap "java/lang/String" "COMPACT_STRINGS" "Z" (.int G1)) (nG1 : ¬ G1 = 0) (pb0_ : Exa Z h0 sb "java/lang/StringBuilder") (pb1_ : Fld Z h0 sb "java/lang/AbstractStringBuilder" "value" "[B" (.ref va)) (pb2_ : Fld Z h0 sb "java/lang/AbstractStringBuilder" "coder" "B" (.int (0 : Int32))) (pb3_ : Fld Z h0 sb "java/lang/AbstractStringBuilder" "count" "I" (.int cnt)) (pb4_ : Exa Z h0 va "[B") (pb5_ : Arv Z h0 va kv .byte (16 : Int32) vs (.int (0 : Int32))) (sO : Sta Z Z.heap "java/lang/Integer" "DigitOnes" "[B" (.ref da)) (pO : Arv Z h0 da kd .byte (100 : Int32) ones (.int (0 : Int32))) (sN : Sta Z Z.heap "java/lang/Integer" "DigitTens" "[B" (.ref dt)) (pN : Arv Z h0 dt kt .byte (100 : Int32) tens (.int (0 : Int32))) (hB : Buf vs cnt (16 : Int32) bs) (hbig : 16 < bs.length + (db v_).length) (hfit : bs.length + (db v_).length ≤ 34) (hsb : Z.heap.size ≤ sb) :
    Ctr l Z (⟨"java/lang/AbstractStringBuilder", "append", "(I)Ljava/lang/AbstractStringBuilder;"⟩ : MethodName) jdk_68_method_32_code 4 (some (.object "java/lang/AbstractStringBuilder")) ws ({ frames := 4, cells := 1, slots := 34, locals := 62 } : Room) #[(.ref sb), (.int v_)] h0 (Q_rm_asiB Z sb va kv cnt vs v_ bs da kd dt kt G1 h0) := by
  refine Ctr.intro (Ls := fun _ => #[.val (.ref sb), .val (.int v_), .unset, .unset]) (plainFor_of_name pn2) (fun m => by first | rfl | (simp [entryFrame, mkF, argsToLocals, Value.category]; done)) ?_
  intro p e s m below meth c s₁ hx hby hml hr hlk hZ hown hnm hs0 X0 e0
  have w : ∀ (k : Nat) (d : Jvm.Cond), tables_1[k]? = some d → d.before a0 Z = true := fun k d q => hw d (List.mem_of_getElem? q)
  have N0 := Fk.nil h0.size [sb]
  refine Wk.aloadN X0 hx (hb hby d24_0) rfl rfl rfl ?_
  refine Wk.getfield X0 hx hZ hown (host := "") (Or.inl (w 112 _ rfl)) Via.refl e0 pb3_ (hb hby d24_1) rfl ?_
  intro T1 X1 e1
  refine Wk.istoreN X1 hx (Ls' := #[.val (.ref sb), .val (.int v_), .val (.int cnt), .unset]) (hb hby d24_4) rfl rfl ?_
  refine Wk.iloadN X1 hx (hb hby d24_5) rfl rfl ?_
  refine Wk.iloadN X1 hx (hb hby d24_6) rfl rfl ?_
  refine Wk.callS X1 hx hZ hown (w 149 _ rfl) (w 150 _ rfl) (w 151 _ rfl) (w 152 _ rfl) (by decide) (as' := [(.int v_)]) (backOf (W := 1) (rm_ssz l Z a0 hw [] v_ h0 O0) hZ (w 152 _ rfl) (w 151 _ rfl) (by decide) (by decide)) e1 (by rw [hml]; rfl) (rest := [(.int cnt)]) (lenOf pd11 rfl) rfl (Nat.le_of_eq rfl) (hb hby d24_7) rfl (by decide) (by decide) ?_
  intro T2 h2 v2 L2 X2 e2 hQ2
  obtain ⟨r2, rfl, Nq2, K2, q2_0⟩ := hQ2
  have N2 := Fk.app N0 Nq2 (Nat.le_refl _) all0
  rw [K2] at e2
  show Wp p e below _ _ T2 (mkF m 10 #[.val (.ref sb), .val (.int v_), .val (.int cnt), .unset] [(.int r2), (.int cnt)])
  refine Wk.iadd X2 hx (hb hby d24_10) rfl ?_
  refine Wk.istoreNA X2 hx (Ls' := fun z => #[.val (.ref sb), .val (.int v_), .val (.int cnt), .val (.int z)]) (hb hby d24_11) rfl (fun _ => rfl) ?_
  intro i3 hi3
  show Wp p e below _ _ T2 (mkF m 12 #[.val (.ref sb), .val (.int v_), .val (.int cnt), .val (.int i3)] [])
  refine Wk.aloadN X2 hx (hb hby d24_12) rfl rfl rfl ?_
  refine Wk.iloadN X2 hx (hb hby d24_13) rfl rfl ?_
  refine Wk.callV X2 hx hZ (y := (⟨"java/lang/AbstractStringBuilder", "ensureCapacityInternal", "(I)V"⟩ : MethodName)) (z := (⟨"java/lang/AbstractStringBuilder", "ensureCapacityInternal", "(I)V"⟩ : MethodName)) hown (w 114 _ rfl) (declOf (w 115 _ rfl) (w 118 _ rfl)) (notFace_of_selects (args := #[]) (mvT hZ (w 117 _ rfl))) (w 117 _ rfl) (w 115 _ rfl) (by decide) (as' := [(.int i3)]) (backOf (W := 0) (rm_ensB l Z a0 hw [] sb va kv cnt vs i3 h0 O0 pb0_ pb1_ pb2_ pb3_ pb4_ pb5_ (own_Gi hB q2_0 hi3 hbig hfit).1 (own_Gi hB q2_0 hi3 hbig hfit).2 hsb) hZ (w 118 _ rfl) (w 84 _ rfl) (by decide) (by decide)) e2 pb0_ (by rw [hml]; rfl) (rest := []) (lenOf pd4 rfl) rfl (Nat.le_of_eq rfl) (hb hby d24_14) rfl (by decide) (by decide) ?_
  intro T4 h4 v4 L4 X4 e4 hQ4
  obtain ⟨vb4, kw4, rfl, Nq4, K4, q4_0, q4_1, q4_2, q4_3, q4_4, q4_5, q4_6⟩ := hQ4
  have N4 := Fk.app N2 Nq4 (Nat.le_refl _) (allS (Or.inl (List.mem_of_getElem? (i := 0) rfl)) all0)
  have O5 : Old Z Z.heap.size h4 := O0.keep K4 (allS hsb all0)
  show Wp p e below _ _ T4 (mkF m 17 #[.val (.ref sb), .val (.int v_), .val (.int cnt), .val (.int i3)] [])
  refine Wk.aloadN X4 hx (hb hby d24_17) rfl rfl rfl ?_
  refine Wk.callV X4 hx hZ (y := (⟨"java/lang/AbstractStringBuilder", "isLatin1", "()Z"⟩ : MethodName)) (z := (⟨"java/lang/AbstractStringBuilder", "isLatin1", "()Z"⟩ : MethodName)) hown (w 153 _ rfl) (w 154 _ rfl) (notFace_of_selects (args := #[]) (mvT hZ (w 156 _ rfl))) (w 156 _ rfl) (w 155 _ rfl) (by decide) (as' := []) (backOf (W := 0) (rm_ai l Z a0 hw [] sb vb4 kw4 (34 : Int32) cnt _ G1 h4 O5 SG1 nG1 q4_1 q4_2 q4_3 q4_4 q4_5 q4_6) hZ (w 157 _ rfl) (w 84 _ rfl) (by decide) (by decide)) e4 q4_1 (by rw [hml]; rfl) (rest := []) (lenOf pd19 rfl) rfl (Nat.le_of_eq rfl) (hb hby d24_18) rfl (by decide) (by decide) ?_
  intro T6 h6 v6 L6 X6 e6 hQ6
  obtain ⟨rfl, Nq6, K6⟩ := hQ6
  have KK7 : Keep h0 h4 [sb] := ((Keep.refl h0 [sb]).trans K4 (allS (Or.inl (List.mem_of_getElem? (i := 0) rfl)) all0))
  have N6 := Fk.app N4 Nq6 KK7.1 all0
  rw [K6] at e6
  show Wp p e below _ _ T6 (mkF m 21 #[.val (.ref sb), .val (.int v_), .val (.int cnt), .val (.int i3)] [(.int (1 : Int32))])
  refine Wk.ifNo X6 hx (hb hby d24_21) rfl ((if0 _ _).trans (feq (by decide : ¬ ((1 : Int32) = (0 : Int32)))).1) ?_
  refine Wk.iloadN X6 hx (hb hby d24_24) rfl rfl ?_
  refine Wk.iloadN X6 hx (hb hby d24_25) rfl rfl ?_
  refine Wk.aloadN X6 hx (hb hby d24_26) rfl rfl rfl ?_
  refine Wk.getfield X6 hx hZ hown (host := "") (Or.inl (w 88 _ rfl)) Via.refl e6 q4_2 (hb hby d24_27) rfl ?_
  intro T8 X8 e8
  have f9 := (pO.keep KK7 (ninS (Ne.symm (Exa.neArv pb0_ pO (w 75 _ rfl))) nin0))
  have f10 := (pN.keep KK7 (ninS (Ne.symm (Exa.neArv pb0_ pN (w 75 _ rfl))) nin0))
  refine Wk.callS X8 hx hZ hown (w 158 _ rfl) (w 159 _ rfl) (w 151 _ rfl) (w 160 _ rfl) (by decide) (as' := [(.int v_), (.int i3), (.ref vb4)]) (backOf (W := 0) (rm_gch l Z a0 hw [] v_ i3 vb4 kw4 (34 : Int32) (cpF vs (.int (0 : Int32)) (0 : Int32).toNatClampNeg [(.int (0 : Int32)), (.int (0 : Int32)), (.int (0 : Int32)), (.int (0 : Int32)), (.int (0 : Int32)), (.int (0 : Int32)), (.int (0 : Int32)), (.int (0 : Int32)), (.int (0 : Int32)), (.int (0 : Int32)), (.int (0 : Int32)), (.int (0 : Int32)), (.int (0 : Int32)), (.int (0 : Int32)), (.int (0 : Int32)), (.int (0 : Int32)), (.int (0 : Int32)), (.int (0 : Int32)), (.int (0 : Int32)), (.int (0 : Int32)), (.int (0 : Int32)), (.int (0 : Int32)), (.int (0 : Int32)), (.int (0 : Int32)), (.int (0 : Int32)), (.int (0 : Int32)), (.int (0 : Int32)), (.int (0 : Int32)), (.int (0 : Int32)), (.int (0 : Int32)), (.int (0 : Int32)), (.int (0 : Int32)), (.int (0 : Int32)), (.int (0 : Int32))] (.int (0 : Int32)) (0 : Int32).toNatClampNeg (16 : Int32).toNatClampNeg (34 : Int32).toNatClampNeg) bs da kd dt kt h4 O5 sO f9 sN f10 (Nat.ne_of_lt (Nat.lt_of_lt_of_le pO.lt q4_0)) (Nat.ne_of_lt (Nat.lt_of_lt_of_le pN.lt q4_0)) q4_6 (own_sumi hB q2_0 hi3) hfit (Buf.grow hB).2.1 (Buf.grow hB).2.2.2.2 (Or.inr rfl) (Nat.le_trans (Nat.le_trans (Nat.le_trans (Nat.le_of_eq O0.1.symm) O0.2.1) (Keep.refl h0 []).1) q4_0)) hZ (w 160 _ rfl) (w 151 _ rfl) (by decide) (by decide)) e8 (by rw [hml]; rfl) (rest := []) (lenOf pd20 rfl) rfl (Nat.le_of_eq rfl) (hb hby d24_30) rfl (by decide) (by decide) ?_
  intro T11 h11 v11 L11 X11 e11 hQ11
  obtain ⟨r11, vw11, rfl, Nq11, K11, q11_0, q11_1, q11_2⟩ := hQ11
  have N11 := Fk.app N6 Nq11 KK7.1 (allS (Or.inr q4_0) all0)
  have O12 : Old Z Z.heap.size h11 := O5.keep K11 (allS (Nat.le_trans (Nat.le_trans (Nat.le_trans (Nat.le_of_eq O0.1.symm) O0.2.1) (Keep.refl h0 []).1) q4_0) all0)
  show Wp p e below _ _ T11 (mkF m 33 #[.val (.ref sb), .val (.int v_), .val (.int cnt), .val (.int i3)] [(.int r11)])
  refine Wk.pop X11 hx (hb hby d24_33) rfl rfl ?_
  refine Wk.goto X11 hx (hb hby d24_34) (by decide) (q := 48) rfl ?_
  refine Wk.aloadN X11 hx (hb hby d24_48) rfl rfl rfl ?_
  refine Wk.iloadN X11 hx (hb hby d24_49) rfl rfl ?_
  have KK13 : Keep h4 h11 [vb4] := ((Keep.refl h4 [vb4]).trans K11 (allS (Or.inl (List.mem_of_getElem? (i := 0) rfl)) all0))
  have f14 : Exa Z h11 sb "java/lang/StringBuilder" := (q4_1.keep KK13)
  have f15 : Fld Z h11 sb "java/lang/AbstractStringBuilder" "count" "I" (.int cnt) := (q4_4.keep KK13 (ninS (Nat.ne_of_lt (Nat.lt_of_lt_of_le pb0_.lt q4_0)) nin0))
  have f17 : Fld Z h11 sb "java/lang/AbstractStringBuilder" "value" "[B" (.ref vb4) := (q4_2.keep KK13 (ninS (Nat.ne_of_lt (Nat.lt_of_lt_of_le pb0_.lt q4_0)) nin0))
  have f18 : Fld Z h11 sb "java/lang/AbstractStringBuilder" "coder" "B" (.int (0 : Int32)) := (q4_3.keep KK13 (ninS (Nat.ne_of_lt (Nat.lt_of_lt_of_le pb0_.lt q4_0)) nin0))
  refine Wk.putfield X11 hx hZ hown (host := "") (Or.inl (w 112 _ rfl)) Via.refl e11 f15 f14 (Or.inl (w 113 _ rfl)) (w 75 _ rfl) (ty := .int) (by decide) rfl rfl (hb hby d24_50) rfl ?_
  intro T16 h16 L16 M16 X16 e16 W16 Fw16
  have N16 := M16 _ _ N11 (Or.inl (List.mem_of_getElem? (i := 0) rfl))
  have O19 : Old Z Z.heap.size h16 := O12.wr W16 hsb
  have f20 : Fld Z h16 sb "java/lang/AbstractStringBuilder" "value" "[B" (.ref vb4) := f17.other W16 (Or.inr (slot_ne (Or.inl (w 89 _ rfl)) (Or.inl (w 113 _ rfl)) (by decide) (t := (.array .byte)) (t' := .int) (by decide) (by decide)))
  have f21 : Fld Z h16 sb "java/lang/AbstractStringBuilder" "coder" "B" (.int (0 : Int32)) := f18.other W16 (Or.inr (slot_ne (Or.inl (w 91 _ rfl)) (Or.inl (w 113 _ rfl)) (by decide) (t := .byte) (t' := .int) (by decide) (by decide)))
  have E16' : Exa Z h16 sb "java/lang/StringBuilder" := f14.wr W16
  refine Wk.aloadN X16 hx (hb hby d24_53) rfl rfl rfl ?_
  have KK22 : Keep h0 h16 [sb] := ((KK7.trans K11 (allS (Or.inr q4_0) all0)).wr W16 (Or.inl (List.mem_of_getElem? (i := 0) rfl)))
  have KK23 : Keep h4 h16 [vb4, sb] := (((Keep.refl h4 [vb4, sb]).trans K11 (allS (Or.inl (List.mem_of_getElem? (i := 0) rfl)) all0)).wr W16 (Or.inl (List.mem_of_getElem? (i := 1) rfl)))
  have f24 : Exa Z h16 vb4 "[B" := (q4_5.keep KK23)
  have KK25 : Keep h11 h16 [sb] := ((Keep.refl h11 [sb]).wr W16 (Or.inl (List.mem_of_getElem? (i := 0) rfl)))
  have f26 := (q11_0.keep KK25 (ninS (Ne.symm (Nat.ne_of_lt (Nat.lt_of_lt_of_le pb0_.lt q4_0))) nin0))
  exact Wk.retA' X16 hx hlk hr rfl rfl (hb hby d24_54) (by decide) (by decide) (Qc := Q_rm_asiB Z sb va kv cnt vs v_ bs da kd dt kt G1 h0) e16 ⟨vb4, kw4, i3, vw11, rfl, N16, KK22, q4_0, E16', f20, f21, Fw16, f24, f26, (Buf.int (own_sumi hB q2_0 hi3) q11_1 hfit (Or.inr rfl) q11_2)⟩
def Q_rm_sbiB (Z : State) (sb : Addr) (va : Addr) (kv : ClassId) (cnt : Int32) (vs : List Value) (v_ : Int32) (bs : List Int32) (da : Addr) (kd : ClassId) (dt : Addr) (kt : ClassId) (G1 : Int32) (h0 : Heap) (v : Option Value) (h : Heap) (L : List Loc) : Prop := ∃ vb : Addr, ∃ kw : ClassId, ∃ cq : Int32, ∃ vw : List Value, v = some (.ref sb) ∧ Fk h0.size [sb] L ∧ Keep h0 h [sb] ∧ h0.size ≤ vb ∧ Exa Z h sb "java/lang/StringBuilder" ∧ Fld Z h sb "java/lang/AbstractStringBuilder" "value" "[B" (.ref vb) ∧ Fld Z h sb "java/lang/AbstractStringBuilder" "coder" "B" (.int (0 : Int32)) ∧ Fld Z h sb "java/lang/AbstractStringBuilder" "count" "I" (.int cq) ∧ Exa Z h vb "[B" ∧ Arv Z h vb kw .byte (34 : Int32) vw (.int (0 : Int32)) ∧ Buf vw cq (34 : Int32) (bs ++ db v_)
set_option maxRecDepth 65536 in
set_option maxHeartbeats 40000000 in
theorem rm_sbiB (l : Launch) (Z : State) (a0 : Array Value) (hw : ∀ d ∈ tables_1, d.before a0 Z = true) (ws : List Jvm.Cond) (sb : Addr) (va : Addr) (kv : ClassId) (cnt : Int32) (vs : List Value) (v_ : Int32) (bs : List Int32) (da : Addr) (kd : ClassId) (dt : Addr) (kt : ClassId) (G1 : Int32) (h0 : Heap) (O0 : Old Z Z.heap.size h0) (SG1 : Sta Z Z.heap "java/lang/String" "COMPACT_STRINGS" "Z" (.int G1)) (nG1 : ¬ G1 = 0) (pb0_ : Exa Z h0 sb "java/lang/StringBuilder") (pb1_ : Fld Z h0 sb "java/lang/AbstractStringBuilder" "value" "[B" (.ref va)) (pb2_ : Fld Z h0 sb "java/lang/AbstractStringBuilder" "coder" "B" (.int (0 : Int32))) (pb3_ : Fld Z h0 sb "java/lang/AbstractStringBuilder" "count" "I" (.int cnt)) (pb4_ : Exa Z h0 va "[B") (pb5_ : Arv Z h0 va kv .byte (16 : Int32) vs (.int (0 : Int32))) (sO : Sta Z Z.heap "java/lang/Integer" "DigitOnes" "[B" (.ref da)) (pO : Arv Z h0 da kd .byte (100 : Int32) ones (.int (0 : Int32))) (sN : Sta Z Z.heap "java/lang/Integer" "DigitTens" "[B" (.ref dt)) (pN : Arv Z h0 dt kt .byte (100 : Int32) tens (.int (0 : Int32))) (hB : Buf vs cnt (16 : Int32) bs) (hbig : 16 < bs.length + (db v_).length) (hfit : bs.length + (db v_).length ≤ 34) (hsb : Z.heap.size ≤ sb) :
    Ctr l Z (⟨"java/lang/StringBuilder", "append", "(I)Ljava/lang/StringBuilder;"⟩ : MethodName) jdk_67_method_15_code 2 (some (.object "java/lang/StringBuilder")) ws ({ frames := 5, cells := 1, slots := 34, locals := 77 } : Room) #[(.ref sb), (.int v_)] h0 (Q_rm_sbiB Z sb va kv cnt vs v_ bs da kd dt kt G1 h0) := by
  refine Ctr.intro (Ls := fun _ => #[.val (.ref sb), .val (.int v_)]) (plainFor_of_name pn3) (fun m => by first | rfl | (simp [entryFrame, mkF, argsToLocals, Value.category]; done)) ?_
  intro p e s m below meth c s₁ hx hby hml hr hlk hZ hown hnm hs0 X0 e0
  have w : ∀ (k : Nat) (d : Jvm.Cond), tables_1[k]? = some d → d.before a0 Z = true := fun k d q => hw d (List.mem_of_getElem? q)
  have N0 := Fk.nil h0.size [sb]
  refine Wk.aloadN X0 hx (hb hby d23_0) rfl rfl rfl ?_
  refine Wk.iloadN X0 hx (hb hby d23_1) rfl rfl ?_
  refine Wk.callU X0 hx hZ hown (w 145 _ rfl) (sameSelf (y := (⟨"java/lang/AbstractStringBuilder", "append", "(I)Ljava/lang/AbstractStringBuilder;"⟩ : MethodName)) (w 117 _ rfl) rfl (w 146 _ rfl) (by decide)) (w 146 _ rfl) (w 99 _ rfl) (w 148 _ rfl) (by decide) (as' := [(.int v_)]) (backOf (W := 0) (rm_asiB l Z a0 hw [] sb va kv cnt vs v_ bs da kd dt kt G1 h0 O0 SG1 nG1 pb0_ pb1_ pb2_ pb3_ pb4_ pb5_ sO pO sN pN hB hbig hfit hsb) hZ (w 148 _ rfl) (w 84 _ rfl) (by decide) (by decide)) e0 pb0_ (by rw [hml]; rfl) (rest := []) (lenOf pd21 rfl) rfl (Nat.le_of_eq rfl) (hb hby d23_2) rfl (by decide) (by decide) ?_
  intro T1 h1 v1 L1 X1 e1 hQ1
  obtain ⟨vb1, kw1, cq1, vw1, rfl, Nq1, K1, q1_0, q1_1, q1_2, q1_3, q1_4, q1_5, q1_6, q1_7⟩ := hQ1
  have N1 := Fk.app N0 Nq1 (Nat.le_refl _) (allS (Or.inl (List.mem_of_getElem? (i := 0) rfl)) all0)
  have O2 : Old Z Z.heap.size h1 := O0.keep K1 (allS hsb all0)
  show Wp p e below _ _ T1 (mkF m 5 #[.val (.ref sb), .val (.int v_)] [(.ref sb)])
  refine Wk.pop X1 hx (hb hby d23_5) rfl rfl ?_
  refine Wk.aloadN X1 hx (hb hby d23_6) rfl rfl rfl ?_
  have KK3 : Keep h0 h1 [sb] := ((Keep.refl h0 [sb]).trans K1 (allS (Or.inl (List.mem_of_getElem? (i := 0) rfl)) all0))
  exact Wk.retA' X1 hx hlk hr rfl rfl (hb hby d23_7) (by decide) (by decide) (Qc := Q_rm_sbiB Z sb va kv cnt vs v_ bs da kd dt kt G1 h0) e1 ⟨vb1, kw1, cq1, vw1, rfl, N1, KK3, q1_0, q1_1, q1_2, q1_3, q1_4, q1_5, q1_6, q1_7⟩
theorem d31_0 : decode jdk_68_method_64_code 0 = .ok (.aload_n 0, 1) := by decide +kernel
theorem d31_1 : decode jdk_68_method_64_code 1 = .ok (.getfield 15, 3) := by decide +kernel
theorem d31_4 : decode jdk_68_method_64_code 4 = .ok (.areturn, 1) := by decide +kernel
def Q_rm_gv (Z : State) (sb : Addr) (va : Addr) (kv : ClassId) (cap : Int32) (cnt : Int32) (vs : List Value) (h0 : Heap) (v : Option Value) (h : Heap) (L : List Loc) : Prop := v = some (.ref va) ∧ Fk h0.size [] L ∧ h = h0
set_option maxRecDepth 65536 in
set_option maxHeartbeats 40000000 in
theorem rm_gv (l : Launch) (Z : State) (a0 : Array Value) (hw : ∀ d ∈ tables_1, d.before a0 Z = true) (ws : List Jvm.Cond) (sb : Addr) (va : Addr) (kv : ClassId) (cap : Int32) (cnt : Int32) (vs : List Value) (h0 : Heap) (O0 : Old Z Z.heap.size h0) (pb0_ : Exa Z h0 sb "java/lang/StringBuilder") (pb1_ : Fld Z h0 sb "java/lang/AbstractStringBuilder" "value" "[B" (.ref va)) (pb2_ : Fld Z h0 sb "java/lang/AbstractStringBuilder" "coder" "B" (.int (0 : Int32))) (pb3_ : Fld Z h0 sb "java/lang/AbstractStringBuilder" "count" "I" (.int cnt)) (pb4_ : Exa Z h0 va "[B") (pb5_ : Arv Z h0 va kv .byte cap vs (.int (0 : Int32))) :
    Ctr l Z (⟨"java/lang/AbstractStringBuilder", "getValue", "()[B"⟩ : MethodName) jdk_68_method_64_code 1 (some (.array .byte)) ws ({ frames := 0, cells := 0, slots := 0, locals := 0 } : Room) #[(.ref sb)] h0 (Q_rm_gv Z sb va kv cap cnt vs h0) := by
  refine Ctr.intro (Ls := fun _ => #[.val (.ref sb)]) (plainFor_of_name pn2) (fun m => by first | rfl | (simp [entryFrame, mkF, argsToLocals, Value.category]; done)) ?_
  intro p e s m below meth c s₁ hx hby hml hr hlk hZ hown hnm hs0 X0 e0
  have w : ∀ (k : Nat) (d : Jvm.Cond), tables_1[k]? = some d → d.before a0 Z = true := fun k d q => hw d (List.mem_of_getElem? q)
  have N0 := Fk.nil h0.size []
  refine Wk.aloadN X0 hx (hb hby d31_0) rfl rfl rfl ?_
  refine Wk.getfield X0 hx hZ hown (host := "") (Or.inl (w 88 _ rfl)) Via.refl e0 pb1_ (hb hby d31_1) rfl ?_
  intro T1 X1 e1
  exact Wk.retA' X1 hx hlk hr rfl rfl (hb hby d31_4) (by decide) (by decide) (Qc := Q_rm_gv Z sb va kv cap cnt vs h0) e1 ⟨rfl, N0, rfl⟩
theorem d33_0 : decode jdk_68_method_6_code 0 = .ok (.aload_n 0, 1) := by decide +kernel
theorem d33_1 : decode jdk_68_method_6_code 1 = .ok (.getfield 79, 3) := by decide +kernel
theorem d33_4 : decode jdk_68_method_6_code 4 = .ok (.ireturn, 1) := by decide +kernel
def Q_rm_al (Z : State) (sb : Addr) (va : Addr) (kv : ClassId) (cap : Int32) (cnt : Int32) (vs : List Value) (h0 : Heap) (v : Option Value) (h : Heap) (L : List Loc) : Prop := v = some (.int cnt) ∧ Fk h0.size [] L ∧ h = h0
set_option maxRecDepth 65536 in
set_option maxHeartbeats 40000000 in
theorem rm_al (l : Launch) (Z : State) (a0 : Array Value) (hw : ∀ d ∈ tables_1, d.before a0 Z = true) (ws : List Jvm.Cond) (sb : Addr) (va : Addr) (kv : ClassId) (cap : Int32) (cnt : Int32) (vs : List Value) (h0 : Heap) (O0 : Old Z Z.heap.size h0) (pb0_ : Exa Z h0 sb "java/lang/StringBuilder") (pb1_ : Fld Z h0 sb "java/lang/AbstractStringBuilder" "value" "[B" (.ref va)) (pb2_ : Fld Z h0 sb "java/lang/AbstractStringBuilder" "coder" "B" (.int (0 : Int32))) (pb3_ : Fld Z h0 sb "java/lang/AbstractStringBuilder" "count" "I" (.int cnt)) (pb4_ : Exa Z h0 va "[B") (pb5_ : Arv Z h0 va kv .byte cap vs (.int (0 : Int32))) :
    Ctr l Z (⟨"java/lang/AbstractStringBuilder", "length", "()I"⟩ : MethodName) jdk_68_method_6_code 1 (some .int) ws ({ frames := 0, cells := 0, slots := 0, locals := 0 } : Room) #[(.ref sb)] h0 (Q_rm_al Z sb va kv cap cnt vs h0) := by
  refine Ctr.intro (Ls := fun _ => #[.val (.ref sb)]) (plainFor_of_name pn2) (fun m => by first | rfl | (simp [entryFrame, mkF, argsToLocals, Value.category]; done)) ?_
  intro p e s m below meth c s₁ hx hby hml hr hlk hZ hown hnm hs0 X0 e0
  have w : ∀ (k : Nat) (d : Jvm.Cond), tables_1[k]? = some d → d.before a0 Z = true := fun k d q => hw d (List.mem_of_getElem? q)
  have N0 := Fk.nil h0.size []
  refine Wk.aloadN X0 hx (hb hby d33_0) rfl rfl rfl ?_
  refine Wk.getfield X0 hx hZ hown (host := "") (Or.inl (w 112 _ rfl)) Via.refl e0 pb3_ (hb hby d33_1) rfl ?_
  intro T1 X1 e1
  exact Wk.retI' X1 hx hlk hr (hb hby d33_4) (by decide) (by decide) (Qc := Q_rm_al Z sb va kv cap cnt vs h0) e1 ⟨rfl, N0, rfl⟩
theorem d32_0 : decode jdk_67_method_93_code 0 = .ok (.aload_n 0, 1) := by decide +kernel
theorem d32_1 : decode jdk_67_method_93_code 1 = .ok (.invokespecial 343, 3) := by decide +kernel
theorem d32_4 : decode jdk_67_method_93_code 4 = .ok (.ireturn, 1) := by decide +kernel
def Q_rm_sl (Z : State) (sb : Addr) (va : Addr) (kv : ClassId) (cap : Int32) (cnt : Int32) (vs : List Value) (h0 : Heap) (v : Option Value) (h : Heap) (L : List Loc) : Prop := v = some (.int cnt) ∧ Fk h0.size [] L ∧ h = h0
set_option maxRecDepth 65536 in
set_option maxHeartbeats 40000000 in
theorem rm_sl (l : Launch) (Z : State) (a0 : Array Value) (hw : ∀ d ∈ tables_1, d.before a0 Z = true) (ws : List Jvm.Cond) (sb : Addr) (va : Addr) (kv : ClassId) (cap : Int32) (cnt : Int32) (vs : List Value) (h0 : Heap) (O0 : Old Z Z.heap.size h0) (pb0_ : Exa Z h0 sb "java/lang/StringBuilder") (pb1_ : Fld Z h0 sb "java/lang/AbstractStringBuilder" "value" "[B" (.ref va)) (pb2_ : Fld Z h0 sb "java/lang/AbstractStringBuilder" "coder" "B" (.int (0 : Int32))) (pb3_ : Fld Z h0 sb "java/lang/AbstractStringBuilder" "count" "I" (.int cnt)) (pb4_ : Exa Z h0 va "[B") (pb5_ : Arv Z h0 va kv .byte cap vs (.int (0 : Int32))) :
    Ctr l Z (⟨"java/lang/StringBuilder", "length", "()I"⟩ : MethodName) jdk_67_method_93_code 1 (some .int) ws ({ frames := 1, cells := 0, slots := 0, locals := 12 } : Room) #[(.ref sb)] h0 (Q_rm_sl Z sb va kv cap cnt vs h0) := by
  refine Ctr.intro (Ls := fun _ => #[.val (.ref sb)]) (plainFor_of_name pn3) (fun m => by first | rfl | (simp [entryFrame, mkF, argsToLocals, Value.category]; done)) ?_
  intro p e s m below meth c s₁ hx hby hml hr hlk hZ hown hnm hs0 X0 e0
  have w : ∀ (k : Nat) (d : Jvm.Cond), tables_1[k]? = some d → d.before a0 Z = true := fun k d q => hw d (List.mem_of_getElem? q)
  have N0 := Fk.nil h0.size []
  refine Wk.aloadN X0 hx (hb hby d32_0) rfl rfl rfl ?_
  refine Wk.callU X0 hx hZ hown (w 186 _ rfl) (sameSelf (y := (⟨"java/lang/AbstractStringBuilder", "length", "()I"⟩ : MethodName)) (w 117 _ rfl) rfl (w 182 _ rfl) (by decide)) (w 182 _ rfl) (w 99 _ rfl) (w 187 _ rfl) (by decide) (as' := []) (backOf (W := 0) (rm_al l Z a0 hw [] sb va kv cap cnt vs h0 O0 pb0_ pb1_ pb2_ pb3_ pb4_ pb5_) hZ (w 187 _ rfl) (w 84 _ rfl) (by decide) (by decide)) e0 pb0_ (by rw [hml]; rfl) (rest := []) (lenOf pd15 rfl) rfl (Nat.le_of_eq rfl) (hb hby d32_1) rfl (by decide) (by decide) ?_
  intro T1 h1 v1 L1 X1 e1 hQ1
  obtain ⟨rfl, Nq1, K1⟩ := hQ1
  have N1 := Fk.app N0 Nq1 (Nat.le_refl _) all0
  rw [K1] at e1
  show Wp p e below _ _ T1 (mkF m 4 #[.val (.ref sb)] [(.int cnt)])
  exact Wk.retI' X1 hx hlk hr (hb hby d32_4) (by decide) (by decide) (Qc := Q_rm_sl Z sb va kv cap cnt vs h0) e1 ⟨rfl, N1, rfl⟩
theorem d36_0 : decode jdk_65_method_131_code 0 = .ok (.iload_n 1, 1) := by decide +kernel
theorem d36_1 : decode jdk_65_method_131_code 1 = .ok (.iload_n 0, 1) := by decide +kernel
theorem d36_2 : decode jdk_65_method_131_code 2 = .ok (.if_icmp .ge 35, 3) := by decide +kernel
theorem d36_37 : decode jdk_65_method_131_code 37 = .ok (.return_, 1) := by decide +kernel
def Q_rm_ckl (Z : State) (cnt : Int32) (h0 : Heap) (v : Option Value) (h : Heap) (L : List Loc) : Prop := v = none ∧ Fk h0.size [] L ∧ h = h0
set_option maxRecDepth 65536 in
set_option maxHeartbeats 40000000 in
theorem rm_ckl (l : Launch) (Z : State) (a0 : Array Value) (hw : ∀ d ∈ tables_1, d.before a0 Z = true) (ws : List Jvm.Cond) (cnt : Int32) (h0 : Heap) (O0 : Old Z Z.heap.size h0) (h0_ : ¬ (cnt < (0 : Int32))) :
    Ctr l Z (⟨"java/util/Arrays", "checkLength", "(II)V"⟩ : MethodName) jdk_65_method_131_code 2 none ws ({ frames := 0, cells := 0, slots := 0, locals := 0 } : Room) #[(.int (0 : Int32)), (.int cnt)] h0 (Q_rm_ckl Z cnt h0) := by
  refine Ctr.intro (Ls := fun _ => #[.val (.int (0 : Int32)), .val (.int cnt)]) (plainFor_of_name pn10) (fun m => by first | rfl | (simp [entryFrame, mkF, argsToLocals, Value.category]; done)) ?_
  intro p e s m below meth c s₁ hx hby hml hr hlk hZ hown hnm hs0 X0 e0
  have w : ∀ (k : Nat) (d : Jvm.Cond), tables_1[k]? = some d → d.before a0 Z = true := fun k d q => hw d (List.mem_of_getElem? q)
  have N0 := Fk.nil h0.size []
  refine Wk.iloadN X0 hx (hb hby d36_0) rfl rfl ?_
  refine Wk.iloadN X0 hx (hb hby d36_1) rfl rfl ?_
  refine Wk.icmpYes X0 hx (hb hby d36_2) (by decide) (q := 37) rfl (flt h0_).2.1 ?_
  exact Wk.ret0' X0 hx hlk hr (hb hby d36_37) (by decide) (by decide) (Qc := Q_rm_ckl Z cnt h0) e0 ⟨rfl, N0, rfl⟩
theorem d37_9 : decode jdk_29_method_69_code 9 = .ok (.iload_n 1, 1) := by decide +kernel
def Q_rm_mnc (Z : State) (cap : Int32) (cnt : Int32) (h0 : Heap) (v : Option Value) (h : Heap) (L : List Loc) : Prop := v = some (.int cnt) ∧ Fk h0.size [] L ∧ h = h0
set_option maxRecDepth 65536 in
set_option maxHeartbeats 40000000 in
theorem rm_mnc (l : Launch) (Z : State) (a0 : Array Value) (hw : ∀ d ∈ tables_1, d.before a0 Z = true) (ws : List Jvm.Cond) (cap : Int32) (cnt : Int32) (h0 : Heap) (O0 : Old Z Z.heap.size h0) (hlt : cnt < cap) :
    Ctr l Z (⟨"java/lang/Math", "min", "(II)I"⟩ : MethodName) jdk_29_method_69_code 2 (some .int) ws ({ frames := 0, cells := 0, slots := 0, locals := 0 } : Room) #[(.int cap), (.int cnt)] h0 (Q_rm_mnc Z cap cnt h0) := by
  refine Ctr.intro (Ls := fun _ => #[.val (.int cap), .val (.int cnt)]) pn9 (fun m => by first | rfl | (simp [entryFrame, mkF, argsToLocals, Value.category]; done)) ?_
  intro p e s m below meth c s₁ hx hby hml hr hlk hZ hown hnm hs0 X0 e0
  have w : ∀ (k : Nat) (d : Jvm.Cond), tables_1[k]? = some d → d.before a0 Z = true := fun k d q => hw d (List.mem_of_getElem? q)
  have N0 := Fk.nil h0.size []
  refine Wk.iloadN X0 hx (hb hby d37_0) rfl rfl ?_
  refine Wk.iloadN X0 hx (hb hby d37_1) rfl rfl ?_
  refine Wk.icmpYes X0 hx (hb hby d37_2) (by decide) (q := 9) rfl (tlt hlt).2.2.1 ?_
  refine Wk.iloadN X0 hx (hb hby d37_9) rfl rfl ?_
  exact Wk.retI' X0 hx hlk hr (hb hby d37_10) (by decide) (by decide) (Qc := Q_rm_mnc Z cap cnt h0) e0 ⟨rfl, N0, rfl⟩
theorem d35_0 : decode jdk_65_method_133_code 0 = .ok (.iload_n 1, 1) := by decide +kernel
theorem d35_1 : decode jdk_65_method_133_code 1 = .ok (.iload_n 2, 1) := by decide +kernel
theorem d35_2 : decode jdk_65_method_133_code 2 = .ok (.invokestatic 343, 3) := by decide +kernel
theorem pd22 : parseMethodDescriptor "(II)V" = some ⟨[.int, .int], none⟩ := by decide +kernel
theorem d35_5 : decode jdk_65_method_133_code 5 = .ok (.iload_n 2, 1) := by decide +kernel
theorem d35_6 : decode jdk_65_method_133_code 6 = .ok (.iload_n 1, 1) := by decide +kernel
theorem d35_7 : decode jdk_65_method_133_code 7 = .ok (.isub, 1) := by decide +kernel
theorem d35_8 : decode jdk_65_method_133_code 8 = .ok (.istore_n 3, 1) := by decide +kernel
theorem d35_9 : decode jdk_65_method_133_code 9 = .ok (.iload_n 3, 1) := by decide +kernel
theorem d35_10 : decode jdk_65_method_133_code 10 = .ok (.newarray .byte, 2) := by decide +kernel
theorem d35_12 : decode jdk_65_method_133_code 12 = .ok (.astore 4, 2) := by decide +kernel
theorem d35_14 : decode jdk_65_method_133_code 14 = .ok (.aload_n 0, 1) := by decide +kernel
theorem d35_15 : decode jdk_65_method_133_code 15 = .ok (.iload_n 1, 1) := by decide +kernel
theorem d35_16 : decode jdk_65_method_133_code 16 = .ok (.aload 4, 2) := by decide +kernel
theorem d35_18 : decode jdk_65_method_133_code 18 = .ok (.iconst 0, 1) := by decide +kernel
theorem d35_19 : decode jdk_65_method_133_code 19 = .ok (.aload_n 0, 1) := by decide +kernel
theorem d35_20 : decode jdk_65_method_133_code 20 = .ok (.arraylength, 1) := by decide +kernel
theorem d35_21 : decode jdk_65_method_133_code 21 = .ok (.iload_n 1, 1) := by decide +kernel
theorem d35_22 : decode jdk_65_method_133_code 22 = .ok (.isub, 1) := by decide +kernel
theorem d35_23 : decode jdk_65_method_133_code 23 = .ok (.iload_n 3, 1) := by decide +kernel
theorem d35_24 : decode jdk_65_method_133_code 24 = .ok (.invokestatic 304, 3) := by decide +kernel
theorem d35_27 : decode jdk_65_method_133_code 27 = .ok (.invokestatic 150, 3) := by decide +kernel
theorem d35_30 : decode jdk_65_method_133_code 30 = .ok (.aload 4, 2) := by decide +kernel
theorem d35_32 : decode jdk_65_method_133_code 32 = .ok (.areturn, 1) := by decide +kernel
def Q_rm_crb (Z : State) (va : Addr) (kv : ClassId) (cap : Int32) (cnt : Int32) (vs : List Value) (bs : List Int32) (h0 : Heap) (v : Option Value) (h : Heap) (L : List Loc) : Prop := ∃ t : Addr, ∃ kb : ClassId, ∃ us : List Value, v = some (.ref t) ∧ Fk h0.size [] L ∧ Keep h0 h [] ∧ h0.size ≤ t ∧ Arv Z h t kb .byte cnt us (.int (0 : Int32)) ∧ Str us cnt bs
set_option maxRecDepth 65536 in
set_option maxHeartbeats 40000000 in
theorem rm_crb (l : Launch) (Z : State) (a0 : Array Value) (hw : ∀ d ∈ tables_1, d.before a0 Z = true) (ws : List Jvm.Cond) (va : Addr) (kv : ClassId) (cap : Int32) (cnt : Int32) (vs : List Value) (bs : List Int32) (h0 : Heap) (O0 : Old Z Z.heap.size h0) (pv : Arv Z h0 va kv .byte cap vs (.int (0 : Int32))) (pe : Exa Z h0 va "[B") (hB : Buf vs cnt cap bs) (hlt : cnt < cap) :
    Ctr l Z (⟨"java/util/Arrays", "copyOfRangeByte", "([BII)[B"⟩ : MethodName) jdk_65_method_133_code 5 (some (.array .byte)) ws ({ frames := 1, cells := 1, slots := 34, locals := 18 } : Room) #[(.ref va), (.int (0 : Int32)), (.int cnt)] h0 (Q_rm_crb Z va kv cap cnt vs bs h0) := by
  refine Ctr.intro (Ls := fun _ => #[.val (.ref va), .val (.int (0 : Int32)), .val (.int cnt), .unset, .unset]) (plainFor_of_name pn10) (fun m => by first | rfl | (simp [entryFrame, mkF, argsToLocals, Value.category]; done)) ?_
  intro p e s m below meth c s₁ hx hby hml hr hlk hZ hown hnm hs0 X0 e0
  have w : ∀ (k : Nat) (d : Jvm.Cond), tables_1[k]? = some d → d.before a0 Z = true := fun k d q => hw d (List.mem_of_getElem? q)
  have N0 := Fk.nil h0.size []
  refine Wk.iloadN X0 hx (hb hby d35_0) rfl rfl ?_
  refine Wk.iloadN X0 hx (hb hby d35_1) rfl rfl ?_
  refine Wk.callS X0 hx hZ hown (w 196 _ rfl) (w 197 _ rfl) (w 191 _ rfl) (w 198 _ rfl) (by decide) (as' := [(.int (0 : Int32)), (.int cnt)]) (backOf (W := 0) (rm_ckl l Z a0 hw [] cnt h0 O0 (own_nn hB.1)) hZ (w 198 _ rfl) (w 191 _ rfl) (by decide) (by decide)) e0 (by rw [hml]; rfl) (rest := []) (lenOf pd22 rfl) rfl (Nat.le_of_eq rfl) (hb hby d35_2) rfl (by decide) (by decide) ?_
  intro T1 h1 v1 L1 X1 e1 hQ1
  obtain ⟨rfl, Nq1, K1⟩ := hQ1
  have N1 := Fk.app N0 Nq1 (Nat.le_refl _) all0
  rw [K1] at e1
  show Wp p e below _ _ T1 (mkF m 5 #[.val (.ref va), .val (.int (0 : Int32)), .val (.int cnt), .unset, .unset] [])
  refine Wk.iloadN X1 hx (hb hby d35_5) rfl rfl ?_
  refine Wk.iloadN X1 hx (hb hby d35_6) rfl rfl ?_
  refine Wk.isub X1 hx (hb hby d35_7) rfl ?_
  rw [own_sub0 cnt]
  refine Wk.istoreN X1 hx (Ls' := #[.val (.ref va), .val (.int (0 : Int32)), .val (.int cnt), .val (.int cnt), .unset]) (hb hby d35_8) rfl rfl ?_
  refine Wk.iloadN X1 hx (hb hby d35_9) rfl rfl ?_
  refine Wk.newarrayE X1 hx hZ (w 29 _ rfl) e1 (hb hby d35_10) rfl (own_nn hB.1) 34 hB.c34 (by decide) (by decide) (by decide) (ad := "[B") (by decide) ?_
  intro T2 h2 a2 kA2 g2 X2 e2 E2 A2 Ea2
  have O3 : Old Z Z.heap.size h2 := O0.ext E2
  have V2 : Arv Z h2 a2 kA2 .byte cnt [] (.int (0 : Int32)) := A2
  refine Wk.astore X2 hx (Ls' := #[.val (.ref va), .val (.int (0 : Int32)), .val (.int cnt), .val (.int cnt), .val (.ref a2)]) (hb hby d35_12) rfl rfl rfl ?_
  refine Wk.aloadN X2 hx (hb hby d35_14) rfl rfl rfl ?_
  refine Wk.iloadN X2 hx (hb hby d35_15) rfl rfl ?_
  refine Wk.aload X2 hx (hb hby d35_16) rfl rfl rfl ?_
  refine Wk.iconst X2 hx (v := (0 : Int32)) (hb hby d35_18) rfl rfl ?_
  refine Wk.aloadN X2 hx (hb hby d35_19) rfl rfl rfl ?_
  have KK4 : Keep h0 h2 [] := ((Keep.refl h0 []).ext E2)
  have f5 := (pv.keep KK4 nin0)
  refine Wk.arraylength X2 hx hZ e2 f5 (hb hby d35_20) rfl ?_
  refine Wk.iloadN X2 hx (hb hby d35_21) rfl rfl ?_
  refine Wk.isub X2 hx (hb hby d35_22) rfl ?_
  rw [own_sub0 cap]
  refine Wk.iloadN X2 hx (hb hby d35_23) rfl rfl ?_
  refine Wk.callS X2 hx hZ hown (w 199 _ rfl) (w 200 _ rfl) (w 201 _ rfl) (w 202 _ rfl) (by decide) (as' := [(.int cap), (.int cnt)]) (backOf (W := 4) (rm_mnc l Z a0 hw [] cap cnt h2 O3 hlt) hZ (w 202 _ rfl) (w 201 _ rfl) (by decide) (by decide)) e2 (by rw [hml]; rfl) (rest := [(.int (0 : Int32)), (.ref a2), (.int (0 : Int32)), (.ref va)]) (lenOf pd7 rfl) rfl (Nat.le_of_eq rfl) (hb hby d35_24) rfl (by decide) (by decide) ?_
  intro T6 h6 v6 L6 X6 e6 hQ6
  obtain ⟨rfl, Nq6, K6⟩ := hQ6
  have N6 := Fk.app N1 Nq6 KK4.1 all0
  rw [K6] at e6
  show Wp p e below _ _ T6 (mkF m 27 #[.val (.ref va), .val (.int (0 : Int32)), .val (.int cnt), .val (.int cnt), .val (.ref a2)] [(.int cnt), (.int (0 : Int32)), (.ref a2), (.int (0 : Int32)), (.ref va)])
  refine Wk.cpB X6 hx hZ hown (w 203 _ rfl) (w 138 _ rfl) (w 136 _ rfl) (w 137 _ rfl) e6 f5 V2 (by decide) (by decide) (own_nn hB.1) hB.le (Nat.le_of_eq (Nat.zero_add _)) (by rw [hml]; rfl) (hb hby d35_27) rfl (by decide) 0 (Nat.le_of_eq rfl) (by decide) ?_
  intro T7 h7 L7 M7 X7 e7 K7 V7
  have N7 := M7 _ _ N6 (Or.inr (Nat.le_of_eq g2))
  have O8 : Old Z Z.heap.size h7 := O3.keep K7 (allS (Nat.le_trans (Nat.le_trans (Nat.le_trans (Nat.le_of_eq O0.1.symm) O0.2.1) (Keep.refl h0 []).1) (Nat.le_of_eq g2)) all0)
  have Vl7 : Arv Z h7 a2 kA2 .byte cnt (cpF vs (.int (0 : Int32)) (0 : Int32).toNatClampNeg [] (.int (0 : Int32)) (0 : Int32).toNatClampNeg cnt.toNatClampNeg cnt.toNatClampNeg) (.int (0 : Int32)) := V7
  refine Wk.aload X7 hx (hb hby d35_30) rfl rfl rfl ?_
  have KK9 : Keep h0 h7 [] := (KK4.trans K7 (allS (Or.inr (Nat.le_of_eq g2)) all0))
  exact Wk.retA' X7 hx hlk hr rfl rfl (hb hby d35_32) (by decide) (by decide) (Qc := Q_rm_crb Z va kv cap cnt vs bs h0) e7 ⟨a2, kA2, (cpF vs (.int (0 : Int32)) (0 : Int32).toNatClampNeg [] (.int (0 : Int32)) (0 : Int32).toNatClampNeg cnt.toNatClampNeg cnt.toNatClampNeg), rfl, N7, KK9, (Nat.le_of_eq g2), Vl7, hB.str⟩
theorem d34_0 : decode jdk_65_method_132_code 0 = .ok (.iload_n 1, 1) := by decide +kernel
theorem d34_1 : decode jdk_65_method_132_code 1 = .ok (.ifCond .ne 9, 3) := by decide +kernel
theorem d34_4 : decode jdk_65_method_132_code 4 = .ok (.iload_n 2, 1) := by decide +kernel
theorem d34_5 : decode jdk_65_method_132_code 5 = .ok (.aload_n 0, 1) := by decide +kernel
theorem d34_6 : decode jdk_65_method_132_code 6 = .ok (.arraylength, 1) := by decide +kernel
theorem d34_7 : decode jdk_65_method_132_code 7 = .ok (.if_icmp .eq 10, 3) := by decide +kernel
theorem d34_17 : decode jdk_65_method_132_code 17 = .ok (.aload_n 0, 1) := by decide +kernel
theorem d34_18 : decode jdk_65_method_132_code 18 = .ok (.invokevirtual 310, 3) := by decide +kernel
theorem d34_21 : decode jdk_65_method_132_code 21 = .ok (.checkcast 311, 3) := by decide +kernel
theorem d34_24 : decode jdk_65_method_132_code 24 = .ok (.areturn, 1) := by decide +kernel
theorem d34_10 : decode jdk_65_method_132_code 10 = .ok (.aload_n 0, 1) := by decide +kernel
theorem d34_11 : decode jdk_65_method_132_code 11 = .ok (.iload_n 1, 1) := by decide +kernel
theorem d34_12 : decode jdk_65_method_132_code 12 = .ok (.iload_n 2, 1) := by decide +kernel
theorem d34_13 : decode jdk_65_method_132_code 13 = .ok (.invokestatic 339, 3) := by decide +kernel
theorem pd23 : parseMethodDescriptor "([BII)[B" = some ⟨[(.array .byte), .int, .int], some (.array .byte)⟩ := by decide +kernel
theorem d34_16 : decode jdk_65_method_132_code 16 = .ok (.areturn, 1) := by decide +kernel
def Q_rm_cor (Z : State) (va : Addr) (kv : ClassId) (cap : Int32) (cnt : Int32) (vs : List Value) (bs : List Int32) (h0 : Heap) (v : Option Value) (h : Heap) (L : List Loc) : Prop := ∃ t : Addr, ∃ kb : ClassId, ∃ us : List Value, v = some (.ref t) ∧ Fk h0.size [] L ∧ Keep h0 h [] ∧ h0.size ≤ t ∧ Arv Z h t kb .byte cnt us (.int (0 : Int32)) ∧ Str us cnt bs
set_option maxRecDepth 65536 in
set_option maxHeartbeats 40000000 in
theorem rm_cor (l : Launch) (Z : State) (a0 : Array Value) (hw : ∀ d ∈ tables_1, d.before a0 Z = true) (ws : List Jvm.Cond) (va : Addr) (kv : ClassId) (cap : Int32) (cnt : Int32) (vs : List Value) (bs : List Int32) (h0 : Heap) (O0 : Old Z Z.heap.size h0) (pv : Arv Z h0 va kv .byte cap vs (.int (0 : Int32))) (pe : Exa Z h0 va "[B") (hB : Buf vs cnt cap bs) :
    Ctr l Z (⟨"java/util/Arrays", "copyOfRange", "([BII)[B"⟩ : MethodName) jdk_65_method_132_code 3 (some (.array .byte)) ws ({ frames := 2, cells := 1, slots := 34, locals := 34 } : Room) #[(.ref va), (.int (0 : Int32)), (.int cnt)] h0 (Q_rm_cor Z va kv cap cnt vs bs h0) := by
  refine Ctr.intro (Ls := fun _ => #[.val (.ref va), .val (.int (0 : Int32)), .val (.int cnt)]) (plainFor_of_name pn10) (fun m => by first | rfl | (simp [entryFrame, mkF, argsToLocals, Value.category]; done)) ?_
  intro p e s m below meth c s₁ hx hby hml hr hlk hZ hown hnm hs0 X0 e0
  have w : ∀ (k : Nat) (d : Jvm.Cond), tables_1[k]? = some d → d.before a0 Z = true := fun k d q => hw d (List.mem_of_getElem? q)
  have N0 := Fk.nil h0.size []
  refine Wk.iloadN X0 hx (hb hby d34_0) rfl rfl ?_
  refine Wk.ifNo X0 hx (hb hby d34_1) rfl ((if0 _ _).trans (teq (by decide : (0 : Int32) = (0 : Int32))).2) ?_
  refine Wk.iloadN X0 hx (hb hby d34_4) rfl rfl ?_
  refine Wk.aloadN X0 hx (hb hby d34_5) rfl rfl rfl ?_
  refine Wk.arraylength X0 hx hZ e0 pv (hb hby d34_6) rfl ?_
  by_cases hc1 : cnt = cap
  · skip
    refine Wk.icmpYes X0 hx (hb hby d34_7) (by decide) (q := 17) rfl (teq hc1).1 ?_
    refine Wk.aloadN X0 hx (hb hby d34_17) rfl rfl rfl ?_
    refine Wk.clone X0 hx hZ hown (w 268 _ rfl) (w 269 _ rfl) (w 273 _ rfl) (w 271 _ rfl) (w 272 _ rfl) (w 274 _ rfl) e0 pv pe (by rw [hml]; rfl) (hb hby d34_18) rfl (by decide) 0 34 (Nat.le_of_eq rfl) (by decide) (capN hB.2.2.2.1).2 (by decide) (by decide) ?_
    intro T2 h2 a2 g2 X2 e2 E2 V2 A2
    have O3 : Old Z Z.heap.size h2 := O0.ext E2
    refine Wk.castY X2 hx hZ hown (w 275 _ rfl) e2 (Ins.self A2) (hb hby d34_21) rfl ?_
    intro T4 X4 e4
    have Vc5 : Arv Z h2 a2 kv .byte cnt vs (.int (0 : Int32)) := by rw [hc1]; exact V2
    have KK6 : Keep h0 h2 [] := ((Keep.refl h0 []).ext E2)
    exact Wk.retA' X4 hx hlk hr rfl rfl (hb hby d34_24) (by decide) (by decide) (Qc := Q_rm_cor Z va kv cap cnt vs bs h0) e4 ⟨a2, kv, vs, rfl, N0, KK6, (Nat.le_of_eq g2), Vc5, hB.same⟩
  refine Wk.icmpNo X0 hx (hb hby d34_7) rfl (feq hc1).1 ?_
  refine Wk.aloadN X0 hx (hb hby d34_10) rfl rfl rfl ?_
  refine Wk.iloadN X0 hx (hb hby d34_11) rfl rfl ?_
  refine Wk.iloadN X0 hx (hb hby d34_12) rfl rfl ?_
  refine Wk.callS X0 hx hZ hown (w 193 _ rfl) (w 194 _ rfl) (w 191 _ rfl) (w 195 _ rfl) (by decide) (as' := [(.ref va), (.int (0 : Int32)), (.int cnt)]) (backOf (W := 0) (rm_crb l Z a0 hw [] va kv cap cnt vs bs h0 O0 pv pe hB (hB.lt hc1)) hZ (w 195 _ rfl) (w 191 _ rfl) (by decide) (by decide)) e0 (by rw [hml]; rfl) (rest := []) (lenOf pd23 rfl) rfl (Nat.le_of_eq rfl) (hb hby d34_13) rfl (by decide) (by decide) ?_
  intro T7 h7 v7 L7 X7 e7 hQ7
  obtain ⟨t7, kb7, us7, rfl, Nq7, K7, q7_0, q7_1, q7_2⟩ := hQ7
  have N7 := Fk.app N0 Nq7 (Nat.le_refl _) all0
  have O8 : Old Z Z.heap.size h7 := O0.keep K7 all0
  show Wp p e below _ _ T7 (mkF m 16 #[.val (.ref va), .val (.int (0 : Int32)), .val (.int cnt)] [(.ref t7)])
  have KK9 : Keep h0 h7 [] := ((Keep.refl h0 []).trans K7 all0)
  exact Wk.retA' X7 hx hlk hr rfl rfl (hb hby d34_16) (by decide) (by decide) (Qc := Q_rm_cor Z va kv cap cnt vs bs h0) e7 ⟨t7, kb7, us7, rfl, N7, KK9, q7_0, q7_1, q7_2⟩
theorem d30_0 : decode jdk_42_method_150_code 0 = .ok (.aload_n 0, 1) := by decide +kernel
theorem d30_1 : decode jdk_42_method_150_code 1 = .ok (.invokespecial 1, 3) := by decide +kernel
theorem d30_4 : decode jdk_42_method_150_code 4 = .ok (.aload_n 1, 1) := by decide +kernel
theorem d30_5 : decode jdk_42_method_150_code 5 = .ok (.invokevirtual 552, 3) := by decide +kernel
theorem pd24 : parseMethodDescriptor "()[B" = some ⟨[], some (.array .byte)⟩ := by decide +kernel
theorem d30_8 : decode jdk_42_method_150_code 8 = .ok (.astore_n 3, 1) := by decide +kernel
theorem d30_9 : decode jdk_42_method_150_code 9 = .ok (.aload_n 1, 1) := by decide +kernel
theorem d30_10 : decode jdk_42_method_150_code 10 = .ok (.invokevirtual 549, 3) := by decide +kernel
theorem d30_13 : decode jdk_42_method_150_code 13 = .ok (.istore 4, 2) := by decide +kernel
theorem d30_15 : decode jdk_42_method_150_code 15 = .ok (.aload_n 1, 1) := by decide +kernel
theorem d30_16 : decode jdk_42_method_150_code 16 = .ok (.invokevirtual 1047, 3) := by decide +kernel
theorem d30_19 : decode jdk_42_method_150_code 19 = .ok (.ifCond .eq 22, 3) := by decide +kernel
theorem d30_22 : decode jdk_42_method_150_code 22 = .ok (.aload_n 0, 1) := by decide +kernel
theorem d30_23 : decode jdk_42_method_150_code 23 = .ok (.iconst 0, 1) := by decide +kernel
theorem d30_24 : decode jdk_42_method_150_code 24 = .ok (.putfield 15, 3) := by decide +kernel
theorem d30_27 : decode jdk_42_method_150_code 27 = .ok (.aload_n 0, 1) := by decide +kernel
theorem d30_28 : decode jdk_42_method_150_code 28 = .ok (.aload_n 3, 1) := by decide +kernel
theorem d30_29 : decode jdk_42_method_150_code 29 = .ok (.iconst 0, 1) := by decide +kernel
theorem d30_30 : decode jdk_42_method_150_code 30 = .ok (.iload 4, 2) := by decide +kernel
theorem d30_32 : decode jdk_42_method_150_code 32 = .ok (.invokestatic 54, 3) := by decide +kernel
theorem d30_35 : decode jdk_42_method_150_code 35 = .ok (.putfield 9, 3) := by decide +kernel
theorem d30_38 : decode jdk_42_method_150_code 38 = .ok (.goto 59, 3) := by decide +kernel
theorem d30_97 : decode jdk_42_method_150_code 97 = .ok (.return_, 1) := by decide +kernel
def Q_rm_sas (Z : State) (x : Addr) (sb : Addr) (va : Addr) (kv : ClassId) (cap : Int32) (cnt : Int32) (vs : List Value) (bs : List Int32) (G1 : Int32) (h0 : Heap) (v : Option Value) (h : Heap) (L : List Loc) : Prop := ∃ t : Addr, ∃ kb : ClassId, ∃ us : List Value, v = none ∧ Fk h0.size [x] L ∧ Keep h0 h [x] ∧ h0.size ≤ t ∧ Exa Z h x "java/lang/String" ∧ Fld Z h x "java/lang/String" "coder" "B" (.int (0 : Int32)) ∧ Fld Z h x "java/lang/String" "value" "[B" (.ref t) ∧ Arv Z h t kb .byte cnt us (.int (0 : Int32)) ∧ Str us cnt bs
set_option maxRecDepth 65536 in
set_option maxHeartbeats 40000000 in
theorem rm_sas (l : Launch) (Z : State) (a0 : Array Value) (hw : ∀ d ∈ tables_1, d.before a0 Z = true) (ws : List Jvm.Cond) (x : Addr) (sb : Addr) (va : Addr) (kv : ClassId) (cap : Int32) (cnt : Int32) (vs : List Value) (bs : List Int32) (G1 : Int32) (h0 : Heap) (O0 : Old Z Z.heap.size h0) (SG1 : Sta Z Z.heap "java/lang/String" "COMPACT_STRINGS" "Z" (.int G1)) (nG1 : ¬ G1 = 0) (hE : Exa Z h0 x "java/lang/String") (hV : Fld Z h0 x "java/lang/String" "value" "[B" .null) (hC : Fld Z h0 x "java/lang/String" "coder" "B" (.int (0 : Int32))) (hxz : Z.heap.size ≤ x) (pb0_ : Exa Z h0 sb "java/lang/StringBuilder") (pb1_ : Fld Z h0 sb "java/lang/AbstractStringBuilder" "value" "[B" (.ref va)) (pb2_ : Fld Z h0 sb "java/lang/AbstractStringBuilder" "coder" "B" (.int (0 : Int32))) (pb3_ : Fld Z h0 sb "java/lang/AbstractStringBuilder" "count" "I" (.int cnt)) (pb4_ : Exa Z h0 va "[B") (pb5_ : Arv Z h0 va kv .byte cap vs (.int (0 : Int32))) (hB : Buf vs cnt cap bs) :
    Ctr l Z (⟨"java/lang/String", "<init>", "(Ljava/lang/AbstractStringBuilder;Ljava/lang/Void;)V"⟩ : MethodName) jdk_42_method_150_code 5 none ws ({ frames := 3, cells := 1, slots := 34, locals := 49 } : Room) #[(.ref x), (.ref sb), .null] h0 (Q_rm_sas Z x sb va kv cap cnt vs bs G1 h0) := by
  refine Ctr.intro (Ls := fun _ => #[.val (.ref x), .val (.ref sb), .val .null, .unset, .unset]) (plainFor_of_name pn0) (fun m => by first | rfl | (simp [entryFrame, mkF, argsToLocals, Value.category]; done)) ?_
  intro p e s m below meth c s₁ hx hby hml hr hlk hZ hown hnm hs0 X0 e0
  have w : ∀ (k : Nat) (d : Jvm.Cond), tables_1[k]? = some d → d.before a0 Z = true := fun k d q => hw d (List.mem_of_getElem? q)
  have N0 := Fk.nil h0.size [x]
  refine Wk.aloadN X0 hx (hb hby d30_0) rfl rfl rfl ?_
  refine Wk.objinit X0 hx hZ hown (w 21 _ rfl) (w 22 _ rfl) (w 23 _ rfl) e0 (by rw [hml]; rfl) (hb hby d30_1) rfl (by decide) 0 (Nat.le_of_eq rfl) (by decide) ?_
  intro T1 X1 e1
  refine Wk.aloadN X1 hx (hb hby d30_4) rfl rfl rfl ?_
  refine Wk.callV X1 hx hZ (y := (⟨"java/lang/AbstractStringBuilder", "getValue", "()[B"⟩ : MethodName)) (z := (⟨"java/lang/AbstractStringBuilder", "getValue", "()[B"⟩ : MethodName)) hown (w 175 _ rfl) (w 176 _ rfl) (notFace_of_selects (args := #[]) (mvT hZ (w 178 _ rfl))) (w 178 _ rfl) (w 177 _ rfl) (by decide) (as' := []) (backOf (W := 0) (rm_gv l Z a0 hw [] sb va kv cap cnt vs h0 O0 pb0_ pb1_ pb2_ pb3_ pb4_ pb5_) hZ (w 179 _ rfl) (w 84 _ rfl) (by decide) (by decide)) e1 pb0_ (by rw [hml]; rfl) (rest := []) (lenOf pd24 rfl) rfl (Nat.le_of_eq rfl) (hb hby d30_5) rfl (by decide) (by decide) ?_
  intro T2 h2 v2 L2 X2 e2 hQ2
  obtain ⟨rfl, Nq2, K2⟩ := hQ2
  have N2 := Fk.app N0 Nq2 (Nat.le_refl _) all0
  rw [K2] at e2
  show Wp p e below _ _ T2 (mkF m 8 #[.val (.ref x), .val (.ref sb), .val .null, .unset, .unset] [(.ref va)])
  refine Wk.astoreN X2 hx (Ls' := #[.val (.ref x), .val (.ref sb), .val .null, .val (.ref va), .unset]) (hb hby d30_8) rfl rfl rfl ?_
  refine Wk.aloadN X2 hx (hb hby d30_9) rfl rfl rfl ?_
  refine Wk.callV X2 hx hZ (y := (⟨"java/lang/AbstractStringBuilder", "length", "()I"⟩ : MethodName)) (z := (⟨"java/lang/StringBuilder", "length", "()I"⟩ : MethodName)) hown (w 180 _ rfl) (w 181 _ rfl) (nfSib (args := #[]) (mvT hZ (w 117 _ rfl)) rfl) (w 183 _ rfl) (w 184 _ rfl) (by decide) (as' := []) (backOf (W := 0) (rm_sl l Z a0 hw [] sb va kv cap cnt vs h0 O0 pb0_ pb1_ pb2_ pb3_ pb4_ pb5_) hZ (w 185 _ rfl) (w 76 _ rfl) (by decide) (by decide)) e2 pb0_ (by rw [hml]; rfl) (rest := []) (lenOf pd15 rfl) rfl (Nat.le_of_eq rfl) (hb hby d30_10) rfl (by decide) (by decide) ?_
  intro T3 h3 v3 L3 X3 e3 hQ3
  obtain ⟨rfl, Nq3, K3⟩ := hQ3
  have N3 := Fk.app N2 Nq3 (Nat.le_refl _) all0
  rw [K3] at e3
  show Wp p e below _ _ T3 (mkF m 13 #[.val (.ref x), .val (.ref sb), .val .null, .val (.ref va), .unset] [(.int cnt)])
  refine Wk.istore X3 hx (Ls' := #[.val (.ref x), .val (.ref sb), .val .null, .val (.ref va), .val (.int cnt)]) (hb hby d30_13) rfl rfl ?_
  refine Wk.aloadN X3 hx (hb hby d30_15) rfl rfl rfl ?_
  refine Wk.callV X3 hx hZ (y := (⟨"java/lang/AbstractStringBuilder", "isLatin1", "()Z"⟩ : MethodName)) (z := (⟨"java/lang/AbstractStringBuilder", "isLatin1", "()Z"⟩ : MethodName)) hown (w 188 _ rfl) (w 154 _ rfl) (notFace_of_selects (args := #[]) (mvT hZ (w 156 _ rfl))) (w 156 _ rfl) (w 155 _ rfl) (by decide) (as' := []) (backOf (W := 0) (rm_ai l Z a0 hw [] sb va kv cap cnt vs G1 h0 O0 SG1 nG1 pb0_ pb1_ pb2_ pb3_ pb4_ pb5_) hZ (w 157 _ rfl) (w 84 _ rfl) (by decide) (by decide)) e3 pb0_ (by rw [hml]; rfl) (rest := []) (lenOf pd19 rfl) rfl (Nat.le_of_eq rfl) (hb hby d30_16) rfl (by decide) (by decide) ?_
  intro T4 h4 v4 L4 X4 e4 hQ4
  obtain ⟨rfl, Nq4, K4⟩ := hQ4
  have N4 := Fk.app N3 Nq4 (Nat.le_refl _) all0
  rw [K4] at e4
  show Wp p e below _ _ T4 (mkF m 19 #[.val (.ref x), .val (.ref sb), .val .null, .val (.ref va), .val (.int cnt)] [(.int (1 : Int32))])
  refine Wk.ifNo X4 hx (hb hby d30_19) rfl ((if0 _ _).trans (feq (by decide : ¬ ((1 : Int32) = (0 : Int32)))).1) ?_
  refine Wk.aloadN X4 hx (hb hby d30_22) rfl rfl rfl ?_
  refine Wk.iconst X4 hx (v := (0 : Int32)) (hb hby d30_23) rfl rfl ?_
  refine Wk.putfieldN X4 hx hZ hown (w 36 _ rfl) Via.refl e4 (v' := (.int (0 : Int32))) hC hE (Or.inr ⟨(w 37 _ rfl), rfl, hnm⟩) (w 12 _ rfl) (ty := .byte) (by decide) rfl rfl (hb hby d30_24) rfl ?_
  intro T5 h5 L5 M5 X5 e5 W5 Fw5
  have N5 := M5 _ _ N4 (Or.inl (List.mem_of_getElem? (i := 0) rfl))
  have O6 : Old Z Z.heap.size h5 := O0.wr W5 hxz
  have f7 : Fld Z h5 x "java/lang/String" "value" "[B" .null := hV.other W5 (Or.inr (slot_ne (Or.inr (w 39 _ rfl)) (Or.inr (w 37 _ rfl)) (by decide) (t := (.array .byte)) (t' := .byte) (by decide) (by decide)))
  have E5' : Exa Z h5 x "java/lang/String" := hE.wr W5
  refine Wk.aloadN X5 hx (hb hby d30_27) rfl rfl rfl ?_
  refine Wk.aloadN X5 hx (hb hby d30_28) rfl rfl rfl ?_
  refine Wk.iconst X5 hx (v := (0 : Int32)) (hb hby d30_29) rfl rfl ?_
  refine Wk.iload X5 hx (hb hby d30_30) rfl rfl ?_
  have KK8 : Keep h0 h5 [x] := ((Keep.refl h0 [x]).wr W5 (Or.inl (List.mem_of_getElem? (i := 0) rfl)))
  have f9 : Exa Z h5 va "[B" := (pb4_.keep KK8)
  have f10 := (pb5_.keep KK8 (ninS (Exa.ne f9 E5' (by decide)) nin0))
  refine Wk.callS X5 hx hZ hown (w 189 _ rfl) (w 190 _ rfl) (w 191 _ rfl) (w 192 _ rfl) (by decide) (as' := [(.ref va), (.int (0 : Int32)), (.int cnt)]) (backOf (W := 1) (rm_cor l Z a0 hw [] va kv cap cnt vs bs h5 O6 f10 f9 hB) hZ (w 192 _ rfl) (w 191 _ rfl) (by decide) (by decide)) e5 (by rw [hml]; rfl) (rest := [(.ref x)]) (lenOf pd23 rfl) rfl (Nat.le_of_eq rfl) (hb hby d30_32) rfl (by decide) (by decide) ?_
  intro T11 h11 v11 L11 X11 e11 hQ11
  obtain ⟨t11, kb11, us11, rfl, Nq11, K11, q11_0, q11_1, q11_2⟩ := hQ11
  have N11 := Fk.app N5 Nq11 KK8.1 all0
  have O12 : Old Z Z.heap.size h11 := O6.keep K11 all0
  show Wp p e below _ _ T11 (mkF m 35 #[.val (.ref x), .val (.ref sb), .val .null, .val (.ref va), .val (.int cnt)] [(.ref t11), (.ref x)])
  have KK13 : Keep h5 h11 [] := ((Keep.refl h5 []).trans K11 all0)
  have f14 : Exa Z h11 x "java/lang/String" := (E5'.keep KK13)
  have f15 : Fld Z h11 x "java/lang/String" "value" "[B" .null := (f7.keep KK13 nin0)
  have f17 : Fld Z h11 x "java/lang/String" "coder" "B" (.int (0 : Int32)) := (Fw5.keep KK13 nin0)
  refine Wk.putfield X11 hx hZ hown (host := "") (Or.inl (w 38 _ rfl)) Via.refl e11 f15 f14 (Or.inr ⟨(w 39 _ rfl), rfl, hnm⟩) (w 12 _ rfl) (ty := (.array .byte)) (by decide) rfl rfl (hb hby d30_35) rfl ?_
  intro T16 h16 L16 M16 X16 e16 W16 Fw16
  have N16 := M16 _ _ N11 (Or.inl (List.mem_of_getElem? (i := 0) rfl))
  have O18 : Old Z Z.heap.size h16 := O12.wr W16 hxz
  have f19 : Fld Z h16 x "java/lang/String" "coder" "B" (.int (0 : Int32)) := f17.other W16 (Or.inr (slot_ne (Or.inr (w 37 _ rfl)) (Or.inr (w 39 _ rfl)) (by decide) (t := .byte) (t' := (.array .byte)) (by decide) (by decide)))
  have E16' : Exa Z h16 x "java/lang/String" := f14.wr W16
  refine Wk.goto X16 hx (hb hby d30_38) (by decide) (q := 97) rfl ?_
  have KK20 : Keep h0 h16 [x] := ((KK8.trans K11 all0).wr W16 (Or.inl (List.mem_of_getElem? (i := 0) rfl)))
  have KK21 : Keep h11 h16 [x] := ((Keep.refl h11 [x]).wr W16 (Or.inl (List.mem_of_getElem? (i := 0) rfl)))
  have f22 := (q11_1.keep KK21 (ninS (Ne.symm (Nat.ne_of_lt (Nat.lt_of_lt_of_le Fw5.lt q11_0))) nin0))
  exact Wk.ret0' X16 hx hlk hr (hb hby d30_97) (by decide) (by decide) (Qc := Q_rm_sas Z x sb va kv cap cnt vs bs G1 h0) e16 ⟨t11, kb11, us11, rfl, N16, KK20, (Nat.le_trans KK8.1 q11_0), E16', f19, Fw16, f22, q11_2⟩
theorem d29_0 : decode jdk_42_method_53_code 0 = .ok (.aload_n 0, 1) := by decide +kernel
theorem d29_1 : decode jdk_42_method_53_code 1 = .ok (.aload_n 1, 1) := by decide +kernel
theorem d29_2 : decode jdk_42_method_53_code 2 = .ok (.aconst_null, 1) := by decide +kernel
theorem d29_3 : decode jdk_42_method_53_code 3 = .ok (.invokespecial 489, 3) := by decide +kernel
theorem pd25 : parseMethodDescriptor "(Ljava/lang/AbstractStringBuilder;Ljava/lang/Void;)V" = some ⟨[(.object "java/lang/AbstractStringBuilder"), (.object "java/lang/Void")], none⟩ := by decide +kernel
theorem d29_6 : decode jdk_42_method_53_code 6 = .ok (.return_, 1) := by decide +kernel
def Q_rm_ssb (Z : State) (x : Addr) (sb : Addr) (va : Addr) (kv : ClassId) (cap : Int32) (cnt : Int32) (vs : List Value) (bs : List Int32) (G1 : Int32) (h0 : Heap) (v : Option Value) (h : Heap) (L : List Loc) : Prop := ∃ t : Addr, ∃ kb : ClassId, ∃ us : List Value, v = none ∧ Fk h0.size [x] L ∧ Keep h0 h [x] ∧ h0.size ≤ t ∧ Exa Z h x "java/lang/String" ∧ Fld Z h x "java/lang/String" "coder" "B" (.int (0 : Int32)) ∧ Fld Z h x "java/lang/String" "value" "[B" (.ref t) ∧ Arv Z h t kb .byte cnt us (.int (0 : Int32)) ∧ Str us cnt bs
set_option maxRecDepth 65536 in
set_option maxHeartbeats 40000000 in
theorem rm_ssb (l : Launch) (Z : State) (a0 : Array Value) (hw : ∀ d ∈ tables_1, d.before a0 Z = true) (ws : List Jvm.Cond) (x : Addr) (sb : Addr) (va : Addr) (kv : ClassId) (cap : Int32) (cnt : Int32) (vs : List Value) (bs : List Int32) (G1 : Int32) (h0 : Heap) (O0 : Old Z Z.heap.size h0) (SG1 : Sta Z Z.heap "java/lang/String" "COMPACT_STRINGS" "Z" (.int G1)) (nG1 : ¬ G1 = 0) (hE : Exa Z h0 x "java/lang/String") (hV : Fld Z h0 x "java/lang/String" "value" "[B" .null) (hC : Fld Z h0 x "java/lang/String" "coder" "B" (.int (0 : Int32))) (hxz : Z.heap.size ≤ x) (pb0_ : Exa Z h0 sb "java/lang/StringBuilder") (pb1_ : Fld Z h0 sb "java/lang/AbstractStringBuilder" "value" "[B" (.ref va)) (pb2_ : Fld Z h0 sb "java/lang/AbstractStringBuilder" "coder" "B" (.int (0 : Int32))) (pb3_ : Fld Z h0 sb "java/lang/AbstractStringBuilder" "count" "I" (.int cnt)) (pb4_ : Exa Z h0 va "[B") (pb5_ : Arv Z h0 va kv .byte cap vs (.int (0 : Int32))) (hB : Buf vs cnt cap bs) :
    Ctr l Z (⟨"java/lang/String", "<init>", "(Ljava/lang/StringBuilder;)V"⟩ : MethodName) jdk_42_method_53_code 2 none ws ({ frames := 4, cells := 1, slots := 34, locals := 65 } : Room) #[(.ref x), (.ref sb)] h0 (Q_rm_ssb Z x sb va kv cap cnt vs bs G1 h0) := by
  refine Ctr.intro (Ls := fun _ => #[.val (.ref x), .val (.ref sb)]) (plainFor_of_name pn0) (fun m => by first | rfl | (simp [entryFrame, mkF, argsToLocals, Value.category]; done)) ?_
  intro p e s m below meth c s₁ hx hby hml hr hlk hZ hown hnm hs0 X0 e0
  have w : ∀ (k : Nat) (d : Jvm.Cond), tables_1[k]? = some d → d.before a0 Z = true := fun k d q => hw d (List.mem_of_getElem? q)
  have N0 := Fk.nil h0.size [x]
  refine Wk.aloadN X0 hx (hb hby d29_0) rfl rfl rfl ?_
  refine Wk.aloadN X0 hx (hb hby d29_1) rfl rfl rfl ?_
  refine Wk.aconstNull X0 hx (hb hby d29_2) rfl ?_
  refine Wk.callI X0 hx hZ rfl hown (w 172 _ rfl) (w 173 _ rfl) (w 174 _ rfl) (by decide) (as' := [(.ref sb), .null]) (backOf (W := 0) (rm_sas l Z a0 hw [] x sb va kv cap cnt vs bs G1 h0 O0 SG1 nG1 hE hV hC hxz pb0_ pb1_ pb2_ pb3_ pb4_ pb5_ hB) hZ (w 174 _ rfl) (w 13 _ rfl) (by decide) (by decide)) e0 (by rw [hml]; rfl) (rest := []) (lenOf pd25 rfl) rfl (Nat.le_of_eq rfl) (hb hby d29_3) rfl (by decide) (by decide) ?_
  intro T1 h1 v1 L1 X1 e1 hQ1
  obtain ⟨t1, kb1, us1, rfl, Nq1, K1, q1_0, q1_1, q1_2, q1_3, q1_4, q1_5⟩ := hQ1
  have N1 := Fk.app N0 Nq1 (Nat.le_refl _) (allS (Or.inl (List.mem_of_getElem? (i := 0) rfl)) all0)
  have O2 : Old Z Z.heap.size h1 := O0.keep K1 (allS hxz all0)
  show Wp p e below _ _ T1 (mkF m 6 #[.val (.ref x), .val (.ref sb)] [])
  have KK3 : Keep h0 h1 [x] := ((Keep.refl h0 [x]).trans K1 (allS (Or.inl (List.mem_of_getElem? (i := 0) rfl)) all0))
  exact Wk.ret0' X1 hx hlk hr (hb hby d29_6) (by decide) (by decide) (Qc := Q_rm_ssb Z x sb va kv cap cnt vs bs G1 h0) e1 ⟨t1, kb1, us1, rfl, N1, KK3, q1_0, q1_1, q1_2, q1_3, q1_4, q1_5⟩
theorem d28_0 : decode jdk_67_method_42_code 0 = .ok (.new 18, 3) := by decide +kernel
theorem d28_3 : decode jdk_67_method_42_code 3 = .ok (.dup, 1) := by decide +kernel
theorem d28_4 : decode jdk_67_method_42_code 4 = .ok (.aload_n 0, 1) := by decide +kernel
theorem d28_5 : decode jdk_67_method_42_code 5 = .ok (.invokespecial 137, 3) := by decide +kernel
theorem pd26 : parseMethodDescriptor "(Ljava/lang/StringBuilder;)V" = some ⟨[(.object "java/lang/StringBuilder")], none⟩ := by decide +kernel
theorem d28_8 : decode jdk_67_method_42_code 8 = .ok (.areturn, 1) := by decide +kernel
def Q_rm_tos (Z : State) (sb : Addr) (va : Addr) (kv : ClassId) (cap : Int32) (cnt : Int32) (vs : List Value) (bs : List Int32) (G1 : Int32) (h0 : Heap) (v : Option Value) (h : Heap) (L : List Loc) : Prop := ∃ x : Addr, ∃ t : Addr, ∃ kb : ClassId, ∃ us : List Value, v = some (.ref x) ∧ Fk h0.size [] L ∧ Keep h0 h [] ∧ h0.size ≤ x ∧ h0.size ≤ t ∧ Exa Z h x "java/lang/String" ∧ Fld Z h x "java/lang/String" "coder" "B" (.int (0 : Int32)) ∧ Fld Z h x "java/lang/String" "value" "[B" (.ref t) ∧ Arv Z h t kb .byte cnt us (.int (0 : Int32)) ∧ Str us cnt bs
set_option maxRecDepth 65536 in
set_option maxHeartbeats 40000000 in
theorem rm_tos (l : Launch) (Z : State) (a0 : Array Value) (hw : ∀ d ∈ tables_1, d.before a0 Z = true) (ws : List Jvm.Cond) (sb : Addr) (va : Addr) (kv : ClassId) (cap : Int32) (cnt : Int32) (vs : List Value) (bs : List Int32) (G1 : Int32) (h0 : Heap) (O0 : Old Z Z.heap.size h0) (SG1 : Sta Z Z.heap "java/lang/String" "COMPACT_STRINGS" "Z" (.int G1)) (nG1 : ¬ G1 = 0) (pb0_ : Exa Z h0 sb "java/lang/StringBuilder") (pb1_ : Fld Z h0 sb "java/lang/AbstractStringBuilder" "value" "[B" (.ref va)) (pb2_ : Fld Z h0 sb "java/lang/AbstractStringBuilder" "coder" "B" (.int (0 : Int32))) (pb3_ : Fld Z h0 sb "java/lang/AbstractStringBuilder" "count" "I" (.int cnt)) (pb4_ : Exa Z h0 va "[B") (pb5_ : Arv Z h0 va kv .byte cap vs (.int (0 : Int32))) (hB : Buf vs cnt cap bs) :
    Ctr l Z (⟨"java/lang/StringBuilder", "toString", "()Ljava/lang/String;"⟩ : MethodName) jdk_67_method_42_code 1 (some (.object "java/lang/String")) ws ({ frames := 5, cells := 2, slots := 38, locals := 79 } : Room) #[(.ref sb)] h0 (Q_rm_tos Z sb va kv cap cnt vs bs G1 h0) := by
  refine Ctr.intro (Ls := fun _ => #[.val (.ref sb)]) (plainFor_of_name pn3) (fun m => by first | rfl | (simp [entryFrame, mkF, argsToLocals, Value.category]; done)) ?_
  intro p e s m below meth c s₁ hx hby hml hr hlk hZ hown hnm hs0 X0 e0
  have w : ∀ (k : Nat) (d : Jvm.Cond), tables_1[k]? = some d → d.before a0 Z = true := fun k d q => hw d (List.mem_of_getElem? q)
  have N0 := Fk.nil h0.size []
  refine Wk.new X0 hx hZ hown (w 168 _ rfl) (w 12 _ rfl) (w 13 _ rfl) e0 (hb hby d28_0) rfl (by decide) (by decide) ?_
  intro T1 h1 a1 g1 X1 e1 E1 A1 D1
  have O2 : Old Z Z.heap.size h1 := O0.ext E1
  have f3 : Fld Z h1 a1 "java/lang/String" "coder" "B" (.int (0 : Int32)) := D1 (Or.inr (w 37 _ rfl)) (ty := .byte) (by decide)
  have f4 : Fld Z h1 a1 "java/lang/String" "value" "[B" .null := D1 (Or.inr (w 39 _ rfl)) (ty := (.array .byte)) (by decide)
  refine Wk.dup X1 hx (hb hby d28_3) rfl rfl ?_
  refine Wk.aloadN X1 hx (hb hby d28_4) rfl rfl rfl ?_
  have KK5 : Keep h0 h1 [] := ((Keep.refl h0 []).ext E1)
  have f6 : Exa Z h1 sb "java/lang/StringBuilder" := (pb0_.keep KK5)
  have f7 : Fld Z h1 sb "java/lang/AbstractStringBuilder" "value" "[B" (.ref va) := (pb1_.keep KK5 nin0)
  have f8 : Fld Z h1 sb "java/lang/AbstractStringBuilder" "coder" "B" (.int (0 : Int32)) := (pb2_.keep KK5 nin0)
  have f9 : Fld Z h1 sb "java/lang/AbstractStringBuilder" "count" "I" (.int cnt) := (pb3_.keep KK5 nin0)
  have f10 : Exa Z h1 va "[B" := (pb4_.keep KK5)
  have f11 := (pb5_.keep KK5 nin0)
  refine Wk.callI X1 hx hZ rfl hown (w 169 _ rfl) (w 170 _ rfl) (w 171 _ rfl) (by decide) (as' := [(.ref sb)]) (backOf (W := 1) (rm_ssb l Z a0 hw [] a1 sb va kv cap cnt vs bs G1 h1 O2 SG1 nG1 A1 f4 f3 (Nat.le_trans (Nat.le_trans (Nat.le_trans (Nat.le_of_eq O0.1.symm) O0.2.1) (Keep.refl h0 []).1) (Nat.le_of_eq g1)) f6 f7 f8 f9 f10 f11 hB) hZ (w 171 _ rfl) (w 13 _ rfl) (by decide) (by decide)) e1 (by rw [hml]; rfl) (rest := [(.ref a1)]) (lenOf pd26 rfl) rfl (Nat.le_of_eq rfl) (hb hby d28_5) rfl (by decide) (by decide) ?_
  intro T12 h12 v12 L12 X12 e12 hQ12
  obtain ⟨t12, kb12, us12, rfl, Nq12, K12, q12_0, q12_1, q12_2, q12_3, q12_4, q12_5⟩ := hQ12
  have N12 := Fk.app N0 Nq12 KK5.1 (allS (Or.inr (Nat.le_of_eq g1)) all0)
  have O13 : Old Z Z.heap.size h12 := O2.keep K12 (allS (Nat.le_trans (Nat.le_trans (Nat.le_trans (Nat.le_of_eq O0.1.symm) O0.2.1) (Keep.refl h0 []).1) (Nat.le_of_eq g1)) all0)
  show Wp p e below _ _ T12 (mkF m 8 #[.val (.ref sb)] [(.ref a1)])
  have KK14 : Keep h0 h12 [] := (KK5.trans K12 (allS (Or.inr (Nat.le_of_eq g1)) all0))
  exact Wk.retA' X12 hx hlk hr rfl rfl (hb hby d28_8) (by decide) (by decide) (Qc := Q_rm_tos Z sb va kv cap cnt vs bs G1 h0) e12 ⟨a1, t12, kb12, us12, rfl, N12, KK14, (Nat.le_of_eq g1), (Nat.le_trans KK5.1 q12_0), q12_1, q12_2, q12_3, q12_4, q12_5⟩
theorem d41_0 : decode jdk_42_method_154_code 0 = .ok (.getstatic 38, 3) := by decide +kernel
theorem d41_3 : decode jdk_42_method_154_code 3 = .ok (.ifCond .eq 14, 3) := by decide +kernel
theorem d41_6 : decode jdk_42_method_154_code 6 = .ok (.aload_n 0, 1) := by decide +kernel
theorem d41_7 : decode jdk_42_method_154_code 7 = .ok (.getfield 15, 3) := by decide +kernel
theorem d41_10 : decode jdk_42_method_154_code 10 = .ok (.ifCond .ne 7, 3) := by decide +kernel
theorem d41_13 : decode jdk_42_method_154_code 13 = .ok (.iconst 1, 1) := by decide +kernel
theorem d41_14 : decode jdk_42_method_154_code 14 = .ok (.goto 4, 3) := by decide +kernel
theorem d41_18 : decode jdk_42_method_154_code 18 = .ok (.ireturn, 1) := by decide +kernel
def Q_rm_isl (Z : State) (x : Addr) (G1 : Int32) (h0 : Heap) (v : Option Value) (h : Heap) (L : List Loc) : Prop := v = some (.int (1 : Int32)) ∧ Fk h0.size [] L ∧ h = h0
set_option maxRecDepth 65536 in
set_option maxHeartbeats 40000000 in
theorem rm_isl (l : Launch) (Z : State) (a0 : Array Value) (hw : ∀ d ∈ tables_1, d.before a0 Z = true) (ws : List Jvm.Cond) (x : Addr) (G1 : Int32) (h0 : Heap) (O0 : Old Z Z.heap.size h0) (SG1 : Sta Z Z.heap "java/lang/String" "COMPACT_STRINGS" "Z" (.int G1)) (nG1 : ¬ G1 = 0) (pC : Fld Z h0 x "java/lang/String" "coder" "B" (.int (0 : Int32))) :
    Ctr l Z (⟨"java/lang/String", "isLatin1", "()Z"⟩ : MethodName) jdk_42_method_154_code 1 (some .boolean) ws ({ frames := 0, cells := 0, slots := 0, locals := 0 } : Room) #[(.ref x)] h0 (Q_rm_isl Z x G1 h0) := by
  refine Ctr.intro (Ls := fun _ => #[.val (.ref x)]) (plainFor_of_name pn0) (fun m => by first | rfl | (simp [entryFrame, mkF, argsToLocals, Value.category]; done)) ?_
  intro p e s m below meth c s₁ hx hby hml hr hlk hZ hown hnm hs0 X0 e0
  have w : ∀ (k : Nat) (d : Jvm.Cond), tables_1[k]? = some d → d.before a0 Z = true := fun k d q => hw d (List.mem_of_getElem? q)
  have N0 := Fk.nil h0.size []
  refine Wk.getstatic X0 hx hZ hown (host := "") (Or.inl (w 24 _ rfl)) Via.refl e0 (SG1.ext O0.2) (hb hby d41_0) rfl ?_
  intro T1 X1 e1
  refine Wk.ifNo X1 hx (hb hby d41_3) rfl ((if0 _ _).trans (feq nG1).1) ?_
  refine Wk.aloadN X1 hx (hb hby d41_6) rfl rfl rfl ?_
  refine Wk.getfield X1 hx hZ hown (host := "") (Or.inl (w 36 _ rfl)) Via.refl e1 pC (hb hby d41_7) rfl ?_
  intro T2 X2 e2
  refine Wk.ifNo X2 hx (hb hby d41_10) rfl ((if0 _ _).trans (teq (by decide : (0 : Int32) = (0 : Int32))).2) ?_
  refine Wk.iconst X2 hx (v := (1 : Int32)) (hb hby d41_13) rfl rfl ?_
  refine Wk.goto X2 hx (hb hby d41_14) (by decide) (q := 18) rfl ?_
  exact Wk.retZ' X2 hx hlk hr (by simp) (hb hby d41_18) (by decide) (by decide) (Qc := Q_rm_isl Z x G1 h0) e2 ⟨rfl, N0, rfl⟩
theorem pn27 : plainName "jdk/internal/util/Preconditions" = true := by first | (simp [plainName, overriddenIn]; done) | decide +kernel
theorem d44_0 : decode jdk_41_method_11_code 0 = .ok (.iload_n 0, 1) := by decide +kernel
theorem d44_1 : decode jdk_41_method_11_code 1 = .ok (.ifCond .lt 8, 3) := by decide +kernel
theorem d44_4 : decode jdk_41_method_11_code 4 = .ok (.iload_n 0, 1) := by decide +kernel
theorem d44_5 : decode jdk_41_method_11_code 5 = .ok (.iload_n 1, 1) := by decide +kernel
theorem d44_6 : decode jdk_41_method_11_code 6 = .ok (.if_icmp .lt 10, 3) := by decide +kernel
theorem d44_16 : decode jdk_41_method_11_code 16 = .ok (.iload_n 0, 1) := by decide +kernel
theorem d44_17 : decode jdk_41_method_11_code 17 = .ok (.ireturn, 1) := by decide +kernel
def Q_rm_pci (Z : State) (ix : Int32) (nn : Int32) (u : Value) (h0 : Heap) (v : Option Value) (h : Heap) (L : List Loc) : Prop := v = some (.int ix) ∧ Fk h0.size [] L ∧ h = h0
set_option maxRecDepth 65536 in
set_option maxHeartbeats 40000000 in
theorem rm_pci (l : Launch) (Z : State) (a0 : Array Value) (hw : ∀ d ∈ tables_1, d.before a0 Z = true) (ws : List Jvm.Cond) (ix : Int32) (nn : Int32) (u : Value) (h0 : Heap) (O0 : Old Z Z.heap.size h0) (ru : u.isRef = true) (i0_ : ¬ ix < 0) (i1_ : ix < nn) :
    Ctr l Z (⟨"jdk/internal/util/Preconditions", "checkIndex", "(IILjava/util/function/BiFunction;)I"⟩ : MethodName) jdk_41_method_11_code 3 (some .int) ws ({ frames := 0, cells := 0, slots := 0, locals := 0 } : Room) #[(.int ix), (.int nn), u] h0 (Q_rm_pci Z ix nn u h0) := by
  refine Ctr.intro (Ls := fun _ => #[.val (.int ix), .val (.int nn), .val u]) (plainFor_of_name pn27) (fun m => by first | rfl | (simp [entryFrame, mkF, argsToLocals, Value.category]; done) | (rcases ref_cases ru with rfl | ⟨_, rfl⟩ <;> rfl)) ?_
  intro p e s m below meth c s₁ hx hby hml hr hlk hZ hown hnm hs0 X0 e0
  have w : ∀ (k : Nat) (d : Jvm.Cond), tables_1[k]? = some d → d.before a0 Z = true := fun k d q => hw d (List.mem_of_getElem? q)
  have N0 := Fk.nil h0.size []
  refine Wk.iloadN X0 hx (hb hby d44_0) rfl rfl ?_
  refine Wk.ifNo X0 hx (hb hby d44_1) rfl ((if0 _ _).trans (flt i0_).1) ?_
  refine Wk.iloadN X0 hx (hb hby d44_4) rfl rfl ?_
  refine Wk.iloadN X0 hx (hb hby d44_5) rfl rfl ?_
  refine Wk.icmpYes X0 hx (hb hby d44_6) (by decide) (q := 16) rfl (tlt i1_).1 ?_
  refine Wk.iloadN X0 hx (hb hby d44_16) rfl rfl ?_
  exact Wk.retI' X0 hx hlk hr (hb hby d44_17) (by decide) (by decide) (Qc := Q_rm_pci Z ix nn u h0) e0 ⟨rfl, N0, rfl⟩
theorem d43_0 : decode jdk_42_method_155_code 0 = .ok (.iload_n 0, 1) := by decide +kernel
theorem d43_1 : decode jdk_42_method_155_code 1 = .ok (.iload_n 1, 1) := by decide +kernel
theorem d43_2 : decode jdk_42_method_155_code 2 = .ok (.getstatic 1053, 3) := by decide +kernel
theorem d43_5 : decode jdk_42_method_155_code 5 = .ok (.invokestatic 1059, 3) := by decide +kernel
theorem pd28 : parseMethodDescriptor "(IILjava/util/function/BiFunction;)I" = some ⟨[.int, .int, (.object "java/util/function/BiFunction")], some .int⟩ := by decide +kernel
theorem d43_8 : decode jdk_42_method_155_code 8 = .ok (.pop, 1) := by decide +kernel
theorem d43_9 : decode jdk_42_method_155_code 9 = .ok (.return_, 1) := by decide +kernel
def Q_rm_sci (Z : State) (ix : Int32) (nn : Int32) (G3 : Value) (h0 : Heap) (v : Option Value) (h : Heap) (L : List Loc) : Prop := v = none ∧ Fk h0.size [] L ∧ h = h0
set_option maxRecDepth 65536 in
set_option maxHeartbeats 40000000 in
theorem rm_sci (l : Launch) (Z : State) (a0 : Array Value) (hw : ∀ d ∈ tables_1, d.before a0 Z = true) (ws : List Jvm.Cond) (ix : Int32) (nn : Int32) (G3 : Value) (h0 : Heap) (O0 : Old Z Z.heap.size h0) (rG3 : G3.isRef = true) (SG3 : Sta Z Z.heap "jdk/internal/util/Preconditions" "SIOOBE_FORMATTER" "Ljava/util/function/BiFunction;" G3) (i0_ : ¬ ix < 0) (i1_ : ix < nn) :
    Ctr l Z (⟨"java/lang/String", "checkIndex", "(II)V"⟩ : MethodName) jdk_42_method_155_code 2 none ws ({ frames := 1, cells := 0, slots := 0, locals := 14 } : Room) #[(.int ix), (.int nn)] h0 (Q_rm_sci Z ix nn G3 h0) := by
  refine Ctr.intro (Ls := fun _ => #[.val (.int ix), .val (.int nn)]) (plainFor_of_name pn0) (fun m => by first | rfl | (simp [entryFrame, mkF, argsToLocals, Value.category]; done)) ?_
  intro p e s m below meth c s₁ hx hby hml hr hlk hZ hown hnm hs0 X0 e0
  have w : ∀ (k : Nat) (d : Jvm.Cond), tables_1[k]? = some d → d.before a0 Z = true := fun k d q => hw d (List.mem_of_getElem? q)
  have N0 := Fk.nil h0.size []
  refine Wk.iloadN X0 hx (hb hby d43_0) rfl rfl ?_
  refine Wk.iloadN X0 hx (hb hby d43_1) rfl rfl ?_
  refine Wk.getstatic X0 hx hZ hown (host := "") (Or.inl (w 230 _ rfl)) Via.refl e0 (SG3.ext O0.2) (hb hby d43_2) rfl ?_
  intro T1 X1 e1
  refine Wk.callS X1 hx hZ hown (w 232 _ rfl) (w 233 _ rfl) (w 231 _ rfl) (w 234 _ rfl) (by decide) (as' := [(.int ix), (.int nn), G3]) (backOf (W := 0) (rm_pci l Z a0 hw [] ix nn G3 h0 O0 rG3 i0_ i1_) hZ (w 234 _ rfl) (w 231 _ rfl) (by decide) (by decide)) e1 (by rw [hml]; rfl) (rest := []) (lenOf pd28 rfl) rfl (Nat.le_of_eq rfl) (hb hby d43_5) rfl (by decide) (by decide) ?_
  intro T2 h2 v2 L2 X2 e2 hQ2
  obtain ⟨rfl, Nq2, K2⟩ := hQ2
  have N2 := Fk.app N0 Nq2 (Nat.le_refl _) all0
  rw [K2] at e2
  show Wp p e below _ _ T2 (mkF m 8 #[.val (.int ix), .val (.int nn)] [(.int ix)])
  refine Wk.pop X2 hx (hb hby d43_8) rfl rfl ?_
  exact Wk.ret0' X2 hx hlk hr (hb hby d43_9) (by decide) (by decide) (Qc := Q_rm_sci Z ix nn G3 h0) e2 ⟨rfl, N2, rfl⟩
theorem pn29 : plainName "java/lang/StringLatin1" = true := by first | (simp [plainName, overriddenIn]; done) | decide +kernel
theorem d42_0 : decode jdk_43_method_2_code 0 = .ok (.iload_n 1, 1) := by decide +kernel
theorem d42_1 : decode jdk_43_method_2_code 1 = .ok (.aload_n 0, 1) := by decide +kernel
theorem d42_2 : decode jdk_43_method_2_code 2 = .ok (.arraylength, 1) := by decide +kernel
theorem d42_3 : decode jdk_43_method_2_code 3 = .ok (.invokestatic 9, 3) := by decide +kernel
theorem d42_6 : decode jdk_43_method_2_code 6 = .ok (.aload_n 0, 1) := by decide +kernel
theorem d42_7 : decode jdk_43_method_2_code 7 = .ok (.iload_n 1, 1) := by decide +kernel
theorem d42_8 : decode jdk_43_method_2_code 8 = .ok (.baload, 1) := by decide +kernel
theorem d42_9 : decode jdk_43_method_2_code 9 = .ok (.sipush 255, 3) := by decide +kernel
theorem d42_12 : decode jdk_43_method_2_code 12 = .ok (.iand, 1) := by decide +kernel
theorem d42_13 : decode jdk_43_method_2_code 13 = .ok (.i2c, 1) := by decide +kernel
theorem d42_14 : decode jdk_43_method_2_code 14 = .ok (.ireturn, 1) := by decide +kernel
def Q_rm_lca (Z : State) (t : Addr) (ix : Int32) (kb : ClassId) (nn : Int32) (us : List Value) (cc : Int32) (G3 : Value) (h0 : Heap) (v : Option Value) (h : Heap) (L : List Loc) : Prop := v = some (.int cc) ∧ Fk h0.size [] L ∧ h = h0
set_option maxRecDepth 65536 in
set_option maxHeartbeats 40000000 in
theorem rm_lca (l : Launch) (Z : State) (a0 : Array Value) (hw : ∀ d ∈ tables_1, d.before a0 Z = true) (ws : List Jvm.Cond) (t : Addr) (ix : Int32) (kb : ClassId) (nn : Int32) (us : List Value) (cc : Int32) (G3 : Value) (h0 : Heap) (O0 : Old Z Z.heap.size h0) (rG3 : G3.isRef = true) (SG3 : Sta Z Z.heap "jdk/internal/util/Preconditions" "SIOOBE_FORMATTER" "Ljava/util/function/BiFunction;" G3) (pA : Arv Z h0 t kb .byte nn us (.int (0 : Int32))) (i0_ : ¬ ix < 0) (i1_ : ix < nn) (hge : us.getD ix.toNatClampNeg (.int (0 : Int32)) = .int cc.toInt8.toInt32) (hLc : Lat cc) :
    Ctr l Z (⟨"java/lang/StringLatin1", "charAt", "([BI)C"⟩ : MethodName) jdk_43_method_2_code 2 (some .char) ws ({ frames := 2, cells := 0, slots := 0, locals := 27 } : Room) #[(.ref t), (.int ix)] h0 (Q_rm_lca Z t ix kb nn us cc G3 h0) := by
  refine Ctr.intro (Ls := fun _ => #[.val (.ref t), .val (.int ix)]) (plainFor_of_name pn29) (fun m => by first | rfl | (simp [entryFrame, mkF, argsToLocals, Value.category]; done)) ?_
  intro p e s m below meth c s₁ hx hby hml hr hlk hZ hown hnm hs0 X0 e0
  have w : ∀ (k : Nat) (d : Jvm.Cond), tables_1[k]? = some d → d.before a0 Z = true := fun k d q => hw d (List.mem_of_getElem? q)
  have N0 := Fk.nil h0.size []
  refine Wk.iloadN X0 hx (hb hby d42_0) rfl rfl ?_
  refine Wk.aloadN X0 hx (hb hby d42_1) rfl rfl rfl ?_
  refine Wk.arraylength X0 hx hZ e0 pA (hb hby d42_2) rfl ?_
  refine Wk.callS X0 hx hZ hown (w 227 _ rfl) (w 228 _ rfl) (w 13 _ rfl) (w 229 _ rfl) (by decide) (as' := [(.int ix), (.int nn)]) (backOf (W := 0) (rm_sci l Z a0 hw [] ix nn G3 h0 O0 rG3 SG3 i0_ i1_) hZ (w 229 _ rfl) (w 13 _ rfl) (by decide) (by decide)) e0 (by rw [hml]; rfl) (rest := []) (lenOf pd22 rfl) rfl (Nat.le_of_eq rfl) (hb hby d42_3) rfl (by decide) (by decide) ?_
  intro T1 h1 v1 L1 X1 e1 hQ1
  obtain ⟨rfl, Nq1, K1⟩ := hQ1
  have N1 := Fk.app N0 Nq1 (Nat.le_refl _) all0
  rw [K1] at e1
  show Wp p e below _ _ T1 (mkF m 6 #[.val (.ref t), .val (.int ix)] [])
  refine Wk.aloadN X1 hx (hb hby d42_6) rfl rfl rfl ?_
  refine Wk.iloadN X1 hx (hb hby d42_7) rfl rfl ?_
  refine Wk.baload X1 hx hZ e1 pA i0_ i1_ (v := cc.toInt8.toInt32) hge (hb hby d42_8) rfl ?_
  refine Wk.sipush X1 hx (v := (255 : Int32)) (hb hby d42_9) rfl rfl ?_
  refine Wk.iand X1 hx (hb hby d42_12) rfl ?_
  refine Wk.i2c X1 hx (hb hby d42_13) rfl ?_
  intro c2 hc2
  have Lc2 : Lat c2 := lat255 hc2
  obtain rfl : cc = c2 := own_latb hLc hc2
  exact Wk.retZ' X1 hx hlk hr (by simp) (hb hby d42_14) (by decide) (by decide) (Qc := Q_rm_lca Z t ix kb nn us cc G3 h0) e1 ⟨(congrArg (fun q => some (Value.int q)) (narC hLc.chr)), N1, rfl⟩
theorem d40_0 : decode jdk_42_method_56_code 0 = .ok (.aload_n 0, 1) := by decide +kernel
theorem d40_1 : decode jdk_42_method_56_code 1 = .ok (.invokevirtual 492, 3) := by decide +kernel
theorem d40_4 : decode jdk_42_method_56_code 4 = .ok (.ifCond .eq 12, 3) := by decide +kernel
theorem d40_7 : decode jdk_42_method_56_code 7 = .ok (.aload_n 0, 1) := by decide +kernel
theorem d40_8 : decode jdk_42_method_56_code 8 = .ok (.getfield 9, 3) := by decide +kernel
theorem d40_11 : decode jdk_42_method_56_code 11 = .ok (.iload_n 1, 1) := by decide +kernel
theorem d40_12 : decode jdk_42_method_56_code 12 = .ok (.invokestatic 495, 3) := by decide +kernel
theorem pd30 : parseMethodDescriptor "([BI)C" = some ⟨[(.array .byte), .int], some .char⟩ := by decide +kernel
theorem d40_15 : decode jdk_42_method_56_code 15 = .ok (.ireturn, 1) := by decide +kernel
def Q_rm_cha (Z : State) (x : Addr) (t : Addr) (G1 : Int32) (ix : Int32) (kb : ClassId) (nn : Int32) (us : List Value) (cc : Int32) (G3 : Value) (h0 : Heap) (v : Option Value) (h : Heap) (L : List Loc) : Prop := v = some (.int cc) ∧ Fk h0.size [] L ∧ h = h0
set_option maxRecDepth 65536 in
set_option maxHeartbeats 40000000 in
theorem rm_cha (l : Launch) (Z : State) (a0 : Array Value) (hw : ∀ d ∈ tables_1, d.before a0 Z = true) (ws : List Jvm.Cond) (x : Addr) (t : Addr) (G1 : Int32) (ix : Int32) (kb : ClassId) (nn : Int32) (us : List Value) (cc : Int32) (G3 : Value) (h0 : Heap) (O0 : Old Z Z.heap.size h0) (SG1 : Sta Z Z.heap "java/lang/String" "COMPACT_STRINGS" "Z" (.int G1)) (nG1 : ¬ G1 = 0) (rG3 : G3.isRef = true) (SG3 : Sta Z Z.heap "jdk/internal/util/Preconditions" "SIOOBE_FORMATTER" "Ljava/util/function/BiFunction;" G3) (pp0_ : Exa Z h0 x "java/lang/String") (pp1_ : Fld Z h0 x "java/lang/String" "coder" "B" (.int (0 : Int32))) (pp2_ : Fld Z h0 x "java/lang/String" "value" "[B" (.ref t)) (pp3_ : Arv Z h0 t kb .byte nn us (.int (0 : Int32))) (i0_ : ¬ ix < 0) (i1_ : ix < nn) (hge : us.getD ix.toNatClampNeg (.int (0 : Int32)) = .int cc.toInt8.toInt32) (hLc : Lat cc) :
    Ctr l Z (⟨"java/lang/String", "charAt", "(I)C"⟩ : MethodName) jdk_42_method_56_code 2 (some .char) ws ({ frames := 3, cells := 0, slots := 0, locals := 40 } : Room) #[(.ref x), (.int ix)] h0 (Q_rm_cha Z x t G1 ix kb nn us cc G3 h0) := by
  refine Ctr.intro (Ls := fun _ => #[.val (.ref x), .val (.int ix)]) (plainFor_of_name pn0) (fun m => by first | rfl | (simp [entryFrame, mkF, argsToLocals, Value.category]; done)) ?_
  intro p e s m below meth c s₁ hx hby hml hr hlk hZ hown hnm hs0 X0 e0
  have w : ∀ (k : Nat) (d : Jvm.Cond), tables_1[k]? = some d → d.before a0 Z = true := fun k d q => hw d (List.mem_of_getElem? q)
  have N0 := Fk.nil h0.size []
  refine Wk.aloadN X0 hx (hb hby d40_0) rfl rfl rfl ?_
  refine Wk.callV X0 hx hZ (y := (⟨"java/lang/String", "isLatin1", "()Z"⟩ : MethodName)) (z := (⟨"java/lang/String", "isLatin1", "()Z"⟩ : MethodName)) hown (w 218 _ rfl) (w 219 _ rfl) (notFace_of_selects (args := #[]) (mvT hZ (w 221 _ rfl))) (w 221 _ rfl) (w 220 _ rfl) (by decide) (as' := []) (backOf (W := 0) (rm_isl l Z a0 hw [] x G1 h0 O0 SG1 nG1 pp1_) hZ (w 222 _ rfl) (w 13 _ rfl) (by decide) (by decide)) e0 pp0_ (by rw [hml]; rfl) (rest := []) (lenOf pd19 rfl) rfl (Nat.le_of_eq rfl) (hb hby d40_1) rfl (by decide) (by decide) ?_
  intro T1 h1 v1 L1 X1 e1 hQ1
  obtain ⟨rfl, Nq1, K1⟩ := hQ1
  have N1 := Fk.app N0 Nq1 (Nat.le_refl _) all0
  rw [K1] at e1
  show Wp p e below _ _ T1 (mkF m 4 #[.val (.ref x), .val (.int ix)] [(.int (1 : Int32))])
  refine Wk.ifNo X1 hx (hb hby d40_4) rfl ((if0 _ _).trans (feq (by decide : ¬ ((1 : Int32) = (0 : Int32)))).1) ?_
  refine Wk.aloadN X1 hx (hb hby d40_7) rfl rfl rfl ?_
  refine Wk.getfield X1 hx hZ hown (host := "") (Or.inl (w 38 _ rfl)) Via.refl e1 pp2_ (hb hby d40_8) rfl ?_
  intro T2 X2 e2
  refine Wk.iloadN X2 hx (hb hby d40_11) rfl rfl ?_
  refine Wk.callS X2 hx hZ hown (w 223 _ rfl) (w 224 _ rfl) (w 225 _ rfl) (w 226 _ rfl) (by decide) (as' := [(.ref t), (.int ix)]) (backOf (W := 0) (rm_lca l Z a0 hw [] t ix kb nn us cc G3 h0 O0 rG3 SG3 pp3_ i0_ i1_ hge hLc) hZ (w 226 _ rfl) (w 225 _ rfl) (by decide) (by decide)) e2 (by rw [hml]; rfl) (rest := []) (lenOf pd30 rfl) rfl (Nat.le_of_eq rfl) (hb hby d40_12) rfl (by decide) (by decide) ?_
  intro T3 h3 v3 L3 X3 e3 hQ3
  obtain ⟨rfl, Nq3, K3⟩ := hQ3
  have N3 := Fk.app N1 Nq3 (Nat.le_refl _) all0
  rw [K3] at e3
  show Wp p e below _ _ T3 (mkF m 15 #[.val (.ref x), .val (.int ix)] [(.int cc)])
  exact Wk.retZ' X3 hx hlk hr (by simp) (hb hby d40_15) (by decide) (by decide) (Qc := Q_rm_cha Z x t G1 ix kb nn us cc G3 h0) e3 ⟨(congrArg (fun q => some (Value.int q)) (narC hLc.chr)), N3, rfl⟩
theorem pn31 : plainName "com/example/lukko/lukko/RuleProblemTextPinLaw" = true := by first | (simp [plainName, overriddenIn]; done) | decide +kernel
theorem d39_0 : decode method_5_code 0 = .ok (.lload_n 0, 1) := by decide +kernel
theorem d39_1 : decode method_5_code 1 = .ok (.ldc2_w 54, 3) := by decide +kernel
theorem d39_4 : decode method_5_code 4 = .ok (.lcmp, 1) := by decide +kernel
theorem d39_5 : decode method_5_code 5 = .ok (.ifCond .ge 5, 3) := by decide +kernel
theorem d39_8 : decode method_5_code 8 = .ok (.iconst 1, 1) := by decide +kernel
theorem d39_9 : decode method_5_code 9 = .ok (.ireturn, 1) := by decide +kernel
theorem d39_10 : decode method_5_code 10 = .ok (.lload_n 0, 1) := by decide +kernel
theorem d39_11 : decode method_5_code 11 = .ok (.ldc2_w 56, 3) := by decide +kernel
theorem d39_14 : decode method_5_code 14 = .ok (.lcmp, 1) := by decide +kernel
theorem d39_15 : decode method_5_code 15 = .ok (.ifCond .ge 5, 3) := by decide +kernel
theorem d39_18 : decode method_5_code 18 = .ok (.iconst 2, 1) := by decide +kernel
theorem d39_19 : decode method_5_code 19 = .ok (.ireturn, 1) := by decide +kernel
theorem d39_20 : decode method_5_code 20 = .ok (.lload_n 0, 1) := by decide +kernel
theorem d39_21 : decode method_5_code 21 = .ok (.ldc2_w 58, 3) := by decide +kernel
theorem d39_24 : decode method_5_code 24 = .ok (.lcmp, 1) := by decide +kernel
theorem d39_25 : decode method_5_code 25 = .ok (.ifCond .ge 5, 3) := by decide +kernel
theorem d39_28 : decode method_5_code 28 = .ok (.iconst 3, 1) := by decide +kernel
theorem d39_29 : decode method_5_code 29 = .ok (.ireturn, 1) := by decide +kernel
theorem d39_30 : decode method_5_code 30 = .ok (.lload_n 0, 1) := by decide +kernel
theorem d39_31 : decode method_5_code 31 = .ok (.ldc2_w 60, 3) := by decide +kernel
theorem d39_34 : decode method_5_code 34 = .ok (.lcmp, 1) := by decide +kernel
theorem d39_35 : decode method_5_code 35 = .ok (.ifCond .ge 5, 3) := by decide +kernel
theorem d39_38 : decode method_5_code 38 = .ok (.iconst 4, 1) := by decide +kernel
theorem d39_39 : decode method_5_code 39 = .ok (.ireturn, 1) := by decide +kernel
theorem d39_40 : decode method_5_code 40 = .ok (.lload_n 0, 1) := by decide +kernel
theorem d39_41 : decode method_5_code 41 = .ok (.ldc2_w 62, 3) := by decide +kernel
theorem d39_44 : decode method_5_code 44 = .ok (.lcmp, 1) := by decide +kernel
theorem d39_45 : decode method_5_code 45 = .ok (.ifCond .ge 5, 3) := by decide +kernel
theorem d39_48 : decode method_5_code 48 = .ok (.iconst 5, 1) := by decide +kernel
theorem d39_49 : decode method_5_code 49 = .ok (.ireturn, 1) := by decide +kernel
theorem d39_50 : decode method_5_code 50 = .ok (.lload_n 0, 1) := by decide +kernel
theorem d39_51 : decode method_5_code 51 = .ok (.ldc2_w 64, 3) := by decide +kernel
theorem d39_54 : decode method_5_code 54 = .ok (.lcmp, 1) := by decide +kernel
theorem d39_55 : decode method_5_code 55 = .ok (.ifCond .ge 6, 3) := by decide +kernel
theorem d39_58 : decode method_5_code 58 = .ok (.bipush 6, 2) := by decide +kernel
theorem d39_60 : decode method_5_code 60 = .ok (.ireturn, 1) := by decide +kernel
theorem d39_61 : decode method_5_code 61 = .ok (.lload_n 0, 1) := by decide +kernel
theorem d39_62 : decode method_5_code 62 = .ok (.ldc2_w 66, 3) := by decide +kernel
theorem d39_65 : decode method_5_code 65 = .ok (.lcmp, 1) := by decide +kernel
theorem d39_66 : decode method_5_code 66 = .ok (.ifCond .ge 6, 3) := by decide +kernel
theorem d39_69 : decode method_5_code 69 = .ok (.bipush 7, 2) := by decide +kernel
theorem d39_71 : decode method_5_code 71 = .ok (.ireturn, 1) := by decide +kernel
theorem d39_72 : decode method_5_code 72 = .ok (.lload_n 0, 1) := by decide +kernel
theorem d39_73 : decode method_5_code 73 = .ok (.ldc2_w 68, 3) := by decide +kernel
theorem d39_76 : decode method_5_code 76 = .ok (.lcmp, 1) := by decide +kernel
theorem d39_77 : decode method_5_code 77 = .ok (.ifCond .ge 6, 3) := by decide +kernel
theorem d39_80 : decode method_5_code 80 = .ok (.bipush 8, 2) := by decide +kernel
theorem d39_82 : decode method_5_code 82 = .ok (.ireturn, 1) := by decide +kernel
theorem d39_83 : decode method_5_code 83 = .ok (.lload_n 0, 1) := by decide +kernel
theorem d39_84 : decode method_5_code 84 = .ok (.ldc2_w 70, 3) := by decide +kernel
theorem d39_87 : decode method_5_code 87 = .ok (.lcmp, 1) := by decide +kernel
theorem d39_88 : decode method_5_code 88 = .ok (.ifCond .ge 6, 3) := by decide +kernel
theorem d39_91 : decode method_5_code 91 = .ok (.bipush 9, 2) := by decide +kernel
theorem d39_93 : decode method_5_code 93 = .ok (.ireturn, 1) := by decide +kernel
theorem d39_94 : decode method_5_code 94 = .ok (.bipush 10, 2) := by decide +kernel
theorem d39_96 : decode method_5_code 96 = .ok (.ireturn, 1) := by decide +kernel
def Q_rm_dig (Z : State) (u_ : Int64) (n_ : Nat) (h0 : Heap) (v : Option Value) (h : Heap) (L : List Loc) : Prop := ∃ r : Int32, v = some (.int r) ∧ Fk h0.size [] L ∧ h = h0 ∧ r.toInt = ((dl n_ : Nat) : Int)
set_option maxRecDepth 65536 in
set_option maxHeartbeats 40000000 in
theorem rm_dig (l : Launch) (Z : State) (a0 : Array Value) (hw : ∀ d ∈ tables_1, d.before a0 Z = true) (ws : List Jvm.Cond) (u_ : Int64) (n_ : Nat) (h0 : Heap) (O0 : Old Z Z.heap.size h0) (hu : u_.toInt = (n_ : Int)) :
    Ctr l Z (⟨"com/example/lukko/lukko/RuleProblemTextPinLaw", "digits", "(J)I"⟩ : MethodName) method_5_code 2 (some .int) ws ({ frames := 0, cells := 0, slots := 0, locals := 0 } : Room) #[(.long u_)] h0 (Q_rm_dig Z u_ n_ h0) := by
  refine Ctr.intro (Ls := fun _ => #[.val (.long u_), .second]) (plainFor_of_name pn31) (fun m => by first | rfl | (simp [entryFrame, mkF, argsToLocals, Value.category]; done)) ?_
  intro p e s m below meth c s₁ hx hby hml hr hlk hZ hown hnm hs0 X0 e0
  have w : ∀ (k : Nat) (d : Jvm.Cond), tables_1[k]? = some d → d.before a0 Z = true := fun k d q => hw d (List.mem_of_getElem? q)
  have N0 := Fk.nil h0.size []
  refine Wk.lloadN X0 hx (hb hby d39_0) rfl rfl ?_
  refine Wk.ldc2Long X0 hx hZ hown (w 210 _ rfl) (hb hby d39_1) rfl ?_
  refine Wk.lcmp X0 hx (hb hby d39_4) rfl ?_
  by_cases hc1 : (lcmpW u_ (10 : Int64)) < (0 : Int32)
  · skip
    refine Wk.ifNo X0 hx (hb hby d39_5) rfl ((if0 _ _).trans (tlt hc1).2.1) ?_
    refine Wk.iconst X0 hx (v := (1 : Int32)) (hb hby d39_8) rfl rfl ?_
    exact Wk.retI' X0 hx hlk hr (hb hby d39_9) (by decide) (by decide) (Qc := Q_rm_dig Z u_ n_ h0) e0 ⟨(1 : Int32), rfl, N0, rfl, (own_dig 1 (Or.inl rfl) (Or.inr (own_hi (m := 10 ^ 1) hu rfl hc1)) (by decide) rfl)⟩
  refine Wk.ifYes X0 hx (hb hby d39_5) (by decide) (q := 10) rfl ((if0 _ _).trans (flt hc1).2.1) ?_
  refine Wk.lloadN X0 hx (hb hby d39_10) rfl rfl ?_
  refine Wk.ldc2Long X0 hx hZ hown (w 239 _ rfl) (hb hby d39_11) rfl ?_
  refine Wk.lcmp X0 hx (hb hby d39_14) rfl ?_
  by_cases hc2 : (lcmpW u_ (100 : Int64)) < (0 : Int32)
  · skip
    refine Wk.ifNo X0 hx (hb hby d39_15) rfl ((if0 _ _).trans (tlt hc2).2.1) ?_
    refine Wk.iconst X0 hx (v := (2 : Int32)) (hb hby d39_18) rfl rfl ?_
    exact Wk.retI' X0 hx hlk hr (hb hby d39_19) (by decide) (by decide) (Qc := Q_rm_dig Z u_ n_ h0) e0 ⟨(2 : Int32), rfl, N0, rfl, (own_dig 2 (Or.inr (own_lo (m := 10 ^ 1) hu rfl hc1)) (Or.inr (own_hi (m := 10 ^ 2) hu rfl hc2)) (by decide) rfl)⟩
  refine Wk.ifYes X0 hx (hb hby d39_15) (by decide) (q := 20) rfl ((if0 _ _).trans (flt hc2).2.1) ?_
  refine Wk.lloadN X0 hx (hb hby d39_20) rfl rfl ?_
  refine Wk.ldc2Long X0 hx hZ hown (w 240 _ rfl) (hb hby d39_21) rfl ?_
  refine Wk.lcmp X0 hx (hb hby d39_24) rfl ?_
  by_cases hc3 : (lcmpW u_ (1000 : Int64)) < (0 : Int32)
  · skip
    refine Wk.ifNo X0 hx (hb hby d39_25) rfl ((if0 _ _).trans (tlt hc3).2.1) ?_
    refine Wk.iconst X0 hx (v := (3 : Int32)) (hb hby d39_28) rfl rfl ?_
    exact Wk.retI' X0 hx hlk hr (hb hby d39_29) (by decide) (by decide) (Qc := Q_rm_dig Z u_ n_ h0) e0 ⟨(3 : Int32), rfl, N0, rfl, (own_dig 3 (Or.inr (own_lo (m := 10 ^ 2) hu rfl hc2)) (Or.inr (own_hi (m := 10 ^ 3) hu rfl hc3)) (by decide) rfl)⟩
  refine Wk.ifYes X0 hx (hb hby d39_25) (by decide) (q := 30) rfl ((if0 _ _).trans (flt hc3).2.1) ?_
  refine Wk.lloadN X0 hx (hb hby d39_30) rfl rfl ?_
  refine Wk.ldc2Long X0 hx hZ hown (w 258 _ rfl) (hb hby d39_31) rfl ?_
  refine Wk.lcmp X0 hx (hb hby d39_34) rfl ?_
  by_cases hc4 : (lcmpW u_ (10000 : Int64)) < (0 : Int32)
  · skip
    refine Wk.ifNo X0 hx (hb hby d39_35) rfl ((if0 _ _).trans (tlt hc4).2.1) ?_
    refine Wk.iconst X0 hx (v := (4 : Int32)) (hb hby d39_38) rfl rfl ?_
    exact Wk.retI' X0 hx hlk hr (hb hby d39_39) (by decide) (by decide) (Qc := Q_rm_dig Z u_ n_ h0) e0 ⟨(4 : Int32), rfl, N0, rfl, (own_dig 4 (Or.inr (own_lo (m := 10 ^ 3) hu rfl hc3)) (Or.inr (own_hi (m := 10 ^ 4) hu rfl hc4)) (by decide) rfl)⟩
  refine Wk.ifYes X0 hx (hb hby d39_35) (by decide) (q := 40) rfl ((if0 _ _).trans (flt hc4).2.1) ?_
  refine Wk.lloadN X0 hx (hb hby d39_40) rfl rfl ?_
  refine Wk.ldc2Long X0 hx hZ hown (w 259 _ rfl) (hb hby d39_41) rfl ?_
  refine Wk.lcmp X0 hx (hb hby d39_44) rfl ?_
  by_cases hc5 : (lcmpW u_ (100000 : Int64)) < (0 : Int32)
  · skip
    refine Wk.ifNo X0 hx (hb hby d39_45) rfl ((if0 _ _).trans (tlt hc5).2.1) ?_
    refine Wk.iconst X0 hx (v := (5 : Int32)) (hb hby d39_48) rfl rfl ?_
    exact Wk.retI' X0 hx hlk hr (hb hby d39_49) (by decide) (by decide) (Qc := Q_rm_dig Z u_ n_ h0) e0 ⟨(5 : Int32), rfl, N0, rfl, (own_dig 5 (Or.inr (own_lo (m := 10 ^ 4) hu rfl hc4)) (Or.inr (own_hi (m := 10 ^ 5) hu rfl hc5)) (by decide) rfl)⟩
  refine Wk.ifYes X0 hx (hb hby d39_45) (by decide) (q := 50) rfl ((if0 _ _).trans (flt hc5).2.1) ?_
  refine Wk.lloadN X0 hx (hb hby d39_50) rfl rfl ?_
  refine Wk.ldc2Long X0 hx hZ hown (w 260 _ rfl) (hb hby d39_51) rfl ?_
  refine Wk.lcmp X0 hx (hb hby d39_54) rfl ?_
  by_cases hc6 : (lcmpW u_ (1000000 : Int64)) < (0 : Int32)
  · skip
    refine Wk.ifNo X0 hx (hb hby d39_55) rfl ((if0 _ _).trans (tlt hc6).2.1) ?_
    refine Wk.bipush X0 hx (v := (6 : Int32)) (hb hby d39_58) rfl rfl ?_
    exact Wk.retI' X0 hx hlk hr (hb hby d39_60) (by decide) (by decide) (Qc := Q_rm_dig Z u_ n_ h0) e0 ⟨(6 : Int32), rfl, N0, rfl, (own_dig 6 (Or.inr (own_lo (m := 10 ^ 5) hu rfl hc5)) (Or.inr (own_hi (m := 10 ^ 6) hu rfl hc6)) (by decide) rfl)⟩
  refine Wk.ifYes X0 hx (hb hby d39_55) (by decide) (q := 61) rfl ((if0 _ _).trans (flt hc6).2.1) ?_
  refine Wk.lloadN X0 hx (hb hby d39_61) rfl rfl ?_
  refine Wk.ldc2Long X0 hx hZ hown (w 261 _ rfl) (hb hby d39_62) rfl ?_
  refine Wk.lcmp X0 hx (hb hby d39_65) rfl ?_
  by_cases hc7 : (lcmpW u_ (10000000 : Int64)) < (0 : Int32)
  · skip
    refine Wk.ifNo X0 hx (hb hby d39_66) rfl ((if0 _ _).trans (tlt hc7).2.1) ?_
    refine Wk.bipush X0 hx (v := (7 : Int32)) (hb hby d39_69) rfl rfl ?_
    exact Wk.retI' X0 hx hlk hr (hb hby d39_71) (by decide) (by decide) (Qc := Q_rm_dig Z u_ n_ h0) e0 ⟨(7 : Int32), rfl, N0, rfl, (own_dig 7 (Or.inr (own_lo (m := 10 ^ 6) hu rfl hc6)) (Or.inr (own_hi (m := 10 ^ 7) hu rfl hc7)) (by decide) rfl)⟩
  refine Wk.ifYes X0 hx (hb hby d39_66) (by decide) (q := 72) rfl ((if0 _ _).trans (flt hc7).2.1) ?_
  refine Wk.lloadN X0 hx (hb hby d39_72) rfl rfl ?_
  refine Wk.ldc2Long X0 hx hZ hown (w 262 _ rfl) (hb hby d39_73) rfl ?_
  refine Wk.lcmp X0 hx (hb hby d39_76) rfl ?_
  by_cases hc8 : (lcmpW u_ (100000000 : Int64)) < (0 : Int32)
  · skip
    refine Wk.ifNo X0 hx (hb hby d39_77) rfl ((if0 _ _).trans (tlt hc8).2.1) ?_
    refine Wk.bipush X0 hx (v := (8 : Int32)) (hb hby d39_80) rfl rfl ?_
    exact Wk.retI' X0 hx hlk hr (hb hby d39_82) (by decide) (by decide) (Qc := Q_rm_dig Z u_ n_ h0) e0 ⟨(8 : Int32), rfl, N0, rfl, (own_dig 8 (Or.inr (own_lo (m := 10 ^ 7) hu rfl hc7)) (Or.inr (own_hi (m := 10 ^ 8) hu rfl hc8)) (by decide) rfl)⟩
  refine Wk.ifYes X0 hx (hb hby d39_77) (by decide) (q := 83) rfl ((if0 _ _).trans (flt hc8).2.1) ?_
  refine Wk.lloadN X0 hx (hb hby d39_83) rfl rfl ?_
  refine Wk.ldc2Long X0 hx hZ hown (w 263 _ rfl) (hb hby d39_84) rfl ?_
  refine Wk.lcmp X0 hx (hb hby d39_87) rfl ?_
  by_cases hc9 : (lcmpW u_ (1000000000 : Int64)) < (0 : Int32)
  · skip
    refine Wk.ifNo X0 hx (hb hby d39_88) rfl ((if0 _ _).trans (tlt hc9).2.1) ?_
    refine Wk.bipush X0 hx (v := (9 : Int32)) (hb hby d39_91) rfl rfl ?_
    exact Wk.retI' X0 hx hlk hr (hb hby d39_93) (by decide) (by decide) (Qc := Q_rm_dig Z u_ n_ h0) e0 ⟨(9 : Int32), rfl, N0, rfl, (own_dig 9 (Or.inr (own_lo (m := 10 ^ 8) hu rfl hc8)) (Or.inr (own_hi (m := 10 ^ 9) hu rfl hc9)) (by decide) rfl)⟩
  refine Wk.ifYes X0 hx (hb hby d39_88) (by decide) (q := 94) rfl ((if0 _ _).trans (flt hc9).2.1) ?_
  refine Wk.bipush X0 hx (v := (10 : Int32)) (hb hby d39_94) rfl rfl ?_
  exact Wk.retI' X0 hx hlk hr (hb hby d39_96) (by decide) (by decide) (Qc := Q_rm_dig Z u_ n_ h0) e0 ⟨(10 : Int32), rfl, N0, rfl, (own_dig 10 (Or.inr (own_lo (m := 10 ^ 9) hu rfl hc9)) (Or.inl rfl) (by decide) rfl)⟩
theorem d38_0 : decode method_6_code 0 = .ok (.iload_n 0, 1) := by decide +kernel
theorem d38_1 : decode method_6_code 1 = .ok (.ifCond .ge 9, 3) := by decide +kernel
theorem d38_4 : decode method_6_code 4 = .ok (.iload_n 0, 1) := by decide +kernel
theorem d38_5 : decode method_6_code 5 = .ok (.i2l, 1) := by decide +kernel
theorem d38_6 : decode method_6_code 6 = .ok (.lneg, 1) := by decide +kernel
theorem d38_7 : decode method_6_code 7 = .ok (.goto 5, 3) := by decide +kernel
theorem d38_12 : decode method_6_code 12 = .ok (.lstore_n 1, 1) := by decide +kernel
theorem d38_13 : decode method_6_code 13 = .ok (.lload_n 1, 1) := by decide +kernel
theorem d38_14 : decode method_6_code 14 = .ok (.invokestatic 72, 3) := by decide +kernel
theorem pd32 : parseMethodDescriptor "(J)I" = some ⟨[.long], some .int⟩ := by decide +kernel
theorem d38_17 : decode method_6_code 17 = .ok (.istore_n 3, 1) := by decide +kernel
theorem d38_18 : decode method_6_code 18 = .ok (.iload_n 0, 1) := by decide +kernel
theorem d38_19 : decode method_6_code 19 = .ok (.ifCond .ge 9, 3) := by decide +kernel
theorem d38_22 : decode method_6_code 22 = .ok (.iload_n 3, 1) := by decide +kernel
theorem d38_23 : decode method_6_code 23 = .ok (.iconst 1, 1) := by decide +kernel
theorem d38_24 : decode method_6_code 24 = .ok (.iadd, 1) := by decide +kernel
theorem d38_25 : decode method_6_code 25 = .ok (.goto 4, 3) := by decide +kernel
theorem d38_29 : decode method_6_code 29 = .ok (.ireturn, 1) := by decide +kernel
theorem d38_10 : decode method_6_code 10 = .ok (.iload_n 0, 1) := by decide +kernel
theorem d38_11 : decode method_6_code 11 = .ok (.i2l, 1) := by decide +kernel
theorem d38_28 : decode method_6_code 28 = .ok (.iload_n 3, 1) := by decide +kernel
def Q_rm_dln (Z : State) (v_ : Int32) (h0 : Heap) (v : Option Value) (h : Heap) (L : List Loc) : Prop := ∃ r : Int32, v = some (.int r) ∧ Fk h0.size [] L ∧ h = h0 ∧ r.toInt = ((db v_).length : Int)
set_option maxRecDepth 65536 in
set_option maxHeartbeats 40000000 in
theorem rm_dln (l : Launch) (Z : State) (a0 : Array Value) (hw : ∀ d ∈ tables_1, d.before a0 Z = true) (ws : List Jvm.Cond) (v_ : Int32) (h0 : Heap) (O0 : Old Z Z.heap.size h0) :
    Ctr l Z (⟨"com/example/lukko/lukko/RuleProblemTextPinLaw", "decLen", "(I)I"⟩ : MethodName) method_6_code 4 (some .int) ws ({ frames := 1, cells := 0, slots := 0, locals := 13 } : Room) #[(.int v_)] h0 (Q_rm_dln Z v_ h0) := by
  refine Ctr.intro (Ls := fun _ => #[.val (.int v_), .unset, .unset, .unset]) (plainFor_of_name pn31) (fun m => by first | rfl | (simp [entryFrame, mkF, argsToLocals, Value.category]; done)) ?_
  intro p e s m below meth c s₁ hx hby hml hr hlk hZ hown hnm hs0 X0 e0
  have w : ∀ (k : Nat) (d : Jvm.Cond), tables_1[k]? = some d → d.before a0 Z = true := fun k d q => hw d (List.mem_of_getElem? q)
  have N0 := Fk.nil h0.size []
  refine Wk.iloadN X0 hx (hb hby d38_0) rfl rfl ?_
  by_cases hc1 : v_ < (0 : Int32)
  · skip
    refine Wk.ifNo X0 hx (hb hby d38_1) rfl ((if0 _ _).trans (tlt hc1).2.1) ?_
    refine Wk.iloadN X0 hx (hb hby d38_4) rfl rfl ?_
    refine Wk.i2l X0 hx (hb hby d38_5) rfl ?_
    refine Wk.lneg X0 hx (hb hby d38_6) rfl ?_
    refine Wk.goto X0 hx (hb hby d38_7) (by decide) (q := 12) rfl ?_
    refine Wk.lstoreNA X0 hx (Ls' := fun z => #[.val (.int v_), .val (.long z), .second, .unset]) (hb hby d38_12) rfl (fun _ => rfl) ?_
    intro j2 hj2
    show Wp p e below _ _ s₁ (mkF m 13 #[.val (.int v_), .val (.long j2), .second, .unset] [])
    refine Wk.lloadN X0 hx (hb hby d38_13) rfl rfl ?_
    refine Wk.callS X0 hx hZ hown (w 207 _ rfl) (w 208 _ rfl) (w 4 _ rfl) (w 209 _ rfl) (by decide) (as' := [(.long j2)]) (backOf (W := 0) (rm_dig l Z a0 hw [] j2 v_.toInt.natAbs h0 O0 (own_absN hc1 hj2)) hZ (w 209 _ rfl) (w 4 _ rfl) (by decide) (by decide)) e0 (by rw [hml]; rfl) (rest := []) (lenOf pd32 rfl) rfl (Nat.le_of_eq rfl) (hb hby d38_14) rfl (by decide) (by decide) ?_
    intro T3 h3 v3 L3 X3 e3 hQ3
    obtain ⟨r3, rfl, Nq3, K3, q3_0⟩ := hQ3
    have N3 := Fk.app N0 Nq3 (Nat.le_refl _) all0
    rw [K3] at e3
    show Wp p e below _ _ T3 (mkF m 17 #[.val (.int v_), .val (.long j2), .second, .unset] [(.int r3)])
    refine Wk.istoreN X3 hx (Ls' := #[.val (.int v_), .val (.long j2), .second, .val (.int r3)]) (hb hby d38_17) rfl rfl ?_
    refine Wk.iloadN X3 hx (hb hby d38_18) rfl rfl ?_
    refine Wk.ifNo X3 hx (hb hby d38_19) rfl ((if0 _ _).trans (tlt hc1).2.1) ?_
    refine Wk.iloadN X3 hx (hb hby d38_22) rfl rfl ?_
    refine Wk.iconst X3 hx (v := (1 : Int32)) (hb hby d38_23) rfl rfl ?_
    refine Wk.iadd X3 hx (hb hby d38_24) rfl ?_
    refine Wk.goto X3 hx (hb hby d38_25) (by decide) (q := 29) rfl ?_
    exact Wk.retI' X3 hx hlk hr (hb hby d38_29) (by decide) (by decide) (Qc := Q_rm_dln Z v_ h0) e3 ⟨(r3 + (1 : Int32)), rfl, N3, rfl, (own_dlN hc1 q3_0)⟩
  refine Wk.ifYes X0 hx (hb hby d38_1) (by decide) (q := 10) rfl ((if0 _ _).trans (flt hc1).2.1) ?_
  refine Wk.iloadN X0 hx (hb hby d38_10) rfl rfl ?_
  refine Wk.i2l X0 hx (hb hby d38_11) rfl ?_
  refine Wk.lstoreNA X0 hx (Ls' := fun z => #[.val (.int v_), .val (.long z), .second, .unset]) (hb hby d38_12) rfl (fun _ => rfl) ?_
  intro j4 hj4
  show Wp p e below _ _ s₁ (mkF m 13 #[.val (.int v_), .val (.long j4), .second, .unset] [])
  refine Wk.lloadN X0 hx (hb hby d38_13) rfl rfl ?_
  refine Wk.callS X0 hx hZ hown (w 207 _ rfl) (w 208 _ rfl) (w 4 _ rfl) (w 209 _ rfl) (by decide) (as' := [(.long j4)]) (backOf (W := 0) (rm_dig l Z a0 hw [] j4 v_.toInt.natAbs h0 O0 (own_absP hc1 hj4)) hZ (w 209 _ rfl) (w 4 _ rfl) (by decide) (by decide)) e0 (by rw [hml]; rfl) (rest := []) (lenOf pd32 rfl) rfl (Nat.le_of_eq rfl) (hb hby d38_14) rfl (by decide) (by decide) ?_
  intro T5 h5 v5 L5 X5 e5 hQ5
  obtain ⟨r5, rfl, Nq5, K5, q5_0⟩ := hQ5
  have N5 := Fk.app N0 Nq5 (Nat.le_refl _) all0
  rw [K5] at e5
  show Wp p e below _ _ T5 (mkF m 17 #[.val (.int v_), .val (.long j4), .second, .unset] [(.int r5)])
  refine Wk.istoreN X5 hx (Ls' := #[.val (.int v_), .val (.long j4), .second, .val (.int r5)]) (hb hby d38_17) rfl rfl ?_
  refine Wk.iloadN X5 hx (hb hby d38_18) rfl rfl ?_
  refine Wk.ifYes X5 hx (hb hby d38_19) (by decide) (q := 28) rfl ((if0 _ _).trans (flt hc1).2.1) ?_
  refine Wk.iloadN X5 hx (hb hby d38_28) rfl rfl ?_
  exact Wk.retI' X5 hx hlk hr (hb hby d38_29) (by decide) (by decide) (Qc := Q_rm_dln Z v_ h0) e5 ⟨r5, rfl, N5, rfl, (own_dlP hc1 q5_0)⟩
theorem d50_0 : decode method_7_code 0 = .ok (.iload_n 0, 1) := by decide +kernel
theorem d50_1 : decode method_7_code 1 = .ok (.ifCond .ge 7, 3) := by decide +kernel
theorem d50_4 : decode method_7_code 4 = .ok (.iconst 1, 1) := by decide +kernel
theorem d50_5 : decode method_7_code 5 = .ok (.goto 4, 3) := by decide +kernel
theorem d50_9 : decode method_7_code 9 = .ok (.istore_n 2, 1) := by decide +kernel
theorem d50_10 : decode method_7_code 10 = .ok (.iload_n 2, 1) := by decide +kernel
theorem d50_11 : decode method_7_code 11 = .ok (.ifCond .eq 10, 3) := by decide +kernel
theorem d50_14 : decode method_7_code 14 = .ok (.iload_n 1, 1) := by decide +kernel
theorem d50_15 : decode method_7_code 15 = .ok (.ifCond .ne 6, 3) := by decide +kernel
theorem d50_18 : decode method_7_code 18 = .ok (.bipush 45, 2) := by decide +kernel
theorem d50_20 : decode method_7_code 20 = .ok (.ireturn, 1) := by decide +kernel
theorem d50_21 : decode method_7_code 21 = .ok (.iload_n 2, 1) := by decide +kernel
theorem d50_22 : decode method_7_code 22 = .ok (.ifCond .eq 9, 3) := by decide +kernel
theorem d50_25 : decode method_7_code 25 = .ok (.iload_n 0, 1) := by decide +kernel
theorem d50_26 : decode method_7_code 26 = .ok (.i2l, 1) := by decide +kernel
theorem d50_27 : decode method_7_code 27 = .ok (.lneg, 1) := by decide +kernel
theorem d50_28 : decode method_7_code 28 = .ok (.goto 5, 3) := by decide +kernel
theorem d50_33 : decode method_7_code 33 = .ok (.lstore_n 3, 1) := by decide +kernel
theorem d50_34 : decode method_7_code 34 = .ok (.lload_n 3, 1) := by decide +kernel
theorem d50_35 : decode method_7_code 35 = .ok (.invokestatic 72, 3) := by decide +kernel
theorem d50_38 : decode method_7_code 38 = .ok (.istore 5, 2) := by decide +kernel
theorem d50_40 : decode method_7_code 40 = .ok (.iload_n 2, 1) := by decide +kernel
theorem d50_41 : decode method_7_code 41 = .ok (.ifCond .eq 9, 3) := by decide +kernel
theorem d50_44 : decode method_7_code 44 = .ok (.iload_n 1, 1) := by decide +kernel
theorem d50_45 : decode method_7_code 45 = .ok (.iconst 1, 1) := by decide +kernel
theorem d50_46 : decode method_7_code 46 = .ok (.isub, 1) := by decide +kernel
theorem d50_47 : decode method_7_code 47 = .ok (.goto 4, 3) := by decide +kernel
theorem d50_51 : decode method_7_code 51 = .ok (.istore 6, 2) := by decide +kernel
theorem d50_53 : decode method_7_code 53 = .ok (.bipush 10, 2) := by decide +kernel
theorem d50_55 : decode method_7_code 55 = .ok (.newarray .long, 2) := by decide +kernel
theorem d50_57 : decode method_7_code 57 = .ok (.dup, 1) := by decide +kernel
theorem d50_58 : decode method_7_code 58 = .ok (.iconst 0, 1) := by decide +kernel
theorem d50_59 : decode method_7_code 59 = .ok (.lconst 1, 1) := by decide +kernel
theorem d50_60 : decode method_7_code 60 = .ok (.lastore, 1) := by decide +kernel
theorem d50_61 : decode method_7_code 61 = .ok (.dup, 1) := by decide +kernel
theorem d50_62 : decode method_7_code 62 = .ok (.iconst 1, 1) := by decide +kernel
theorem d50_63 : decode method_7_code 63 = .ok (.ldc2_w 54, 3) := by decide +kernel
theorem d50_66 : decode method_7_code 66 = .ok (.lastore, 1) := by decide +kernel
theorem d50_67 : decode method_7_code 67 = .ok (.dup, 1) := by decide +kernel
theorem d50_68 : decode method_7_code 68 = .ok (.iconst 2, 1) := by decide +kernel
theorem d50_69 : decode method_7_code 69 = .ok (.ldc2_w 56, 3) := by decide +kernel
theorem d50_72 : decode method_7_code 72 = .ok (.lastore, 1) := by decide +kernel
theorem d50_73 : decode method_7_code 73 = .ok (.dup, 1) := by decide +kernel
theorem d50_74 : decode method_7_code 74 = .ok (.iconst 3, 1) := by decide +kernel
theorem d50_75 : decode method_7_code 75 = .ok (.ldc2_w 58, 3) := by decide +kernel
theorem d50_78 : decode method_7_code 78 = .ok (.lastore, 1) := by decide +kernel
theorem d50_79 : decode method_7_code 79 = .ok (.dup, 1) := by decide +kernel
theorem d50_80 : decode method_7_code 80 = .ok (.iconst 4, 1) := by decide +kernel
theorem d50_81 : decode method_7_code 81 = .ok (.ldc2_w 60, 3) := by decide +kernel
theorem d50_84 : decode method_7_code 84 = .ok (.lastore, 1) := by decide +kernel
theorem d50_85 : decode method_7_code 85 = .ok (.dup, 1) := by decide +kernel
theorem d50_86 : decode method_7_code 86 = .ok (.iconst 5, 1) := by decide +kernel
theorem d50_87 : decode method_7_code 87 = .ok (.ldc2_w 62, 3) := by decide +kernel
theorem d50_90 : decode method_7_code 90 = .ok (.lastore, 1) := by decide +kernel
theorem d50_91 : decode method_7_code 91 = .ok (.dup, 1) := by decide +kernel
theorem d50_92 : decode method_7_code 92 = .ok (.bipush 6, 2) := by decide +kernel
theorem d50_94 : decode method_7_code 94 = .ok (.ldc2_w 64, 3) := by decide +kernel
theorem d50_97 : decode method_7_code 97 = .ok (.lastore, 1) := by decide +kernel
theorem d50_98 : decode method_7_code 98 = .ok (.dup, 1) := by decide +kernel
theorem d50_99 : decode method_7_code 99 = .ok (.bipush 7, 2) := by decide +kernel
theorem d50_101 : decode method_7_code 101 = .ok (.ldc2_w 66, 3) := by decide +kernel
theorem d50_104 : decode method_7_code 104 = .ok (.lastore, 1) := by decide +kernel
theorem d50_105 : decode method_7_code 105 = .ok (.dup, 1) := by decide +kernel
theorem d50_106 : decode method_7_code 106 = .ok (.bipush 8, 2) := by decide +kernel
theorem d50_108 : decode method_7_code 108 = .ok (.ldc2_w 68, 3) := by decide +kernel
theorem d50_111 : decode method_7_code 111 = .ok (.lastore, 1) := by decide +kernel
theorem d50_112 : decode method_7_code 112 = .ok (.dup, 1) := by decide +kernel
theorem d50_113 : decode method_7_code 113 = .ok (.bipush 9, 2) := by decide +kernel
theorem d50_115 : decode method_7_code 115 = .ok (.ldc2_w 70, 3) := by decide +kernel
theorem d50_118 : decode method_7_code 118 = .ok (.lastore, 1) := by decide +kernel
theorem d50_119 : decode method_7_code 119 = .ok (.astore 7, 2) := by decide +kernel
theorem d50_121 : decode method_7_code 121 = .ok (.lload_n 3, 1) := by decide +kernel
theorem d50_122 : decode method_7_code 122 = .ok (.aload 7, 2) := by decide +kernel
theorem d50_124 : decode method_7_code 124 = .ok (.iload 5, 2) := by decide +kernel
theorem d50_126 : decode method_7_code 126 = .ok (.iconst 1, 1) := by decide +kernel
theorem d50_127 : decode method_7_code 127 = .ok (.isub, 1) := by decide +kernel
theorem d50_128 : decode method_7_code 128 = .ok (.iload 6, 2) := by decide +kernel
theorem d50_130 : decode method_7_code 130 = .ok (.isub, 1) := by decide +kernel
theorem d50_131 : decode method_7_code 131 = .ok (.laload, 1) := by decide +kernel
theorem d50_132 : decode method_7_code 132 = .ok (.ldiv, 1) := by decide +kernel
theorem d50_133 : decode method_7_code 133 = .ok (.ldc2_w 54, 3) := by decide +kernel
theorem d50_136 : decode method_7_code 136 = .ok (.lrem, 1) := by decide +kernel
theorem d50_137 : decode method_7_code 137 = .ok (.lstore 8, 2) := by decide +kernel
theorem d50_139 : decode method_7_code 139 = .ok (.bipush 48, 2) := by decide +kernel
theorem d50_141 : decode method_7_code 141 = .ok (.lload 8, 2) := by decide +kernel
theorem d50_143 : decode method_7_code 143 = .ok (.l2i, 1) := by decide +kernel
theorem d50_144 : decode method_7_code 144 = .ok (.iadd, 1) := by decide +kernel
theorem d50_145 : decode method_7_code 145 = .ok (.i2c, 1) := by decide +kernel
theorem d50_146 : decode method_7_code 146 = .ok (.ireturn, 1) := by decide +kernel
theorem d50_8 : decode method_7_code 8 = .ok (.iconst 0, 1) := by decide +kernel
theorem d50_31 : decode method_7_code 31 = .ok (.iload_n 0, 1) := by decide +kernel
theorem d50_32 : decode method_7_code 32 = .ok (.i2l, 1) := by decide +kernel
theorem d50_50 : decode method_7_code 50 = .ok (.iload_n 1, 1) := by decide +kernel
def Q_rm_dch (Z : State) (v_ : Int32) (j_ : Int32) (h0 : Heap) (v : Option Value) (h : Heap) (L : List Loc) : Prop := ∃ r : Int32, v = some (.int r) ∧ Fk h0.size [] L ∧ Keep h0 h [] ∧ Lat r ∧ (db v_).getD j_.toNatClampNeg 0 = b8 r
set_option maxRecDepth 65536 in
set_option maxHeartbeats 40000000 in
theorem rm_dch (l : Launch) (Z : State) (a0 : Array Value) (hw : ∀ d ∈ tables_1, d.before a0 Z = true) (ws : List Jvm.Cond) (v_ : Int32) (j_ : Int32) (h0 : Heap) (O0 : Old Z Z.heap.size h0) (hj0 : 0 ≤ j_.toInt) (hj1 : j_.toNatClampNeg < (db v_).length) :
    Ctr l Z (⟨"com/example/lukko/lukko/RuleProblemTextPinLaw", "decChar", "(II)C"⟩ : MethodName) method_7_code 10 (some .char) ws ({ frames := 1, cells := 1, slots := 10, locals := 13 } : Room) #[(.int v_), (.int j_)] h0 (Q_rm_dch Z v_ j_ h0) := by
  refine Ctr.intro (Ls := fun _ => #[.val (.int v_), .val (.int j_), .unset, .unset, .unset, .unset, .unset, .unset, .unset, .unset]) (plainFor_of_name pn31) (fun m => by first | rfl | (simp [entryFrame, mkF, argsToLocals, Value.category]; done)) ?_
  intro p e s m below meth c s₁ hx hby hml hr hlk hZ hown hnm hs0 X0 e0
  have w : ∀ (k : Nat) (d : Jvm.Cond), tables_1[k]? = some d → d.before a0 Z = true := fun k d q => hw d (List.mem_of_getElem? q)
  have N0 := Fk.nil h0.size []
  refine Wk.iloadN X0 hx (hb hby d50_0) rfl rfl ?_
  by_cases hc1 : v_ < (0 : Int32)
  · skip
    refine Wk.ifNo X0 hx (hb hby d50_1) rfl ((if0 _ _).trans (tlt hc1).2.1) ?_
    refine Wk.iconst X0 hx (v := (1 : Int32)) (hb hby d50_4) rfl rfl ?_
    refine Wk.goto X0 hx (hb hby d50_5) (by decide) (q := 9) rfl ?_
    refine Wk.istoreN X0 hx (Ls' := #[.val (.int v_), .val (.int j_), .val (.int (1 : Int32)), .unset, .unset, .unset, .unset, .unset, .unset, .unset]) (hb hby d50_9) rfl rfl ?_
    refine Wk.iloadN X0 hx (hb hby d50_10) rfl rfl ?_
    refine Wk.ifNo X0 hx (hb hby d50_11) rfl ((if0 _ _).trans (feq (by decide : ¬ ((1 : Int32) = (0 : Int32)))).1) ?_
    refine Wk.iloadN X0 hx (hb hby d50_14) rfl rfl ?_
    by_cases hc2 : j_ = (0 : Int32)
    · skip
      refine Wk.ifNo X0 hx (hb hby d50_15) rfl ((if0 _ _).trans (teq hc2).2) ?_
      refine Wk.bipush X0 hx (v := (45 : Int32)) (hb hby d50_18) rfl rfl ?_
      exact Wk.retZ' X0 hx hlk hr (by simp) (hb hby d50_20) (by decide) (by decide) (Qc := Q_rm_dch Z v_ j_ h0) e0 ⟨(45 : Int32), rfl, N0, (Keep.refl h0 []), (show Lat (45 : Int32) from ⟨by decide, by decide⟩), (own_d45 hc1 hc2)⟩
    refine Wk.ifYes X0 hx (hb hby d50_15) (by decide) (q := 21) rfl ((if0 _ _).trans (feq hc2).2) ?_
    refine Wk.iloadN X0 hx (hb hby d50_21) rfl rfl ?_
    refine Wk.ifNo X0 hx (hb hby d50_22) rfl ((if0 _ _).trans (feq (by decide : ¬ ((1 : Int32) = (0 : Int32)))).1) ?_
    refine Wk.iloadN X0 hx (hb hby d50_25) rfl rfl ?_
    refine Wk.i2l X0 hx (hb hby d50_26) rfl ?_
    refine Wk.lneg X0 hx (hb hby d50_27) rfl ?_
    refine Wk.goto X0 hx (hb hby d50_28) (by decide) (q := 33) rfl ?_
    refine Wk.lstoreNA X0 hx (Ls' := fun z => #[.val (.int v_), .val (.int j_), .val (.int (1 : Int32)), .val (.long z), .second, .unset, .unset, .unset, .unset, .unset]) (hb hby d50_33) rfl (fun _ => rfl) ?_
    intro j3 hj3
    show Wp p e below _ _ s₁ (mkF m 34 #[.val (.int v_), .val (.int j_), .val (.int (1 : Int32)), .val (.long j3), .second, .unset, .unset, .unset, .unset, .unset] [])
    refine Wk.lloadN X0 hx (hb hby d50_34) rfl rfl ?_
    refine Wk.callS X0 hx hZ hown (w 207 _ rfl) (w 208 _ rfl) (w 4 _ rfl) (w 209 _ rfl) (by decide) (as' := [(.long j3)]) (backOf (W := 0) (rm_dig l Z a0 hw [] j3 v_.toInt.natAbs h0 O0 (own_absN hc1 hj3)) hZ (w 209 _ rfl) (w 4 _ rfl) (by decide) (by decide)) e0 (by rw [hml]; rfl) (rest := []) (lenOf pd32 rfl) rfl (Nat.le_of_eq rfl) (hb hby d50_35) rfl (by decide) (by decide) ?_
    intro T4 h4 v4 L4 X4 e4 hQ4
    obtain ⟨r4, rfl, Nq4, K4, q4_0⟩ := hQ4
    have N4 := Fk.app N0 Nq4 (Nat.le_refl _) all0
    rw [K4] at e4
    show Wp p e below _ _ T4 (mkF m 38 #[.val (.int v_), .val (.int j_), .val (.int (1 : Int32)), .val (.long j3), .second, .unset, .unset, .unset, .unset, .unset] [(.int r4)])
    refine Wk.istore X4 hx (Ls' := #[.val (.int v_), .val (.int j_), .val (.int (1 : Int32)), .val (.long j3), .second, .val (.int r4), .unset, .unset, .unset, .unset]) (hb hby d50_38) rfl rfl ?_
    refine Wk.iloadN X4 hx (hb hby d50_40) rfl rfl ?_
    refine Wk.ifNo X4 hx (hb hby d50_41) rfl ((if0 _ _).trans (feq (by decide : ¬ ((1 : Int32) = (0 : Int32)))).1) ?_
    refine Wk.iloadN X4 hx (hb hby d50_44) rfl rfl ?_
    refine Wk.iconst X4 hx (v := (1 : Int32)) (hb hby d50_45) rfl rfl ?_
    refine Wk.isub X4 hx (hb hby d50_46) rfl ?_
    refine Wk.goto X4 hx (hb hby d50_47) (by decide) (q := 51) rfl ?_
    refine Wk.istoreA X4 hx (Ls' := fun z => #[.val (.int v_), .val (.int j_), .val (.int (1 : Int32)), .val (.long j3), .second, .val (.int r4), .val (.int z), .unset, .unset, .unset]) (hb hby d50_51) rfl (fun _ => rfl) ?_
    intro i5 hi5
    show Wp p e below _ _ T4 (mkF m 53 #[.val (.int v_), .val (.int j_), .val (.int (1 : Int32)), .val (.long j3), .second, .val (.int r4), .val (.int i5), .unset, .unset, .unset] [])
    refine Wk.bipush X4 hx (v := (10 : Int32)) (hb hby d50_53) rfl rfl ?_
    refine Wk.newarray X4 hx hZ (w 267 _ rfl) e4 (hb hby d50_55) rfl (by decide) 10 (by decide) (by decide) (by decide) (by decide) ?_
    intro T6 h6 a6 kA6 g6 X6 e6 E6 A6
    have O7 : Old Z Z.heap.size h6 := O0.ext E6
    have V6 : Arv Z h6 a6 kA6 .long (10 : Int32) [(.long (0 : Int64)), (.long (0 : Int64)), (.long (0 : Int64)), (.long (0 : Int64)), (.long (0 : Int64)), (.long (0 : Int64)), (.long (0 : Int64)), (.long (0 : Int64)), (.long (0 : Int64)), (.long (0 : Int64))] (.long (0 : Int64)) := A6.pad (pad_rep [] (.long (0 : Int64)) 10)
    refine Wk.dup X6 hx (hb hby d50_57) rfl rfl ?_
    refine Wk.iconst X6 hx (v := (0 : Int32)) (hb hby d50_58) rfl rfl ?_
    refine Wk.lconst X6 hx (v := (1 : Int64)) (hb hby d50_59) rfl rfl ?_
    refine Wk.lastore X6 hx hZ e6 V6 (by decide) (by decide) 0 rfl (Nat.le_of_ble_eq_true rfl) (w := (1 : Int64)) rfl (hb hby d50_60) rfl ?_
    intro T8 h8 L8 M8 X8 e8 W8 A8
    have N8 := M8 _ _ N4 (Or.inr (Nat.le_of_eq g6))
    have O9 : Old Z Z.heap.size h8 := O7.wr W8 (Nat.le_trans (Nat.le_trans (Nat.le_trans (Nat.le_of_eq O0.1.symm) O0.2.1) (Keep.refl h0 []).1) (Nat.le_of_eq g6))
    have V8 : Arv Z h8 a6 kA6 .long (10 : Int32) [(.long (1 : Int64)), (.long (0 : Int64)), (.long (0 : Int64)), (.long (0 : Int64)), (.long (0 : Int64)), (.long (0 : Int64)), (.long (0 : Int64)), (.long (0 : Int64)), (.long (0 : Int64)), (.long (0 : Int64))] (.long (0 : Int64)) := A8
    refine Wk.dup X8 hx (hb hby d50_61) rfl rfl ?_
    refine Wk.iconst X8 hx (v := (1 : Int32)) (hb hby d50_62) rfl rfl ?_
    refine Wk.ldc2Long X8 hx hZ hown (w 210 _ rfl) (hb hby d50_63) rfl ?_
    refine Wk.lastore X8 hx hZ e8 V8 (by decide) (by decide) 1 rfl (Nat.le_of_ble_eq_true rfl) (w := (10 : Int64)) rfl (hb hby d50_66) rfl ?_
    intro T10 h10 L10 M10 X10 e10 W10 A10
    have N10 := M10 _ _ N8 (Or.inr (Nat.le_of_eq g6))
    have O11 : Old Z Z.heap.size h10 := O9.wr W10 (Nat.le_trans (Nat.le_trans (Nat.le_trans (Nat.le_of_eq O0.1.symm) O0.2.1) (Keep.refl h0 []).1) (Nat.le_of_eq g6))
    have V10 : Arv Z h10 a6 kA6 .long (10 : Int32) [(.long (1 : Int64)), (.long (10 : Int64)), (.long (0 : Int64)), (.long (0 : Int64)), (.long (0 : Int64)), (.long (0 : Int64)), (.long (0 : Int64)), (.long (0 : Int64)), (.long (0 : Int64)), (.long (0 : Int64))] (.long (0 : Int64)) := A10
    refine Wk.dup X10 hx (hb hby d50_67) rfl rfl ?_
    refine Wk.iconst X10 hx (v := (2 : Int32)) (hb hby d50_68) rfl rfl ?_
    refine Wk.ldc2Long X10 hx hZ hown (w 239 _ rfl) (hb hby d50_69) rfl ?_
    refine Wk.lastore X10 hx hZ e10 V10 (by decide) (by decide) 2 rfl (Nat.le_of_ble_eq_true rfl) (w := (100 : Int64)) rfl (hb hby d50_72) rfl ?_
    intro T12 h12 L12 M12 X12 e12 W12 A12
    have N12 := M12 _ _ N10 (Or.inr (Nat.le_of_eq g6))
    have O13 : Old Z Z.heap.size h12 := O11.wr W12 (Nat.le_trans (Nat.le_trans (Nat.le_trans (Nat.le_of_eq O0.1.symm) O0.2.1) (Keep.refl h0 []).1) (Nat.le_of_eq g6))
    have V12 : Arv Z h12 a6 kA6 .long (10 : Int32) [(.long (1 : Int64)), (.long (10 : Int64)), (.long (100 : Int64)), (.long (0 : Int64)), (.long (0 : Int64)), (.long (0 : Int64)), (.long (0 : Int64)), (.long (0 : Int64)), (.long (0 : Int64)), (.long (0 : Int64))] (.long (0 : Int64)) := A12
    refine Wk.dup X12 hx (hb hby d50_73) rfl rfl ?_
    refine Wk.iconst X12 hx (v := (3 : Int32)) (hb hby d50_74) rfl rfl ?_
    refine Wk.ldc2Long X12 hx hZ hown (w 240 _ rfl) (hb hby d50_75) rfl ?_
    refine Wk.lastore X12 hx hZ e12 V12 (by decide) (by decide) 3 rfl (Nat.le_of_ble_eq_true rfl) (w := (1000 : Int64)) rfl (hb hby d50_78) rfl ?_
    intro T14 h14 L14 M14 X14 e14 W14 A14
    have N14 := M14 _ _ N12 (Or.inr (Nat.le_of_eq g6))
    have O15 : Old Z Z.heap.size h14 := O13.wr W14 (Nat.le_trans (Nat.le_trans (Nat.le_trans (Nat.le_of_eq O0.1.symm) O0.2.1) (Keep.refl h0 []).1) (Nat.le_of_eq g6))
    have V14 : Arv Z h14 a6 kA6 .long (10 : Int32) [(.long (1 : Int64)), (.long (10 : Int64)), (.long (100 : Int64)), (.long (1000 : Int64)), (.long (0 : Int64)), (.long (0 : Int64)), (.long (0 : Int64)), (.long (0 : Int64)), (.long (0 : Int64)), (.long (0 : Int64))] (.long (0 : Int64)) := A14
    refine Wk.dup X14 hx (hb hby d50_79) rfl rfl ?_
    refine Wk.iconst X14 hx (v := (4 : Int32)) (hb hby d50_80) rfl rfl ?_
    refine Wk.ldc2Long X14 hx hZ hown (w 258 _ rfl) (hb hby d50_81) rfl ?_
    refine Wk.lastore X14 hx hZ e14 V14 (by decide) (by decide) 4 rfl (Nat.le_of_ble_eq_true rfl) (w := (10000 : Int64)) rfl (hb hby d50_84) rfl ?_
    intro T16 h16 L16 M16 X16 e16 W16 A16
    have N16 := M16 _ _ N14 (Or.inr (Nat.le_of_eq g6))
    have O17 : Old Z Z.heap.size h16 := O15.wr W16 (Nat.le_trans (Nat.le_trans (Nat.le_trans (Nat.le_of_eq O0.1.symm) O0.2.1) (Keep.refl h0 []).1) (Nat.le_of_eq g6))
    have V16 : Arv Z h16 a6 kA6 .long (10 : Int32) [(.long (1 : Int64)), (.long (10 : Int64)), (.long (100 : Int64)), (.long (1000 : Int64)), (.long (10000 : Int64)), (.long (0 : Int64)), (.long (0 : Int64)), (.long (0 : Int64)), (.long (0 : Int64)), (.long (0 : Int64))] (.long (0 : Int64)) := A16
    refine Wk.dup X16 hx (hb hby d50_85) rfl rfl ?_
    refine Wk.iconst X16 hx (v := (5 : Int32)) (hb hby d50_86) rfl rfl ?_
    refine Wk.ldc2Long X16 hx hZ hown (w 259 _ rfl) (hb hby d50_87) rfl ?_
    refine Wk.lastore X16 hx hZ e16 V16 (by decide) (by decide) 5 rfl (Nat.le_of_ble_eq_true rfl) (w := (100000 : Int64)) rfl (hb hby d50_90) rfl ?_
    intro T18 h18 L18 M18 X18 e18 W18 A18
    have N18 := M18 _ _ N16 (Or.inr (Nat.le_of_eq g6))
    have O19 : Old Z Z.heap.size h18 := O17.wr W18 (Nat.le_trans (Nat.le_trans (Nat.le_trans (Nat.le_of_eq O0.1.symm) O0.2.1) (Keep.refl h0 []).1) (Nat.le_of_eq g6))
    have V18 : Arv Z h18 a6 kA6 .long (10 : Int32) [(.long (1 : Int64)), (.long (10 : Int64)), (.long (100 : Int64)), (.long (1000 : Int64)), (.long (10000 : Int64)), (.long (100000 : Int64)), (.long (0 : Int64)), (.long (0 : Int64)), (.long (0 : Int64)), (.long (0 : Int64))] (.long (0 : Int64)) := A18
    refine Wk.dup X18 hx (hb hby d50_91) rfl rfl ?_
    refine Wk.bipush X18 hx (v := (6 : Int32)) (hb hby d50_92) rfl rfl ?_
    refine Wk.ldc2Long X18 hx hZ hown (w 260 _ rfl) (hb hby d50_94) rfl ?_
    refine Wk.lastore X18 hx hZ e18 V18 (by decide) (by decide) 6 rfl (Nat.le_of_ble_eq_true rfl) (w := (1000000 : Int64)) rfl (hb hby d50_97) rfl ?_
    intro T20 h20 L20 M20 X20 e20 W20 A20
    have N20 := M20 _ _ N18 (Or.inr (Nat.le_of_eq g6))
    have O21 : Old Z Z.heap.size h20 := O19.wr W20 (Nat.le_trans (Nat.le_trans (Nat.le_trans (Nat.le_of_eq O0.1.symm) O0.2.1) (Keep.refl h0 []).1) (Nat.le_of_eq g6))
    have V20 : Arv Z h20 a6 kA6 .long (10 : Int32) [(.long (1 : Int64)), (.long (10 : Int64)), (.long (100 : Int64)), (.long (1000 : Int64)), (.long (10000 : Int64)), (.long (100000 : Int64)), (.long (1000000 : Int64)), (.long (0 : Int64)), (.long (0 : Int64)), (.long (0 : Int64))] (.long (0 : Int64)) := A20
    refine Wk.dup X20 hx (hb hby d50_98) rfl rfl ?_
    refine Wk.bipush X20 hx (v := (7 : Int32)) (hb hby d50_99) rfl rfl ?_
    refine Wk.ldc2Long X20 hx hZ hown (w 261 _ rfl) (hb hby d50_101) rfl ?_
    refine Wk.lastore X20 hx hZ e20 V20 (by decide) (by decide) 7 rfl (Nat.le_of_ble_eq_true rfl) (w := (10000000 : Int64)) rfl (hb hby d50_104) rfl ?_
    intro T22 h22 L22 M22 X22 e22 W22 A22
    have N22 := M22 _ _ N20 (Or.inr (Nat.le_of_eq g6))
    have O23 : Old Z Z.heap.size h22 := O21.wr W22 (Nat.le_trans (Nat.le_trans (Nat.le_trans (Nat.le_of_eq O0.1.symm) O0.2.1) (Keep.refl h0 []).1) (Nat.le_of_eq g6))
    have V22 : Arv Z h22 a6 kA6 .long (10 : Int32) [(.long (1 : Int64)), (.long (10 : Int64)), (.long (100 : Int64)), (.long (1000 : Int64)), (.long (10000 : Int64)), (.long (100000 : Int64)), (.long (1000000 : Int64)), (.long (10000000 : Int64)), (.long (0 : Int64)), (.long (0 : Int64))] (.long (0 : Int64)) := A22
    refine Wk.dup X22 hx (hb hby d50_105) rfl rfl ?_
    refine Wk.bipush X22 hx (v := (8 : Int32)) (hb hby d50_106) rfl rfl ?_
    refine Wk.ldc2Long X22 hx hZ hown (w 262 _ rfl) (hb hby d50_108) rfl ?_
    refine Wk.lastore X22 hx hZ e22 V22 (by decide) (by decide) 8 rfl (Nat.le_of_ble_eq_true rfl) (w := (100000000 : Int64)) rfl (hb hby d50_111) rfl ?_
    intro T24 h24 L24 M24 X24 e24 W24 A24
    have N24 := M24 _ _ N22 (Or.inr (Nat.le_of_eq g6))
    have O25 : Old Z Z.heap.size h24 := O23.wr W24 (Nat.le_trans (Nat.le_trans (Nat.le_trans (Nat.le_of_eq O0.1.symm) O0.2.1) (Keep.refl h0 []).1) (Nat.le_of_eq g6))
    have V24 : Arv Z h24 a6 kA6 .long (10 : Int32) [(.long (1 : Int64)), (.long (10 : Int64)), (.long (100 : Int64)), (.long (1000 : Int64)), (.long (10000 : Int64)), (.long (100000 : Int64)), (.long (1000000 : Int64)), (.long (10000000 : Int64)), (.long (100000000 : Int64)), (.long (0 : Int64))] (.long (0 : Int64)) := A24
    refine Wk.dup X24 hx (hb hby d50_112) rfl rfl ?_
    refine Wk.bipush X24 hx (v := (9 : Int32)) (hb hby d50_113) rfl rfl ?_
    refine Wk.ldc2Long X24 hx hZ hown (w 263 _ rfl) (hb hby d50_115) rfl ?_
    refine Wk.lastore X24 hx hZ e24 V24 (by decide) (by decide) 9 rfl (Nat.le_of_ble_eq_true rfl) (w := (1000000000 : Int64)) rfl (hb hby d50_118) rfl ?_
    intro T26 h26 L26 M26 X26 e26 W26 A26
    have N26 := M26 _ _ N24 (Or.inr (Nat.le_of_eq g6))
    have O27 : Old Z Z.heap.size h26 := O25.wr W26 (Nat.le_trans (Nat.le_trans (Nat.le_trans (Nat.le_of_eq O0.1.symm) O0.2.1) (Keep.refl h0 []).1) (Nat.le_of_eq g6))
    have V26 : Arv Z h26 a6 kA6 .long (10 : Int32) [(.long (1 : Int64)), (.long (10 : Int64)), (.long (100 : Int64)), (.long (1000 : Int64)), (.long (10000 : Int64)), (.long (100000 : Int64)), (.long (1000000 : Int64)), (.long (10000000 : Int64)), (.long (100000000 : Int64)), (.long (1000000000 : Int64))] (.long (0 : Int64)) := A26
    refine Wk.astore X26 hx (Ls' := #[.val (.int v_), .val (.int j_), .val (.int (1 : Int32)), .val (.long j3), .second, .val (.int r4), .val (.int i5), .val (.ref a6), .unset, .unset]) (hb hby d50_119) rfl rfl rfl ?_
    refine Wk.lloadN X26 hx (hb hby d50_121) rfl rfl ?_
    refine Wk.aload X26 hx (hb hby d50_122) rfl rfl rfl ?_
    refine Wk.iload X26 hx (hb hby d50_124) rfl rfl ?_
    refine Wk.iconst X26 hx (v := (1 : Int32)) (hb hby d50_126) rfl rfl ?_
    refine Wk.isub X26 hx (hb hby d50_127) rfl ?_
    refine Wk.iload X26 hx (hb hby d50_128) rfl rfl ?_
    refine Wk.isub X26 hx (hb hby d50_130) rfl ?_
    obtain ⟨nj28, ja28, jb28, jc28, jd28⟩ := own_jN hc1 hj0 hc2 hj1 hi5
    have jx28 := own_exp q4_0 ja28 jc28 (dl_10 _).2
    refine Wk.laload X26 hx hZ e26 V26 (own_nn jx28) (own_10 jx28 (dl_le9 _ _)) (v := (p10 (dl v_.toInt.natAbs - 1 - nj28))) (pws_at jx28 (dl_le9 _ _)) (hb hby d50_131) rfl ?_
    refine Wk.ldiv X26 hx (hb hby d50_132) rfl (p10_ne _) ?_
    refine Wk.ldc2Long X26 hx hZ hown (w 210 _ rfl) (hb hby d50_133) rfl ?_
    refine Wk.lrem X26 hx (hb hby d50_136) rfl (by decide) ?_
    refine Wk.lstoreA X26 hx (Ls' := fun z => #[.val (.int v_), .val (.int j_), .val (.int (1 : Int32)), .val (.long j3), .second, .val (.int r4), .val (.int i5), .val (.ref a6), .val (.long z), .second]) (hb hby d50_137) rfl (fun _ => rfl) ?_
    intro j29 hj29
    show Wp p e below _ _ T26 (mkF m 139 #[.val (.int v_), .val (.int j_), .val (.int (1 : Int32)), .val (.long j3), .second, .val (.int r4), .val (.int i5), .val (.ref a6), .val (.long j29), .second] [])
    refine Wk.bipush X26 hx (v := (48 : Int32)) (hb hby d50_139) rfl rfl ?_
    refine Wk.lload X26 hx (hb hby d50_141) rfl rfl ?_
    refine Wk.l2i X26 hx (hb hby d50_143) rfl ?_
    refine Wk.iadd X26 hx (hb hby d50_144) rfl ?_
    refine Wk.i2c X26 hx (hb hby d50_145) rfl ?_
    intro c30 hc30
    have Lc30 : Chr c30 := chr_i2c hc30
    have hdc : c30 = dch v_.toInt.natAbs (dl v_.toInt.natAbs - 1 - nj28) := own_dc (own_absN hc1 hj3) (own_u31 rfl) (dl_le9 _ _) hj29 hc30
    have hdl : Lat c30 := by rw [hdc]; exact dch_lat _ _
    have KK31 : Keep h0 h26 [] := ((((((((((((Keep.refl h0 []).ext E6).wr W8 (Or.inr (Nat.le_of_eq g6))).wr W10 (Or.inr (Nat.le_of_eq g6))).wr W12 (Or.inr (Nat.le_of_eq g6))).wr W14 (Or.inr (Nat.le_of_eq g6))).wr W16 (Or.inr (Nat.le_of_eq g6))).wr W18 (Or.inr (Nat.le_of_eq g6))).wr W20 (Or.inr (Nat.le_of_eq g6))).wr W22 (Or.inr (Nat.le_of_eq g6))).wr W24 (Or.inr (Nat.le_of_eq g6))).wr W26 (Or.inr (Nat.le_of_eq g6)))
    exact Wk.retZ' X26 hx hlk hr (by simp) (hb hby d50_146) (by decide) (by decide) (Qc := Q_rm_dch Z v_ j_ h0) e26 ⟨c30, (congrArg (fun q => some (Value.int q)) (narC Lc30)), N26, KK31, hdl, (jd28.trans (by rw [hdc]; exact dch_b8 _ _))⟩
  refine Wk.ifYes X0 hx (hb hby d50_1) (by decide) (q := 8) rfl ((if0 _ _).trans (flt hc1).2.1) ?_
  refine Wk.iconst X0 hx (v := (0 : Int32)) (hb hby d50_8) rfl rfl ?_
  refine Wk.istoreN X0 hx (Ls' := #[.val (.int v_), .val (.int j_), .val (.int (0 : Int32)), .unset, .unset, .unset, .unset, .unset, .unset, .unset]) (hb hby d50_9) rfl rfl ?_
  refine Wk.iloadN X0 hx (hb hby d50_10) rfl rfl ?_
  refine Wk.ifYes X0 hx (hb hby d50_11) (by decide) (q := 21) rfl ((if0 _ _).trans (teq (by decide : (0 : Int32) = (0 : Int32))).1) ?_
  refine Wk.iloadN X0 hx (hb hby d50_21) rfl rfl ?_
  refine Wk.ifYes X0 hx (hb hby d50_22) (by decide) (q := 31) rfl ((if0 _ _).trans (teq (by decide : (0 : Int32) = (0 : Int32))).1) ?_
  refine Wk.iloadN X0 hx (hb hby d50_31) rfl rfl ?_
  refine Wk.i2l X0 hx (hb hby d50_32) rfl ?_
  refine Wk.lstoreNA X0 hx (Ls' := fun z => #[.val (.int v_), .val (.int j_), .val (.int (0 : Int32)), .val (.long z), .second, .unset, .unset, .unset, .unset, .unset]) (hb hby d50_33) rfl (fun _ => rfl) ?_
  intro j32 hj32
  show Wp p e below _ _ s₁ (mkF m 34 #[.val (.int v_), .val (.int j_), .val (.int (0 : Int32)), .val (.long j32), .second, .unset, .unset, .unset, .unset, .unset] [])
  refine Wk.lloadN X0 hx (hb hby d50_34) rfl rfl ?_
  refine Wk.callS X0 hx hZ hown (w 207 _ rfl) (w 208 _ rfl) (w 4 _ rfl) (w 209 _ rfl) (by decide) (as' := [(.long j32)]) (backOf (W := 0) (rm_dig l Z a0 hw [] j32 v_.toInt.natAbs h0 O0 (own_absP hc1 hj32)) hZ (w 209 _ rfl) (w 4 _ rfl) (by decide) (by decide)) e0 (by rw [hml]; rfl) (rest := []) (lenOf pd32 rfl) rfl (Nat.le_of_eq rfl) (hb hby d50_35) rfl (by decide) (by decide) ?_
  intro T33 h33 v33 L33 X33 e33 hQ33
  obtain ⟨r33, rfl, Nq33, K33, q33_0⟩ := hQ33
  have N33 := Fk.app N0 Nq33 (Nat.le_refl _) all0
  rw [K33] at e33
  show Wp p e below _ _ T33 (mkF m 38 #[.val (.int v_), .val (.int j_), .val (.int (0 : Int32)), .val (.long j32), .second, .unset, .unset, .unset, .unset, .unset] [(.int r33)])
  refine Wk.istore X33 hx (Ls' := #[.val (.int v_), .val (.int j_), .val (.int (0 : Int32)), .val (.long j32), .second, .val (.int r33), .unset, .unset, .unset, .unset]) (hb hby d50_38) rfl rfl ?_
  refine Wk.iloadN X33 hx (hb hby d50_40) rfl rfl ?_
  refine Wk.ifYes X33 hx (hb hby d50_41) (by decide) (q := 50) rfl ((if0 _ _).trans (teq (by decide : (0 : Int32) = (0 : Int32))).1) ?_
  refine Wk.iloadN X33 hx (hb hby d50_50) rfl rfl ?_
  refine Wk.istore X33 hx (Ls' := #[.val (.int v_), .val (.int j_), .val (.int (0 : Int32)), .val (.long j32), .second, .val (.int r33), .val (.int j_), .unset, .unset, .unset]) (hb hby d50_51) rfl rfl ?_
  refine Wk.bipush X33 hx (v := (10 : Int32)) (hb hby d50_53) rfl rfl ?_
  refine Wk.newarray X33 hx hZ (w 267 _ rfl) e33 (hb hby d50_55) rfl (by decide) 10 (by decide) (by decide) (by decide) (by decide) ?_
  intro T34 h34 a34 kA34 g34 X34 e34 E34 A34
  have O35 : Old Z Z.heap.size h34 := O0.ext E34
  have V34 : Arv Z h34 a34 kA34 .long (10 : Int32) [(.long (0 : Int64)), (.long (0 : Int64)), (.long (0 : Int64)), (.long (0 : Int64)), (.long (0 : Int64)), (.long (0 : Int64)), (.long (0 : Int64)), (.long (0 : Int64)), (.long (0 : Int64)), (.long (0 : Int64))] (.long (0 : Int64)) := A34.pad (pad_rep [] (.long (0 : Int64)) 10)
  refine Wk.dup X34 hx (hb hby d50_57) rfl rfl ?_
  refine Wk.iconst X34 hx (v := (0 : Int32)) (hb hby d50_58) rfl rfl ?_
  refine Wk.lconst X34 hx (v := (1 : Int64)) (hb hby d50_59) rfl rfl ?_
  refine Wk.lastore X34 hx hZ e34 V34 (by decide) (by decide) 0 rfl (Nat.le_of_ble_eq_true rfl) (w := (1 : Int64)) rfl (hb hby d50_60) rfl ?_
  intro T36 h36 L36 M36 X36 e36 W36 A36
  have N36 := M36 _ _ N33 (Or.inr (Nat.le_of_eq g34))
  have O37 : Old Z Z.heap.size h36 := O35.wr W36 (Nat.le_trans (Nat.le_trans (Nat.le_trans (Nat.le_of_eq O0.1.symm) O0.2.1) (Keep.refl h0 []).1) (Nat.le_of_eq g34))
  have V36 : Arv Z h36 a34 kA34 .long (10 : Int32) [(.long (1 : Int64)), (.long (0 : Int64)), (.long (0 : Int64)), (.long (0 : Int64)), (.long (0 : Int64)), (.long (0 : Int64)), (.long (0 : Int64)), (.long (0 : Int64)), (.long (0 : Int64)), (.long (0 : Int64))] (.long (0 : Int64)) := A36
  refine Wk.dup X36 hx (hb hby d50_61) rfl rfl ?_
  refine Wk.iconst X36 hx (v := (1 : Int32)) (hb hby d50_62) rfl rfl ?_
  refine Wk.ldc2Long X36 hx hZ hown (w 210 _ rfl) (hb hby d50_63) rfl ?_
  refine Wk.lastore X36 hx hZ e36 V36 (by decide) (by decide) 1 rfl (Nat.le_of_ble_eq_true rfl) (w := (10 : Int64)) rfl (hb hby d50_66) rfl ?_
  intro T38 h38 L38 M38 X38 e38 W38 A38
  have N38 := M38 _ _ N36 (Or.inr (Nat.le_of_eq g34))
  have O39 : Old Z Z.heap.size h38 := O37.wr W38 (Nat.le_trans (Nat.le_trans (Nat.le_trans (Nat.le_of_eq O0.1.symm) O0.2.1) (Keep.refl h0 []).1) (Nat.le_of_eq g34))
  have V38 : Arv Z h38 a34 kA34 .long (10 : Int32) [(.long (1 : Int64)), (.long (10 : Int64)), (.long (0 : Int64)), (.long (0 : Int64)), (.long (0 : Int64)), (.long (0 : Int64)), (.long (0 : Int64)), (.long (0 : Int64)), (.long (0 : Int64)), (.long (0 : Int64))] (.long (0 : Int64)) := A38
  refine Wk.dup X38 hx (hb hby d50_67) rfl rfl ?_
  refine Wk.iconst X38 hx (v := (2 : Int32)) (hb hby d50_68) rfl rfl ?_
  refine Wk.ldc2Long X38 hx hZ hown (w 239 _ rfl) (hb hby d50_69) rfl ?_
  refine Wk.lastore X38 hx hZ e38 V38 (by decide) (by decide) 2 rfl (Nat.le_of_ble_eq_true rfl) (w := (100 : Int64)) rfl (hb hby d50_72) rfl ?_
  intro T40 h40 L40 M40 X40 e40 W40 A40
  have N40 := M40 _ _ N38 (Or.inr (Nat.le_of_eq g34))
  have O41 : Old Z Z.heap.size h40 := O39.wr W40 (Nat.le_trans (Nat.le_trans (Nat.le_trans (Nat.le_of_eq O0.1.symm) O0.2.1) (Keep.refl h0 []).1) (Nat.le_of_eq g34))
  have V40 : Arv Z h40 a34 kA34 .long (10 : Int32) [(.long (1 : Int64)), (.long (10 : Int64)), (.long (100 : Int64)), (.long (0 : Int64)), (.long (0 : Int64)), (.long (0 : Int64)), (.long (0 : Int64)), (.long (0 : Int64)), (.long (0 : Int64)), (.long (0 : Int64))] (.long (0 : Int64)) := A40
  refine Wk.dup X40 hx (hb hby d50_73) rfl rfl ?_
  refine Wk.iconst X40 hx (v := (3 : Int32)) (hb hby d50_74) rfl rfl ?_
  refine Wk.ldc2Long X40 hx hZ hown (w 240 _ rfl) (hb hby d50_75) rfl ?_
  refine Wk.lastore X40 hx hZ e40 V40 (by decide) (by decide) 3 rfl (Nat.le_of_ble_eq_true rfl) (w := (1000 : Int64)) rfl (hb hby d50_78) rfl ?_
  intro T42 h42 L42 M42 X42 e42 W42 A42
  have N42 := M42 _ _ N40 (Or.inr (Nat.le_of_eq g34))
  have O43 : Old Z Z.heap.size h42 := O41.wr W42 (Nat.le_trans (Nat.le_trans (Nat.le_trans (Nat.le_of_eq O0.1.symm) O0.2.1) (Keep.refl h0 []).1) (Nat.le_of_eq g34))
  have V42 : Arv Z h42 a34 kA34 .long (10 : Int32) [(.long (1 : Int64)), (.long (10 : Int64)), (.long (100 : Int64)), (.long (1000 : Int64)), (.long (0 : Int64)), (.long (0 : Int64)), (.long (0 : Int64)), (.long (0 : Int64)), (.long (0 : Int64)), (.long (0 : Int64))] (.long (0 : Int64)) := A42
  refine Wk.dup X42 hx (hb hby d50_79) rfl rfl ?_
  refine Wk.iconst X42 hx (v := (4 : Int32)) (hb hby d50_80) rfl rfl ?_
  refine Wk.ldc2Long X42 hx hZ hown (w 258 _ rfl) (hb hby d50_81) rfl ?_
  refine Wk.lastore X42 hx hZ e42 V42 (by decide) (by decide) 4 rfl (Nat.le_of_ble_eq_true rfl) (w := (10000 : Int64)) rfl (hb hby d50_84) rfl ?_
  intro T44 h44 L44 M44 X44 e44 W44 A44
  have N44 := M44 _ _ N42 (Or.inr (Nat.le_of_eq g34))
  have O45 : Old Z Z.heap.size h44 := O43.wr W44 (Nat.le_trans (Nat.le_trans (Nat.le_trans (Nat.le_of_eq O0.1.symm) O0.2.1) (Keep.refl h0 []).1) (Nat.le_of_eq g34))
  have V44 : Arv Z h44 a34 kA34 .long (10 : Int32) [(.long (1 : Int64)), (.long (10 : Int64)), (.long (100 : Int64)), (.long (1000 : Int64)), (.long (10000 : Int64)), (.long (0 : Int64)), (.long (0 : Int64)), (.long (0 : Int64)), (.long (0 : Int64)), (.long (0 : Int64))] (.long (0 : Int64)) := A44
  refine Wk.dup X44 hx (hb hby d50_85) rfl rfl ?_
  refine Wk.iconst X44 hx (v := (5 : Int32)) (hb hby d50_86) rfl rfl ?_
  refine Wk.ldc2Long X44 hx hZ hown (w 259 _ rfl) (hb hby d50_87) rfl ?_
  refine Wk.lastore X44 hx hZ e44 V44 (by decide) (by decide) 5 rfl (Nat.le_of_ble_eq_true rfl) (w := (100000 : Int64)) rfl (hb hby d50_90) rfl ?_
  intro T46 h46 L46 M46 X46 e46 W46 A46
  have N46 := M46 _ _ N44 (Or.inr (Nat.le_of_eq g34))
  have O47 : Old Z Z.heap.size h46 := O45.wr W46 (Nat.le_trans (Nat.le_trans (Nat.le_trans (Nat.le_of_eq O0.1.symm) O0.2.1) (Keep.refl h0 []).1) (Nat.le_of_eq g34))
  have V46 : Arv Z h46 a34 kA34 .long (10 : Int32) [(.long (1 : Int64)), (.long (10 : Int64)), (.long (100 : Int64)), (.long (1000 : Int64)), (.long (10000 : Int64)), (.long (100000 : Int64)), (.long (0 : Int64)), (.long (0 : Int64)), (.long (0 : Int64)), (.long (0 : Int64))] (.long (0 : Int64)) := A46
  refine Wk.dup X46 hx (hb hby d50_91) rfl rfl ?_
  refine Wk.bipush X46 hx (v := (6 : Int32)) (hb hby d50_92) rfl rfl ?_
  refine Wk.ldc2Long X46 hx hZ hown (w 260 _ rfl) (hb hby d50_94) rfl ?_
  refine Wk.lastore X46 hx hZ e46 V46 (by decide) (by decide) 6 rfl (Nat.le_of_ble_eq_true rfl) (w := (1000000 : Int64)) rfl (hb hby d50_97) rfl ?_
  intro T48 h48 L48 M48 X48 e48 W48 A48
  have N48 := M48 _ _ N46 (Or.inr (Nat.le_of_eq g34))
  have O49 : Old Z Z.heap.size h48 := O47.wr W48 (Nat.le_trans (Nat.le_trans (Nat.le_trans (Nat.le_of_eq O0.1.symm) O0.2.1) (Keep.refl h0 []).1) (Nat.le_of_eq g34))
  have V48 : Arv Z h48 a34 kA34 .long (10 : Int32) [(.long (1 : Int64)), (.long (10 : Int64)), (.long (100 : Int64)), (.long (1000 : Int64)), (.long (10000 : Int64)), (.long (100000 : Int64)), (.long (1000000 : Int64)), (.long (0 : Int64)), (.long (0 : Int64)), (.long (0 : Int64))] (.long (0 : Int64)) := A48
  refine Wk.dup X48 hx (hb hby d50_98) rfl rfl ?_
  refine Wk.bipush X48 hx (v := (7 : Int32)) (hb hby d50_99) rfl rfl ?_
  refine Wk.ldc2Long X48 hx hZ hown (w 261 _ rfl) (hb hby d50_101) rfl ?_
  refine Wk.lastore X48 hx hZ e48 V48 (by decide) (by decide) 7 rfl (Nat.le_of_ble_eq_true rfl) (w := (10000000 : Int64)) rfl (hb hby d50_104) rfl ?_
  intro T50 h50 L50 M50 X50 e50 W50 A50
  have N50 := M50 _ _ N48 (Or.inr (Nat.le_of_eq g34))
  have O51 : Old Z Z.heap.size h50 := O49.wr W50 (Nat.le_trans (Nat.le_trans (Nat.le_trans (Nat.le_of_eq O0.1.symm) O0.2.1) (Keep.refl h0 []).1) (Nat.le_of_eq g34))
  have V50 : Arv Z h50 a34 kA34 .long (10 : Int32) [(.long (1 : Int64)), (.long (10 : Int64)), (.long (100 : Int64)), (.long (1000 : Int64)), (.long (10000 : Int64)), (.long (100000 : Int64)), (.long (1000000 : Int64)), (.long (10000000 : Int64)), (.long (0 : Int64)), (.long (0 : Int64))] (.long (0 : Int64)) := A50
  refine Wk.dup X50 hx (hb hby d50_105) rfl rfl ?_
  refine Wk.bipush X50 hx (v := (8 : Int32)) (hb hby d50_106) rfl rfl ?_
  refine Wk.ldc2Long X50 hx hZ hown (w 262 _ rfl) (hb hby d50_108) rfl ?_
  refine Wk.lastore X50 hx hZ e50 V50 (by decide) (by decide) 8 rfl (Nat.le_of_ble_eq_true rfl) (w := (100000000 : Int64)) rfl (hb hby d50_111) rfl ?_
  intro T52 h52 L52 M52 X52 e52 W52 A52
  have N52 := M52 _ _ N50 (Or.inr (Nat.le_of_eq g34))
  have O53 : Old Z Z.heap.size h52 := O51.wr W52 (Nat.le_trans (Nat.le_trans (Nat.le_trans (Nat.le_of_eq O0.1.symm) O0.2.1) (Keep.refl h0 []).1) (Nat.le_of_eq g34))
  have V52 : Arv Z h52 a34 kA34 .long (10 : Int32) [(.long (1 : Int64)), (.long (10 : Int64)), (.long (100 : Int64)), (.long (1000 : Int64)), (.long (10000 : Int64)), (.long (100000 : Int64)), (.long (1000000 : Int64)), (.long (10000000 : Int64)), (.long (100000000 : Int64)), (.long (0 : Int64))] (.long (0 : Int64)) := A52
  refine Wk.dup X52 hx (hb hby d50_112) rfl rfl ?_
  refine Wk.bipush X52 hx (v := (9 : Int32)) (hb hby d50_113) rfl rfl ?_
  refine Wk.ldc2Long X52 hx hZ hown (w 263 _ rfl) (hb hby d50_115) rfl ?_
  refine Wk.lastore X52 hx hZ e52 V52 (by decide) (by decide) 9 rfl (Nat.le_of_ble_eq_true rfl) (w := (1000000000 : Int64)) rfl (hb hby d50_118) rfl ?_
  intro T54 h54 L54 M54 X54 e54 W54 A54
  have N54 := M54 _ _ N52 (Or.inr (Nat.le_of_eq g34))
  have O55 : Old Z Z.heap.size h54 := O53.wr W54 (Nat.le_trans (Nat.le_trans (Nat.le_trans (Nat.le_of_eq O0.1.symm) O0.2.1) (Keep.refl h0 []).1) (Nat.le_of_eq g34))
  have V54 : Arv Z h54 a34 kA34 .long (10 : Int32) [(.long (1 : Int64)), (.long (10 : Int64)), (.long (100 : Int64)), (.long (1000 : Int64)), (.long (10000 : Int64)), (.long (100000 : Int64)), (.long (1000000 : Int64)), (.long (10000000 : Int64)), (.long (100000000 : Int64)), (.long (1000000000 : Int64))] (.long (0 : Int64)) := A54
  refine Wk.astore X54 hx (Ls' := #[.val (.int v_), .val (.int j_), .val (.int (0 : Int32)), .val (.long j32), .second, .val (.int r33), .val (.int j_), .val (.ref a34), .unset, .unset]) (hb hby d50_119) rfl rfl rfl ?_
  refine Wk.lloadN X54 hx (hb hby d50_121) rfl rfl ?_
  refine Wk.aload X54 hx (hb hby d50_122) rfl rfl rfl ?_
  refine Wk.iload X54 hx (hb hby d50_124) rfl rfl ?_
  refine Wk.iconst X54 hx (v := (1 : Int32)) (hb hby d50_126) rfl rfl ?_
  refine Wk.isub X54 hx (hb hby d50_127) rfl ?_
  refine Wk.iload X54 hx (hb hby d50_128) rfl rfl ?_
  refine Wk.isub X54 hx (hb hby d50_130) rfl ?_
  obtain ⟨nj56, ja56, jb56, jc56, jd56⟩ := own_jP hc1 hj0 hj1
  have jx56 := own_exp q33_0 ja56 jc56 (dl_10 _).2
  refine Wk.laload X54 hx hZ e54 V54 (own_nn jx56) (own_10 jx56 (dl_le9 _ _)) (v := (p10 (dl v_.toInt.natAbs - 1 - nj56))) (pws_at jx56 (dl_le9 _ _)) (hb hby d50_131) rfl ?_
  refine Wk.ldiv X54 hx (hb hby d50_132) rfl (p10_ne _) ?_
  refine Wk.ldc2Long X54 hx hZ hown (w 210 _ rfl) (hb hby d50_133) rfl ?_
  refine Wk.lrem X54 hx (hb hby d50_136) rfl (by decide) ?_
  refine Wk.lstoreA X54 hx (Ls' := fun z => #[.val (.int v_), .val (.int j_), .val (.int (0 : Int32)), .val (.long j32), .second, .val (.int r33), .val (.int j_), .val (.ref a34), .val (.long z), .second]) (hb hby d50_137) rfl (fun _ => rfl) ?_
  intro j57 hj57
  show Wp p e below _ _ T54 (mkF m 139 #[.val (.int v_), .val (.int j_), .val (.int (0 : Int32)), .val (.long j32), .second, .val (.int r33), .val (.int j_), .val (.ref a34), .val (.long j57), .second] [])
  refine Wk.bipush X54 hx (v := (48 : Int32)) (hb hby d50_139) rfl rfl ?_
  refine Wk.lload X54 hx (hb hby d50_141) rfl rfl ?_
  refine Wk.l2i X54 hx (hb hby d50_143) rfl ?_
  refine Wk.iadd X54 hx (hb hby d50_144) rfl ?_
  refine Wk.i2c X54 hx (hb hby d50_145) rfl ?_
  intro c58 hc58
  have Lc58 : Chr c58 := chr_i2c hc58
  have hdc : c58 = dch v_.toInt.natAbs (dl v_.toInt.natAbs - 1 - nj56) := own_dc (own_absP hc1 hj32) (own_u31 rfl) (dl_le9 _ _) hj57 hc58
  have hdl : Lat c58 := by rw [hdc]; exact dch_lat _ _
  have KK59 : Keep h0 h54 [] := ((((((((((((Keep.refl h0 []).ext E34).wr W36 (Or.inr (Nat.le_of_eq g34))).wr W38 (Or.inr (Nat.le_of_eq g34))).wr W40 (Or.inr (Nat.le_of_eq g34))).wr W42 (Or.inr (Nat.le_of_eq g34))).wr W44 (Or.inr (Nat.le_of_eq g34))).wr W46 (Or.inr (Nat.le_of_eq g34))).wr W48 (Or.inr (Nat.le_of_eq g34))).wr W50 (Or.inr (Nat.le_of_eq g34))).wr W52 (Or.inr (Nat.le_of_eq g34))).wr W54 (Or.inr (Nat.le_of_eq g34)))
  exact Wk.retZ' X54 hx hlk hr (by simp) (hb hby d50_146) (by decide) (by decide) (Qc := Q_rm_dch Z v_ j_ h0) e54 ⟨c58, (congrArg (fun q => some (Value.int q)) (narC Lc58)), N54, KK59, hdl, (jd56.trans (by rw [hdc]; exact dch_b8 _ _))⟩
theorem d45_0 : decode method_8_code 0 = .ok (.iload 7, 2) := by decide +kernel
theorem d45_2 : decode method_8_code 2 = .ok (.iload_n 1, 1) := by decide +kernel
theorem d45_3 : decode method_8_code 3 = .ok (.if_icmp .ge 8, 3) := by decide +kernel
theorem d45_6 : decode method_8_code 6 = .ok (.aload_n 0, 1) := by decide +kernel
theorem d45_7 : decode method_8_code 7 = .ok (.iload 7, 2) := by decide +kernel
theorem d45_9 : decode method_8_code 9 = .ok (.caload, 1) := by decide +kernel
theorem d45_10 : decode method_8_code 10 = .ok (.ireturn, 1) := by decide +kernel
theorem d45_11 : decode method_8_code 11 = .ok (.iload 7, 2) := by decide +kernel
theorem d45_13 : decode method_8_code 13 = .ok (.iload_n 1, 1) := by decide +kernel
theorem d45_14 : decode method_8_code 14 = .ok (.isub, 1) := by decide +kernel
theorem d45_15 : decode method_8_code 15 = .ok (.istore 7, 2) := by decide +kernel
theorem d45_17 : decode method_8_code 17 = .ok (.iload 7, 2) := by decide +kernel
theorem d45_19 : decode method_8_code 19 = .ok (.ifCond .ne 6, 3) := by decide +kernel
theorem d45_22 : decode method_8_code 22 = .ok (.bipush 58, 2) := by decide +kernel
theorem d45_24 : decode method_8_code 24 = .ok (.ireturn, 1) := by decide +kernel
theorem d45_25 : decode method_8_code 25 = .ok (.iload 7, 2) := by decide +kernel
theorem d45_27 : decode method_8_code 27 = .ok (.iconst 1, 1) := by decide +kernel
theorem d45_28 : decode method_8_code 28 = .ok (.isub, 1) := by decide +kernel
theorem d45_29 : decode method_8_code 29 = .ok (.istore 7, 2) := by decide +kernel
theorem d45_31 : decode method_8_code 31 = .ok (.iload 7, 2) := by decide +kernel
theorem d45_33 : decode method_8_code 33 = .ok (.iload_n 3, 1) := by decide +kernel
theorem d45_34 : decode method_8_code 34 = .ok (.if_icmp .ge 10, 3) := by decide +kernel
theorem d45_37 : decode method_8_code 37 = .ok (.iload_n 2, 1) := by decide +kernel
theorem d45_38 : decode method_8_code 38 = .ok (.iload 7, 2) := by decide +kernel
theorem d45_40 : decode method_8_code 40 = .ok (.invokestatic 76, 3) := by decide +kernel
theorem pd33 : parseMethodDescriptor "(II)C" = some ⟨[.int, .int], some .char⟩ := by decide +kernel
theorem d45_43 : decode method_8_code 43 = .ok (.ireturn, 1) := by decide +kernel
theorem d45_44 : decode method_8_code 44 = .ok (.iload 7, 2) := by decide +kernel
theorem d45_46 : decode method_8_code 46 = .ok (.iload_n 3, 1) := by decide +kernel
theorem d45_47 : decode method_8_code 47 = .ok (.isub, 1) := by decide +kernel
theorem d45_48 : decode method_8_code 48 = .ok (.istore 7, 2) := by decide +kernel
theorem d45_50 : decode method_8_code 50 = .ok (.iload 7, 2) := by decide +kernel
theorem d45_52 : decode method_8_code 52 = .ok (.ifCond .ne 6, 3) := by decide +kernel
theorem d45_55 : decode method_8_code 55 = .ok (.bipush 58, 2) := by decide +kernel
theorem d45_57 : decode method_8_code 57 = .ok (.ireturn, 1) := by decide +kernel
theorem d45_58 : decode method_8_code 58 = .ok (.iload 7, 2) := by decide +kernel
theorem d45_60 : decode method_8_code 60 = .ok (.iconst 1, 1) := by decide +kernel
theorem d45_61 : decode method_8_code 61 = .ok (.isub, 1) := by decide +kernel
theorem d45_62 : decode method_8_code 62 = .ok (.istore 7, 2) := by decide +kernel
theorem d45_64 : decode method_8_code 64 = .ok (.iload 7, 2) := by decide +kernel
theorem d45_66 : decode method_8_code 66 = .ok (.iload 5, 2) := by decide +kernel
theorem d45_68 : decode method_8_code 68 = .ok (.if_icmp .ge 11, 3) := by decide +kernel
theorem d45_71 : decode method_8_code 71 = .ok (.iload 4, 2) := by decide +kernel
theorem d45_73 : decode method_8_code 73 = .ok (.iload 7, 2) := by decide +kernel
theorem d45_75 : decode method_8_code 75 = .ok (.invokestatic 76, 3) := by decide +kernel
theorem d45_78 : decode method_8_code 78 = .ok (.ireturn, 1) := by decide +kernel
theorem d45_79 : decode method_8_code 79 = .ok (.iload 7, 2) := by decide +kernel
theorem d45_81 : decode method_8_code 81 = .ok (.iload 5, 2) := by decide +kernel
theorem d45_83 : decode method_8_code 83 = .ok (.isub, 1) := by decide +kernel
theorem d45_84 : decode method_8_code 84 = .ok (.istore 7, 2) := by decide +kernel
theorem d45_86 : decode method_8_code 86 = .ok (.iload 7, 2) := by decide +kernel
theorem d45_88 : decode method_8_code 88 = .ok (.ifCond .ne 6, 3) := by decide +kernel
theorem d45_91 : decode method_8_code 91 = .ok (.bipush 58, 2) := by decide +kernel
theorem d45_93 : decode method_8_code 93 = .ok (.ireturn, 1) := by decide +kernel
theorem d45_94 : decode method_8_code 94 = .ok (.iload 7, 2) := by decide +kernel
theorem d45_96 : decode method_8_code 96 = .ok (.iconst 1, 1) := by decide +kernel
theorem d45_97 : decode method_8_code 97 = .ok (.if_icmp .ne 6, 3) := by decide +kernel
theorem d45_100 : decode method_8_code 100 = .ok (.bipush 32, 2) := by decide +kernel
theorem d45_102 : decode method_8_code 102 = .ok (.ireturn, 1) := by decide +kernel
theorem d45_103 : decode method_8_code 103 = .ok (.iload 7, 2) := by decide +kernel
theorem d45_105 : decode method_8_code 105 = .ok (.iconst 2, 1) := by decide +kernel
theorem d45_106 : decode method_8_code 106 = .ok (.isub, 1) := by decide +kernel
theorem d45_107 : decode method_8_code 107 = .ok (.istore 7, 2) := by decide +kernel
theorem d45_109 : decode method_8_code 109 = .ok (.aload 6, 2) := by decide +kernel
theorem d45_111 : decode method_8_code 111 = .ok (.iload 7, 2) := by decide +kernel
theorem d45_113 : decode method_8_code 113 = .ok (.caload, 1) := by decide +kernel
theorem d45_114 : decode method_8_code 114 = .ok (.ireturn, 1) := by decide +kernel
def Q_rm_exp (Z : State) (fa : Addr) (kf : ClassId) (c0 : Int32) (c1 : Int32) (c2 : Int32) (c3 : Int32) (fl : Int32) (ln_ : Int32) (ll : Int32) (cn_ : Int32) (cc_ : Int32) (ma : Addr) (km : ClassId) (d0 : Int32) (d1 : Int32) (d2 : Int32) (d3 : Int32) (p_ : Int32) (ml : Int32) (kk : Nat) (h0 : Heap) (v : Option Value) (h : Heap) (L : List Loc) : Prop := ∃ r : Int32, v = some (.int r) ∧ Fk h0.size [] L ∧ Keep h0 h [] ∧ Lat r ∧ (txt (sb4 c0 c1 c2 c3 fl.toNatClampNeg) ln_ cn_ (sb4 d0 d1 d2 d3 ml.toNatClampNeg)).getD kk 0 = b8 r
set_option maxRecDepth 65536 in
set_option maxHeartbeats 40000000 in
theorem rm_exp (l : Launch) (Z : State) (a0 : Array Value) (hw : ∀ d ∈ tables_1, d.before a0 Z = true) (ws : List Jvm.Cond) (fa : Addr) (kf : ClassId) (c0 : Int32) (c1 : Int32) (c2 : Int32) (c3 : Int32) (fl : Int32) (ln_ : Int32) (ll : Int32) (cn_ : Int32) (cc_ : Int32) (ma : Addr) (km : ClassId) (d0 : Int32) (d1 : Int32) (d2 : Int32) (d3 : Int32) (p_ : Int32) (ml : Int32) (kk : Nat) (h0 : Heap) (O0 : Old Z Z.heap.size h0) (pf : Arv Z h0 fa kf .char (4 : Int32) [(.int c0), (.int c1), (.int c2), (.int c3)] (.int (0 : Int32))) (pm : Arv Z h0 ma km .char (4 : Int32) [(.int d0), (.int d1), (.int d2), (.int d3)] (.int (0 : Int32))) (hLc0 : Lat c0) (hLc1 : Lat c1) (hLc2 : Lat c2) (hLc3 : Lat c3) (hLd0 : Lat d0) (hLd1 : Lat d1) (hLd2 : Lat d2) (hLd3 : Lat d3) (hF : L5 fl) (hM : L5 ml) (hll : ll.toInt = ((db ln_).length : Int)) (hcl : cc_.toInt = ((db cn_).length : Int)) (hp : p_.toInt = (kk : Int)) (hk : kk < (txt (sb4 c0 c1 c2 c3 fl.toNatClampNeg) ln_ cn_ (sb4 d0 d1 d2 d3 ml.toNatClampNeg)).length) :
    Ctr l Z (⟨"com/example/lukko/lukko/RuleProblemTextPinLaw", "expected", "([CIIIII[CI)C"⟩ : MethodName) method_8_code 8 (some .char) ws ({ frames := 2, cells := 1, slots := 10, locals := 34 } : Room) #[(.ref fa), (.int fl), (.int ln_), (.int ll), (.int cn_), (.int cc_), (.ref ma), (.int p_)] h0 (Q_rm_exp Z fa kf c0 c1 c2 c3 fl ln_ ll cn_ cc_ ma km d0 d1 d2 d3 p_ ml kk h0) := by
  refine Ctr.intro (Ls := fun _ => #[.val (.ref fa), .val (.int fl), .val (.int ln_), .val (.int ll), .val (.int cn_), .val (.int cc_), .val (.ref ma), .val (.int p_)]) (plainFor_of_name pn31) (fun m => by first | rfl | (simp [entryFrame, mkF, argsToLocals, Value.category]; done)) ?_
  intro p e s m below meth c s₁ hx hby hml hr hlk hZ hown hnm hs0 X0 e0
  have w : ∀ (k : Nat) (d : Jvm.Cond), tables_1[k]? = some d → d.before a0 Z = true := fun k d q => hw d (List.mem_of_getElem? q)
  have N0 := Fk.nil h0.size []
  have s0 : At p_ 0 kk := At.ofN hp (own_k1 hk)
  have hfn : fl.toInt = ((sb4 c0 c1 c2 c3 fl.toNatClampNeg).length : Int) := own_fln hF
  refine Wk.iload X0 hx (hb hby d45_0) rfl rfl ?_
  refine Wk.iloadN X0 hx (hb hby d45_2) rfl rfl ?_
  by_cases hc1 : p_ < fl
  · skip
    refine Wk.icmpNo X0 hx (hb hby d45_3) rfl (tlt hc1).2.1 ?_
    refine Wk.aloadN X0 hx (hb hby d45_6) rfl rfl rfl ?_
    refine Wk.iload X0 hx (hb hby d45_7) rfl rfl ?_
    obtain ⟨z2, ga2, gb2, gc2⟩ := own_ch4 (own_fq hF s0 hc1) hF.nat.2 hLc0 hLc1 hLc2 hLc3
    refine Wk.caload X0 hx hZ e0 pf (own_n0 s0.2.1) (own_4 s0.2.1 (Nat.lt_of_lt_of_le (own_fq hF s0 hc1) hF.nat.2)) (v := z2) ga2 (hb hby d45_9) rfl ?_
    exact Wk.retZ' X0 hx hlk hr (by simp) (hb hby d45_10) (by decide) (by decide) (Qc := Q_rm_exp Z fa kf c0 c1 c2 c3 fl ln_ ll cn_ cc_ ma km d0 d1 d2 d3 p_ ml kk h0) e0 ⟨z2, (congrArg (fun q => some (Value.int q)) (narC gb2.chr)), N0, (Keep.refl h0 []), gb2, (own_lA hF s0 hc1 gc2)⟩
  refine Wk.icmpYes X0 hx (hb hby d45_3) (by decide) (q := 11) rfl (flt hc1).2.1 ?_
  refine Wk.iload X0 hx (hb hby d45_11) rfl rfl ?_
  refine Wk.iloadN X0 hx (hb hby d45_13) rfl rfl ?_
  refine Wk.isub X0 hx (hb hby d45_14) rfl ?_
  refine Wk.istoreA X0 hx (Ls' := fun z => #[.val (.ref fa), .val (.int fl), .val (.int ln_), .val (.int ll), .val (.int cn_), .val (.int cc_), .val (.ref ma), .val (.int z)]) (hb hby d45_15) rfl (fun _ => rfl) ?_
  intro i3 hi3
  show Wp p e below _ _ s₁ (mkF m 17 #[.val (.ref fa), .val (.int fl), .val (.int ln_), .val (.int ll), .val (.int cn_), .val (.int cc_), .val (.ref ma), .val (.int i3)] [])
  have s4 := s0.sub hfn hc1 hi3
  refine Wk.iload X0 hx (hb hby d45_17) rfl rfl ?_
  by_cases hc5 : i3 = (0 : Int32)
  · skip
    refine Wk.ifNo X0 hx (hb hby d45_19) rfl ((if0 _ _).trans (teq hc5).2) ?_
    refine Wk.bipush X0 hx (v := (58 : Int32)) (hb hby d45_22) rfl rfl ?_
    exact Wk.retZ' X0 hx hlk hr (by simp) (hb hby d45_24) (by decide) (by decide) (Qc := Q_rm_exp Z fa kf c0 c1 c2 c3 fl ln_ ll cn_ cc_ ma km d0 d1 d2 d3 p_ ml kk h0) e0 ⟨(58 : Int32), rfl, N0, (Keep.refl h0 []), (show Lat (58 : Int32) from ⟨by decide, by decide⟩), (own_lB s4 hc5)⟩
  refine Wk.ifYes X0 hx (hb hby d45_19) (by decide) (q := 25) rfl ((if0 _ _).trans (feq hc5).2) ?_
  refine Wk.iload X0 hx (hb hby d45_25) rfl rfl ?_
  refine Wk.iconst X0 hx (v := (1 : Int32)) (hb hby d45_27) rfl rfl ?_
  refine Wk.isub X0 hx (hb hby d45_28) rfl ?_
  refine Wk.istoreA X0 hx (Ls' := fun z => #[.val (.ref fa), .val (.int fl), .val (.int ln_), .val (.int ll), .val (.int cn_), .val (.int cc_), .val (.ref ma), .val (.int z)]) (hb hby d45_29) rfl (fun _ => rfl) ?_
  intro i6 hi6
  show Wp p e below _ _ s₁ (mkF m 31 #[.val (.ref fa), .val (.int fl), .val (.int ln_), .val (.int ll), .val (.int cn_), .val (.int cc_), .val (.ref ma), .val (.int i6)] [])
  have s7 := s4.sub (n := 1) (y := 1) rfl (s4.n1 hc5) hi6
  refine Wk.iload X0 hx (hb hby d45_31) rfl rfl ?_
  refine Wk.iloadN X0 hx (hb hby d45_33) rfl rfl ?_
  by_cases hc8 : i6 < ll
  · skip
    refine Wk.icmpNo X0 hx (hb hby d45_34) rfl (tlt hc8).2.1 ?_
    refine Wk.iloadN X0 hx (hb hby d45_37) rfl rfl ?_
    refine Wk.iload X0 hx (hb hby d45_38) rfl rfl ?_
    refine Wk.callS X0 hx hZ hown (w 264 _ rfl) (w 265 _ rfl) (w 4 _ rfl) (w 266 _ rfl) (by decide) (as' := [(.int ln_), (.int i6)]) (backOf (W := 0) (rm_dch l Z a0 hw [] ln_ i6 h0 O0 s7.2.1 (s7.lt hll hc8)) hZ (w 266 _ rfl) (w 4 _ rfl) (by decide) (by decide)) e0 (by rw [hml]; rfl) (rest := []) (lenOf pd33 rfl) rfl (Nat.le_of_eq rfl) (hb hby d45_40) rfl (by decide) (by decide) ?_
    intro T9 h9 v9 L9 X9 e9 hQ9
    obtain ⟨r9, rfl, Nq9, K9, q9_0, q9_1⟩ := hQ9
    have N9 := Fk.app N0 Nq9 (Nat.le_refl _) all0
    have O10 : Old Z Z.heap.size h9 := O0.keep K9 all0
    show Wp p e below _ _ T9 (mkF m 43 #[.val (.ref fa), .val (.int fl), .val (.int ln_), .val (.int ll), .val (.int cn_), .val (.int cc_), .val (.ref ma), .val (.int i6)] [(.int r9)])
    have KK11 : Keep h0 h9 [] := ((Keep.refl h0 []).trans K9 all0)
    exact Wk.retZ' X9 hx hlk hr (by simp) (hb hby d45_43) (by decide) (by decide) (Qc := Q_rm_exp Z fa kf c0 c1 c2 c3 fl ln_ ll cn_ cc_ ma km d0 d1 d2 d3 p_ ml kk h0) e9 ⟨r9, (congrArg (fun q => some (Value.int q)) (narC q9_0.chr)), N9, KK11, q9_0, (own_lC s7 hll hc8 q9_1)⟩
  refine Wk.icmpYes X0 hx (hb hby d45_34) (by decide) (q := 44) rfl (flt hc8).2.1 ?_
  refine Wk.iload X0 hx (hb hby d45_44) rfl rfl ?_
  refine Wk.iloadN X0 hx (hb hby d45_46) rfl rfl ?_
  refine Wk.isub X0 hx (hb hby d45_47) rfl ?_
  refine Wk.istoreA X0 hx (Ls' := fun z => #[.val (.ref fa), .val (.int fl), .val (.int ln_), .val (.int ll), .val (.int cn_), .val (.int cc_), .val (.ref ma), .val (.int z)]) (hb hby d45_48) rfl (fun _ => rfl) ?_
  intro i12 hi12
  show Wp p e below _ _ s₁ (mkF m 50 #[.val (.ref fa), .val (.int fl), .val (.int ln_), .val (.int ll), .val (.int cn_), .val (.int cc_), .val (.ref ma), .val (.int i12)] [])
  have s13 := s7.sub hll hc8 hi12
  refine Wk.iload X0 hx (hb hby d45_50) rfl rfl ?_
  by_cases hc14 : i12 = (0 : Int32)
  · skip
    refine Wk.ifNo X0 hx (hb hby d45_52) rfl ((if0 _ _).trans (teq hc14).2) ?_
    refine Wk.bipush X0 hx (v := (58 : Int32)) (hb hby d45_55) rfl rfl ?_
    exact Wk.retZ' X0 hx hlk hr (by simp) (hb hby d45_57) (by decide) (by decide) (Qc := Q_rm_exp Z fa kf c0 c1 c2 c3 fl ln_ ll cn_ cc_ ma km d0 d1 d2 d3 p_ ml kk h0) e0 ⟨(58 : Int32), rfl, N0, (Keep.refl h0 []), (show Lat (58 : Int32) from ⟨by decide, by decide⟩), (own_lD s13 hc14)⟩
  refine Wk.ifYes X0 hx (hb hby d45_52) (by decide) (q := 58) rfl ((if0 _ _).trans (feq hc14).2) ?_
  refine Wk.iload X0 hx (hb hby d45_58) rfl rfl ?_
  refine Wk.iconst X0 hx (v := (1 : Int32)) (hb hby d45_60) rfl rfl ?_
  refine Wk.isub X0 hx (hb hby d45_61) rfl ?_
  refine Wk.istoreA X0 hx (Ls' := fun z => #[.val (.ref fa), .val (.int fl), .val (.int ln_), .val (.int ll), .val (.int cn_), .val (.int cc_), .val (.ref ma), .val (.int z)]) (hb hby d45_62) rfl (fun _ => rfl) ?_
  intro i15 hi15
  show Wp p e below _ _ s₁ (mkF m 64 #[.val (.ref fa), .val (.int fl), .val (.int ln_), .val (.int ll), .val (.int cn_), .val (.int cc_), .val (.ref ma), .val (.int i15)] [])
  have s16 := s13.sub (n := 1) (y := 1) rfl (s13.n1 hc14) hi15
  refine Wk.iload X0 hx (hb hby d45_64) rfl rfl ?_
  refine Wk.iload X0 hx (hb hby d45_66) rfl rfl ?_
  by_cases hc17 : i15 < cc_
  · skip
    refine Wk.icmpNo X0 hx (hb hby d45_68) rfl (tlt hc17).2.1 ?_
    refine Wk.iload X0 hx (hb hby d45_71) rfl rfl ?_
    refine Wk.iload X0 hx (hb hby d45_73) rfl rfl ?_
    refine Wk.callS X0 hx hZ hown (w 264 _ rfl) (w 265 _ rfl) (w 4 _ rfl) (w 266 _ rfl) (by decide) (as' := [(.int cn_), (.int i15)]) (backOf (W := 0) (rm_dch l Z a0 hw [] cn_ i15 h0 O0 s16.2.1 (s16.lt hcl hc17)) hZ (w 266 _ rfl) (w 4 _ rfl) (by decide) (by decide)) e0 (by rw [hml]; rfl) (rest := []) (lenOf pd33 rfl) rfl (Nat.le_of_eq rfl) (hb hby d45_75) rfl (by decide) (by decide) ?_
    intro T18 h18 v18 L18 X18 e18 hQ18
    obtain ⟨r18, rfl, Nq18, K18, q18_0, q18_1⟩ := hQ18
    have N18 := Fk.app N0 Nq18 (Nat.le_refl _) all0
    have O19 : Old Z Z.heap.size h18 := O0.keep K18 all0
    show Wp p e below _ _ T18 (mkF m 78 #[.val (.ref fa), .val (.int fl), .val (.int ln_), .val (.int ll), .val (.int cn_), .val (.int cc_), .val (.ref ma), .val (.int i15)] [(.int r18)])
    have KK20 : Keep h0 h18 [] := ((Keep.refl h0 []).trans K18 all0)
    exact Wk.retZ' X18 hx hlk hr (by simp) (hb hby d45_78) (by decide) (by decide) (Qc := Q_rm_exp Z fa kf c0 c1 c2 c3 fl ln_ ll cn_ cc_ ma km d0 d1 d2 d3 p_ ml kk h0) e18 ⟨r18, (congrArg (fun q => some (Value.int q)) (narC q18_0.chr)), N18, KK20, q18_0, (own_lE s16 hcl hc17 q18_1)⟩
  refine Wk.icmpYes X0 hx (hb hby d45_68) (by decide) (q := 79) rfl (flt hc17).2.1 ?_
  refine Wk.iload X0 hx (hb hby d45_79) rfl rfl ?_
  refine Wk.iload X0 hx (hb hby d45_81) rfl rfl ?_
  refine Wk.isub X0 hx (hb hby d45_83) rfl ?_
  refine Wk.istoreA X0 hx (Ls' := fun z => #[.val (.ref fa), .val (.int fl), .val (.int ln_), .val (.int ll), .val (.int cn_), .val (.int cc_), .val (.ref ma), .val (.int z)]) (hb hby d45_84) rfl (fun _ => rfl) ?_
  intro i21 hi21
  show Wp p e below _ _ s₁ (mkF m 86 #[.val (.ref fa), .val (.int fl), .val (.int ln_), .val (.int ll), .val (.int cn_), .val (.int cc_), .val (.ref ma), .val (.int i21)] [])
  have s22 := s16.sub hcl hc17 hi21
  refine Wk.iload X0 hx (hb hby d45_86) rfl rfl ?_
  by_cases hc23 : i21 = (0 : Int32)
  · skip
    refine Wk.ifNo X0 hx (hb hby d45_88) rfl ((if0 _ _).trans (teq hc23).2) ?_
    refine Wk.bipush X0 hx (v := (58 : Int32)) (hb hby d45_91) rfl rfl ?_
    exact Wk.retZ' X0 hx hlk hr (by simp) (hb hby d45_93) (by decide) (by decide) (Qc := Q_rm_exp Z fa kf c0 c1 c2 c3 fl ln_ ll cn_ cc_ ma km d0 d1 d2 d3 p_ ml kk h0) e0 ⟨(58 : Int32), rfl, N0, (Keep.refl h0 []), (show Lat (58 : Int32) from ⟨by decide, by decide⟩), (own_lF s22 hc23)⟩
  refine Wk.ifYes X0 hx (hb hby d45_88) (by decide) (q := 94) rfl ((if0 _ _).trans (feq hc23).2) ?_
  refine Wk.iload X0 hx (hb hby d45_94) rfl rfl ?_
  refine Wk.iconst X0 hx (v := (1 : Int32)) (hb hby d45_96) rfl rfl ?_
  by_cases hc24 : i21 = (1 : Int32)
  · skip
    refine Wk.icmpNo X0 hx (hb hby d45_97) rfl (teq hc24).2 ?_
    refine Wk.bipush X0 hx (v := (32 : Int32)) (hb hby d45_100) rfl rfl ?_
    exact Wk.retZ' X0 hx hlk hr (by simp) (hb hby d45_102) (by decide) (by decide) (Qc := Q_rm_exp Z fa kf c0 c1 c2 c3 fl ln_ ll cn_ cc_ ma km d0 d1 d2 d3 p_ ml kk h0) e0 ⟨(32 : Int32), rfl, N0, (Keep.refl h0 []), (show Lat (32 : Int32) from ⟨by decide, by decide⟩), (own_lG s22 hc24)⟩
  refine Wk.icmpYes X0 hx (hb hby d45_97) (by decide) (q := 103) rfl (feq hc24).2 ?_
  refine Wk.iload X0 hx (hb hby d45_103) rfl rfl ?_
  refine Wk.iconst X0 hx (v := (2 : Int32)) (hb hby d45_105) rfl rfl ?_
  refine Wk.isub X0 hx (hb hby d45_106) rfl ?_
  refine Wk.istoreA X0 hx (Ls' := fun z => #[.val (.ref fa), .val (.int fl), .val (.int ln_), .val (.int ll), .val (.int cn_), .val (.int cc_), .val (.ref ma), .val (.int z)]) (hb hby d45_107) rfl (fun _ => rfl) ?_
  intro i25 hi25
  show Wp p e below _ _ s₁ (mkF m 109 #[.val (.ref fa), .val (.int fl), .val (.int ln_), .val (.int ll), .val (.int cn_), .val (.int cc_), .val (.ref ma), .val (.int i25)] [])
  have s26 := s22.sub (n := 2) (y := 2) rfl (s22.n2 hc23 hc24) hi25
  refine Wk.aload X0 hx (hb hby d45_109) rfl rfl rfl ?_
  refine Wk.iload X0 hx (hb hby d45_111) rfl rfl ?_
  have gq27 := own_mq hM s26 hk
  obtain ⟨z27, ga27, gb27, gc27⟩ := own_ch4 gq27 hM.nat.2 hLd0 hLd1 hLd2 hLd3
  refine Wk.caload X0 hx hZ e0 pm (own_n0 s26.2.1) (own_4 s26.2.1 (Nat.lt_of_lt_of_le gq27 hM.nat.2)) (v := z27) ga27 (hb hby d45_113) rfl ?_
  exact Wk.retZ' X0 hx hlk hr (by simp) (hb hby d45_114) (by decide) (by decide) (Qc := Q_rm_exp Z fa kf c0 c1 c2 c3 fl ln_ ll cn_ cc_ ma km d0 d1 d2 d3 p_ ml kk h0) e0 ⟨z27, (congrArg (fun q => some (Value.int q)) (narC gb27.chr)), N0, (Keep.refl h0 []), gb27, (own_lH s26 gc27)⟩
theorem d1_0 : decode method_3_code 0 = .ok (.iconst 4, 1) := by decide +kernel
theorem d1_1 : decode method_3_code 1 = .ok (.newarray .char, 2) := by decide +kernel
theorem d1_3 : decode method_3_code 3 = .ok (.astore_n 2, 1) := by decide +kernel
theorem d1_4 : decode method_3_code 4 = .ok (.aload_n 2, 1) := by decide +kernel
theorem d1_5 : decode method_3_code 5 = .ok (.iconst 0, 1) := by decide +kernel
theorem d1_6 : decode method_3_code 6 = .ok (.lload_n 0, 1) := by decide +kernel
theorem d1_7 : decode method_3_code 7 = .ok (.iconst 3, 1) := by decide +kernel
theorem d1_8 : decode method_3_code 8 = .ok (.lushr, 1) := by decide +kernel
theorem d1_9 : decode method_3_code 9 = .ok (.ldc2_w 49, 3) := by decide +kernel
theorem d1_12 : decode method_3_code 12 = .ok (.land, 1) := by decide +kernel
theorem d1_13 : decode method_3_code 13 = .ok (.l2i, 1) := by decide +kernel
theorem d1_14 : decode method_3_code 14 = .ok (.i2c, 1) := by decide +kernel
theorem d1_15 : decode method_3_code 15 = .ok (.castore, 1) := by decide +kernel
theorem d1_16 : decode method_3_code 16 = .ok (.aload_n 2, 1) := by decide +kernel
theorem d1_17 : decode method_3_code 17 = .ok (.iconst 1, 1) := by decide +kernel
theorem d1_18 : decode method_3_code 18 = .ok (.lload_n 0, 1) := by decide +kernel
theorem d1_19 : decode method_3_code 19 = .ok (.bipush 11, 2) := by decide +kernel
theorem d1_21 : decode method_3_code 21 = .ok (.lushr, 1) := by decide +kernel
theorem d1_22 : decode method_3_code 22 = .ok (.ldc2_w 49, 3) := by decide +kernel
theorem d1_25 : decode method_3_code 25 = .ok (.land, 1) := by decide +kernel
theorem d1_26 : decode method_3_code 26 = .ok (.l2i, 1) := by decide +kernel
theorem d1_27 : decode method_3_code 27 = .ok (.i2c, 1) := by decide +kernel
theorem d1_28 : decode method_3_code 28 = .ok (.castore, 1) := by decide +kernel
theorem d1_29 : decode method_3_code 29 = .ok (.aload_n 2, 1) := by decide +kernel
theorem d1_30 : decode method_3_code 30 = .ok (.iconst 2, 1) := by decide +kernel
theorem d1_31 : decode method_3_code 31 = .ok (.lload_n 0, 1) := by decide +kernel
theorem d1_32 : decode method_3_code 32 = .ok (.bipush 19, 2) := by decide +kernel
theorem d1_34 : decode method_3_code 34 = .ok (.lushr, 1) := by decide +kernel
theorem d1_35 : decode method_3_code 35 = .ok (.ldc2_w 49, 3) := by decide +kernel
theorem d1_38 : decode method_3_code 38 = .ok (.land, 1) := by decide +kernel
theorem d1_39 : decode method_3_code 39 = .ok (.l2i, 1) := by decide +kernel
theorem d1_40 : decode method_3_code 40 = .ok (.i2c, 1) := by decide +kernel
theorem d1_41 : decode method_3_code 41 = .ok (.castore, 1) := by decide +kernel
theorem d1_42 : decode method_3_code 42 = .ok (.aload_n 2, 1) := by decide +kernel
theorem d1_43 : decode method_3_code 43 = .ok (.iconst 3, 1) := by decide +kernel
theorem d1_44 : decode method_3_code 44 = .ok (.lload_n 0, 1) := by decide +kernel
theorem d1_45 : decode method_3_code 45 = .ok (.bipush 27, 2) := by decide +kernel
theorem d1_47 : decode method_3_code 47 = .ok (.lushr, 1) := by decide +kernel
theorem d1_48 : decode method_3_code 48 = .ok (.ldc2_w 49, 3) := by decide +kernel
theorem d1_51 : decode method_3_code 51 = .ok (.land, 1) := by decide +kernel
theorem d1_52 : decode method_3_code 52 = .ok (.l2i, 1) := by decide +kernel
theorem d1_53 : decode method_3_code 53 = .ok (.i2c, 1) := by decide +kernel
theorem d1_54 : decode method_3_code 54 = .ok (.castore, 1) := by decide +kernel
theorem d1_55 : decode method_3_code 55 = .ok (.aload_n 2, 1) := by decide +kernel
theorem d1_56 : decode method_3_code 56 = .ok (.areturn, 1) := by decide +kernel
def Q_rm_chs (Z : State) (f_ : Int64) (h0 : Heap) (v : Option Value) (h : Heap) (L : List Loc) : Prop := ∃ ca : Addr, ∃ kc : ClassId, ∃ c0 : Int32, ∃ c1 : Int32, ∃ c2 : Int32, ∃ c3 : Int32, v = some (.ref ca) ∧ Fk h0.size [] L ∧ Keep h0 h [] ∧ h0.size ≤ ca ∧ Arv Z h ca kc .char (4 : Int32) [(.int c0), (.int c1), (.int c2), (.int c3)] (.int (0 : Int32)) ∧ Lat c0 ∧ Lat c1 ∧ Lat c2 ∧ Lat c3
set_option maxRecDepth 65536 in
set_option maxHeartbeats 40000000 in
theorem rm_chs (l : Launch) (Z : State) (a0 : Array Value) (hw : ∀ d ∈ tables_1, d.before a0 Z = true) (ws : List Jvm.Cond) (f_ : Int64) (h0 : Heap) (O0 : Old Z Z.heap.size h0) :
    Ctr l Z (⟨"com/example/lukko/lukko/RuleProblemTextPinLaw", "chars", "(J)[C"⟩ : MethodName) method_3_code 3 (some (.array .char)) ws ({ frames := 0, cells := 1, slots := 4, locals := 0 } : Room) #[(.long f_)] h0 (Q_rm_chs Z f_ h0) := by
  refine Ctr.intro (Ls := fun _ => #[.val (.long f_), .second, .unset]) (plainFor_of_name pn31) (fun m => by first | rfl | (simp [entryFrame, mkF, argsToLocals, Value.category]; done)) ?_
  intro p e s m below meth c s₁ hx hby hml hr hlk hZ hown hnm hs0 X0 e0
  have w : ∀ (k : Nat) (d : Jvm.Cond), tables_1[k]? = some d → d.before a0 Z = true := fun k d q => hw d (List.mem_of_getElem? q)
  have N0 := Fk.nil h0.size []
  refine Wk.iconst X0 hx (v := (4 : Int32)) (hb hby d1_0) rfl rfl ?_
  refine Wk.newarray X0 hx hZ (w 6 _ rfl) e0 (hb hby d1_1) rfl (by decide) 4 (by decide) (by decide) (by decide) (by decide) ?_
  intro T1 h1 a1 kA1 g1 X1 e1 E1 A1
  have O2 : Old Z Z.heap.size h1 := O0.ext E1
  have V1 : Arv Z h1 a1 kA1 .char (4 : Int32) [(.int (0 : Int32)), (.int (0 : Int32)), (.int (0 : Int32)), (.int (0 : Int32))] (.int (0 : Int32)) := A1.pad (pad_rep [] (.int (0 : Int32)) 4)
  refine Wk.astoreN X1 hx (Ls' := #[.val (.long f_), .second, .val (.ref a1)]) (hb hby d1_3) rfl rfl rfl ?_
  refine Wk.aloadN X1 hx (hb hby d1_4) rfl rfl rfl ?_
  refine Wk.iconst X1 hx (v := (0 : Int32)) (hb hby d1_5) rfl rfl ?_
  refine Wk.lloadN X1 hx (hb hby d1_6) rfl rfl ?_
  refine Wk.iconst X1 hx (v := (3 : Int32)) (hb hby d1_7) rfl rfl ?_
  refine Wk.lushr X1 hx (hb hby d1_8) rfl ?_
  refine Wk.ldc2Long X1 hx hZ hown (w 7 _ rfl) (hb hby d1_9) rfl ?_
  refine Wk.land X1 hx (hb hby d1_12) rfl ?_
  refine Wk.l2i X1 hx (hb hby d1_13) rfl ?_
  refine Wk.i2c X1 hx (hb hby d1_14) rfl ?_
  intro c3 hc3
  have Lc3 : Chr c3 := chr_i2c hc3
  have Ljc3 : Lat c3 := lat255J hc3
  refine Wk.castore X1 hx hZ e1 V1 (by decide) (by decide) 0 rfl (Nat.le_of_ble_eq_true rfl) (w := c3) (narC Lc3) (hb hby d1_15) rfl ?_
  intro T4 h4 L4 M4 X4 e4 W4 A4
  have N4 := M4 _ _ N0 (Or.inr (Nat.le_of_eq g1))
  have O5 : Old Z Z.heap.size h4 := O2.wr W4 (Nat.le_trans (Nat.le_trans (Nat.le_trans (Nat.le_of_eq O0.1.symm) O0.2.1) (Keep.refl h0 []).1) (Nat.le_of_eq g1))
  have V4 : Arv Z h4 a1 kA1 .char (4 : Int32) [(.int c3), (.int (0 : Int32)), (.int (0 : Int32)), (.int (0 : Int32))] (.int (0 : Int32)) := A4
  refine Wk.aloadN X4 hx (hb hby d1_16) rfl rfl rfl ?_
  refine Wk.iconst X4 hx (v := (1 : Int32)) (hb hby d1_17) rfl rfl ?_
  refine Wk.lloadN X4 hx (hb hby d1_18) rfl rfl ?_
  refine Wk.bipush X4 hx (v := (11 : Int32)) (hb hby d1_19) rfl rfl ?_
  refine Wk.lushr X4 hx (hb hby d1_21) rfl ?_
  refine Wk.ldc2Long X4 hx hZ hown (w 7 _ rfl) (hb hby d1_22) rfl ?_
  refine Wk.land X4 hx (hb hby d1_25) rfl ?_
  refine Wk.l2i X4 hx (hb hby d1_26) rfl ?_
  refine Wk.i2c X4 hx (hb hby d1_27) rfl ?_
  intro c6 hc6
  have Lc6 : Chr c6 := chr_i2c hc6
  have Ljc6 : Lat c6 := lat255J hc6
  refine Wk.castore X4 hx hZ e4 V4 (by decide) (by decide) 1 rfl (Nat.le_of_ble_eq_true rfl) (w := c6) (narC Lc6) (hb hby d1_28) rfl ?_
  intro T7 h7 L7 M7 X7 e7 W7 A7
  have N7 := M7 _ _ N4 (Or.inr (Nat.le_of_eq g1))
  have O8 : Old Z Z.heap.size h7 := O5.wr W7 (Nat.le_trans (Nat.le_trans (Nat.le_trans (Nat.le_of_eq O0.1.symm) O0.2.1) (Keep.refl h0 []).1) (Nat.le_of_eq g1))
  have V7 : Arv Z h7 a1 kA1 .char (4 : Int32) [(.int c3), (.int c6), (.int (0 : Int32)), (.int (0 : Int32))] (.int (0 : Int32)) := A7
  refine Wk.aloadN X7 hx (hb hby d1_29) rfl rfl rfl ?_
  refine Wk.iconst X7 hx (v := (2 : Int32)) (hb hby d1_30) rfl rfl ?_
  refine Wk.lloadN X7 hx (hb hby d1_31) rfl rfl ?_
  refine Wk.bipush X7 hx (v := (19 : Int32)) (hb hby d1_32) rfl rfl ?_
  refine Wk.lushr X7 hx (hb hby d1_34) rfl ?_
  refine Wk.ldc2Long X7 hx hZ hown (w 7 _ rfl) (hb hby d1_35) rfl ?_
  refine Wk.land X7 hx (hb hby d1_38) rfl ?_
  refine Wk.l2i X7 hx (hb hby d1_39) rfl ?_
  refine Wk.i2c X7 hx (hb hby d1_40) rfl ?_
  intro c9 hc9
  have Lc9 : Chr c9 := chr_i2c hc9
  have Ljc9 : Lat c9 := lat255J hc9
  refine Wk.castore X7 hx hZ e7 V7 (by decide) (by decide) 2 rfl (Nat.le_of_ble_eq_true rfl) (w := c9) (narC Lc9) (hb hby d1_41) rfl ?_
  intro T10 h10 L10 M10 X10 e10 W10 A10
  have N10 := M10 _ _ N7 (Or.inr (Nat.le_of_eq g1))
  have O11 : Old Z Z.heap.size h10 := O8.wr W10 (Nat.le_trans (Nat.le_trans (Nat.le_trans (Nat.le_of_eq O0.1.symm) O0.2.1) (Keep.refl h0 []).1) (Nat.le_of_eq g1))
  have V10 : Arv Z h10 a1 kA1 .char (4 : Int32) [(.int c3), (.int c6), (.int c9), (.int (0 : Int32))] (.int (0 : Int32)) := A10
  refine Wk.aloadN X10 hx (hb hby d1_42) rfl rfl rfl ?_
  refine Wk.iconst X10 hx (v := (3 : Int32)) (hb hby d1_43) rfl rfl ?_
  refine Wk.lloadN X10 hx (hb hby d1_44) rfl rfl ?_
  refine Wk.bipush X10 hx (v := (27 : Int32)) (hb hby d1_45) rfl rfl ?_
  refine Wk.lushr X10 hx (hb hby d1_47) rfl ?_
  refine Wk.ldc2Long X10 hx hZ hown (w 7 _ rfl) (hb hby d1_48) rfl ?_
  refine Wk.land X10 hx (hb hby d1_51) rfl ?_
  refine Wk.l2i X10 hx (hb hby d1_52) rfl ?_
  refine Wk.i2c X10 hx (hb hby d1_53) rfl ?_
  intro c12 hc12
  have Lc12 : Chr c12 := chr_i2c hc12
  have Ljc12 : Lat c12 := lat255J hc12
  refine Wk.castore X10 hx hZ e10 V10 (by decide) (by decide) 3 rfl (Nat.le_of_ble_eq_true rfl) (w := c12) (narC Lc12) (hb hby d1_54) rfl ?_
  intro T13 h13 L13 M13 X13 e13 W13 A13
  have N13 := M13 _ _ N10 (Or.inr (Nat.le_of_eq g1))
  have O14 : Old Z Z.heap.size h13 := O11.wr W13 (Nat.le_trans (Nat.le_trans (Nat.le_trans (Nat.le_of_eq O0.1.symm) O0.2.1) (Keep.refl h0 []).1) (Nat.le_of_eq g1))
  have V13 : Arv Z h13 a1 kA1 .char (4 : Int32) [(.int c3), (.int c6), (.int c9), (.int c12)] (.int (0 : Int32)) := A13
  refine Wk.aloadN X13 hx (hb hby d1_55) rfl rfl rfl ?_
  have KK15 : Keep h0 h13 [] := ((((((Keep.refl h0 []).ext E1).wr W4 (Or.inr (Nat.le_of_eq g1))).wr W7 (Or.inr (Nat.le_of_eq g1))).wr W10 (Or.inr (Nat.le_of_eq g1))).wr W13 (Or.inr (Nat.le_of_eq g1)))
  exact Wk.retA' X13 hx hlk hr rfl rfl (hb hby d1_56) (by decide) (by decide) (Qc := Q_rm_chs Z f_ h0) e13 ⟨a1, kA1, c3, c6, c9, c12, rfl, N13, KK15, (Nat.le_of_eq g1), V13, Ljc3, Ljc6, Ljc9, Ljc12⟩
theorem d4_0 : decode jdk_42_method_149_code 0 = .ok (.aload_n 0, 1) := by decide +kernel
theorem d4_1 : decode jdk_42_method_149_code 1 = .ok (.invokespecial 1, 3) := by decide +kernel
theorem d4_4 : decode jdk_42_method_149_code 4 = .ok (.iload_n 3, 1) := by decide +kernel
theorem d4_5 : decode jdk_42_method_149_code 5 = .ok (.ifCond .ne 22, 3) := by decide +kernel
theorem d4_8 : decode jdk_42_method_149_code 8 = .ok (.aload_n 0, 1) := by decide +kernel
theorem d4_9 : decode jdk_42_method_149_code 9 = .ok (.ldc 7, 2) := by decide +kernel
theorem d4_11 : decode jdk_42_method_149_code 11 = .ok (.getfield 9, 3) := by decide +kernel
theorem d4_14 : decode jdk_42_method_149_code 14 = .ok (.putfield 9, 3) := by decide +kernel
theorem d4_17 : decode jdk_42_method_149_code 17 = .ok (.aload_n 0, 1) := by decide +kernel
theorem d4_18 : decode jdk_42_method_149_code 18 = .ok (.ldc 7, 2) := by decide +kernel
theorem d4_20 : decode jdk_42_method_149_code 20 = .ok (.getfield 15, 3) := by decide +kernel
theorem d4_23 : decode jdk_42_method_149_code 23 = .ok (.putfield 15, 3) := by decide +kernel
theorem d4_26 : decode jdk_42_method_149_code 26 = .ok (.return_, 1) := by decide +kernel
def Q_rm_svO (Z : State) (x : Addr) (b : Addr) (Ts : List String) (la : Addr) (lt : Addr) (lk : ClassId) (h0 : Heap) (v : Option Value) (vm : Vm) (h : Heap) (L : List Loc) : Prop := v = none ∧ Fk h0.size [x] L ∧ Keep h0 h [x] ∧ Exa Z h x "java/lang/String" ∧ Fld Z h x "java/lang/String" "coder" "B" (.int (0 : Int32)) ∧ Fld Z h x "java/lang/String" "value" "[B" (.ref lt) ∧ Exa Z h la "java/lang/String" ∧ Fld Z h la "java/lang/String" "coder" "B" (.int (0 : Int32)) ∧ Fld Z h la "java/lang/String" "value" "[B" (.ref lt) ∧ Arv Z h lt lk .byte (0 : Int32) [] (.int (0 : Int32)) ∧ IB Z vm Ts ∧ LitV Z vm "java/lang/String" 7 la
set_option maxRecDepth 65536 in
set_option maxHeartbeats 40000000 in
theorem rm_svO (l : Launch) (Z : State) (a0 : Array Value) (hw : ∀ d ∈ tables_1, d.before a0 Z = true) (ws : List Jvm.Cond) (x : Addr) (b : Addr) (Ts : List String) (la : Addr) (lt : Addr) (lk : ClassId) (h0 : Heap) (O0 : Old Z Z.heap.size h0) (hcw : Jvm.Lit.compactW.before a0 Z = true) (hheld : ∀ d ∈ consts_1, Jvm.Lit.constHeld Z d.1 d.2) (hE : Exa Z h0 x "java/lang/String") (hV : Fld Z h0 x "java/lang/String" "value" "[B" .null) (hC : Fld Z h0 x "java/lang/String" "coder" "B" (.int (0 : Int32))) (hxz : Z.heap.size ≤ x) (hl0 : Exa Z h0 la "java/lang/String") (hl1 : Fld Z h0 la "java/lang/String" "coder" "B" (.int (0 : Int32))) (hl2 : Fld Z h0 la "java/lang/String" "value" "[B" (.ref lt)) (hl3 : Arv Z h0 lt lk .byte (0 : Int32) [] (.int (0 : Int32))) (hxl : x ≠ la) :
    CtrW l Z (⟨"java/lang/String", "<init>", "([CIILjava/lang/Void;)V"⟩ : MethodName) jdk_42_method_149_code 6 none ws ({ frames := 1, cells := 2, slots := 4, locals := 12 } : Room) #[(.ref x), (.ref b), (.int (0 : Int32)), (.int (0 : Int32)), .null] h0 (fun vm => IB Z vm Ts ∧ LitV Z vm "java/lang/String" 7 la) (Q_rm_svO Z x b Ts la lt lk h0) := by
  refine CtrW.intro (Ls := fun _ => #[.val (.ref x), .val (.ref b), .val (.int (0 : Int32)), .val (.int (0 : Int32)), .val .null, .unset]) (plainFor_of_name pn0) (fun m => by first | rfl | (simp [entryFrame, mkF, argsToLocals, Value.category]; done)) ?_
  intro p e s m below meth c s₁ vm hx hby hml hr hlk hZ hown hnm hs0 X0 e0 hS hPv
  obtain ⟨I0, LV0⟩ := hPv
  have w : ∀ (k : Nat) (d : Jvm.Cond), tables_1[k]? = some d → d.before a0 Z = true := fun k d q => hw d (List.mem_of_getElem? q)
  have N0 := Fk.nil h0.size [x]
  refine Wk.aloadN X0 hx (hb hby d4_0) rfl rfl rfl ?_
  refine Wk.objinit X0 hx hZ hown (w 21 _ rfl) (w 22 _ rfl) (w 23 _ rfl) e0 (by rw [hml]; rfl) (hb hby d4_1) rfl (by decide) 0 (Nat.le_of_eq rfl) (by decide) ?_
  intro T1 X1 e1
  refine Wk.iloadN X1 hx (hb hby d4_4) rfl rfl ?_
  refine Wk.ifNo X1 hx (hb hby d4_5) rfl ((if0 _ _).trans (teq (by decide : (0 : Int32) = (0 : Int32))).2) ?_
  refine Wk.aloadN X1 hx (hb hby d4_8) rfl rfl rfl ?_
  refine Wk.ldcOld X1 hx hZ hown (w 40 _ rfl) LV0 (hb hby d4_9) rfl ?_
  refine Wk.getfield X1 hx hZ hown (host := "") (Or.inl (w 38 _ rfl)) Via.refl e1 hl2 (hb hby d4_11) rfl ?_
  intro T2 X2 e2
  refine Wk.putfield X2 hx hZ hown (host := "") (Or.inl (w 38 _ rfl)) Via.refl e2 hV hE (Or.inr ⟨(w 39 _ rfl), rfl, hnm⟩) (w 12 _ rfl) (ty := (.array .byte)) (by decide) rfl rfl (hb hby d4_14) rfl ?_
  intro T3 h3 L3 M3 X3 e3 W3 Fw3
  have N3 := M3 _ _ N0 (Or.inl (List.mem_of_getElem? (i := 0) rfl))
  have O4 : Old Z Z.heap.size h3 := O0.wr W3 hxz
  have f5 : Fld Z h3 x "java/lang/String" "coder" "B" (.int (0 : Int32)) := hC.other W3 (Or.inr (slot_ne (Or.inr (w 37 _ rfl)) (Or.inr (w 39 _ rfl)) (by decide) (t := .byte) (t' := (.array .byte)) (by decide) (by decide)))
  have E3' : Exa Z h3 x "java/lang/String" := hE.wr W3
  refine Wk.aloadN X3 hx (hb hby d4_17) rfl rfl rfl ?_
  refine Wk.ldcOld X3 hx hZ hown (w 40 _ rfl) LV0 (hb hby d4_18) rfl ?_
  have KK6 : Keep h0 h3 [x] := ((Keep.refl h0 [x]).wr W3 (Or.inl (List.mem_of_getElem? (i := 0) rfl)))
  have f7 : Fld Z h3 la "java/lang/String" "coder" "B" (.int (0 : Int32)) := (hl1.keep KK6 (ninS (Ne.symm hxl) nin0))
  refine Wk.getfield X3 hx hZ hown (host := "") (Or.inl (w 36 _ rfl)) Via.refl e3 f7 (hb hby d4_20) rfl ?_
  intro T8 X8 e8
  refine Wk.putfieldN X8 hx hZ hown (w 36 _ rfl) Via.refl e8 (v' := (.int (0 : Int32))) f5 E3' (Or.inr ⟨(w 37 _ rfl), rfl, hnm⟩) (w 12 _ rfl) (ty := .byte) (by decide) rfl rfl (hb hby d4_23) rfl ?_
  intro T9 h9 L9 M9 X9 e9 W9 Fw9
  have N9 := M9 _ _ N3 (Or.inl (List.mem_of_getElem? (i := 0) rfl))
  have O10 : Old Z Z.heap.size h9 := O4.wr W9 hxz
  have f11 : Fld Z h9 x "java/lang/String" "value" "[B" (.ref lt) := Fw3.other W9 (Or.inr (slot_ne (Or.inr (w 39 _ rfl)) (Or.inr (w 37 _ rfl)) (by decide) (t := (.array .byte)) (t' := .byte) (by decide) (by decide)))
  have E9' : Exa Z h9 x "java/lang/String" := E3'.wr W9
  have KK12 : Keep h0 h9 [x] := (KK6.wr W9 (Or.inl (List.mem_of_getElem? (i := 0) rfl)))
  have f13 : Exa Z h9 la "java/lang/String" := (hl0.keep KK12)
  have KK14 : Keep h3 h9 [x] := ((Keep.refl h3 [x]).wr W9 (Or.inl (List.mem_of_getElem? (i := 0) rfl)))
  have f15 : Fld Z h9 la "java/lang/String" "coder" "B" (.int (0 : Int32)) := (f7.keep KK14 (ninS (Ne.symm hxl) nin0))
  have f16 : Fld Z h9 la "java/lang/String" "value" "[B" (.ref lt) := (hl2.keep KK12 (ninS (Ne.symm hxl) nin0))
  have f17 := (hl3.keep KK12 (ninS (Ne.symm (Exa.neArv hE hl3 (w 12 _ rfl))) nin0))
  exact Wk.ret0W X9 hx hS (Nat.le_trans (Nat.le_refl _) KK12.1) hlk hr (hb hby d4_26) (by decide) (by decide) (Qc := Q_rm_svO Z x b Ts la lt lk h0) e9 (fun vm' hw' => ⟨rfl, N9, KK12, E9', Fw9, f11, f13, f15, f16, f17, (ibWarm I0 hw'), (LV0.warm hw'.wide)⟩)
def Q_rm_svN (Z : State) (x : Addr) (b : Addr) (Ts : List String) (h0 : Heap) (v : Option Value) (vm : Vm) (h : Heap) (L : List Loc) : Prop := ∃ la : Addr, ∃ lt : Addr, ∃ lk : ClassId, v = none ∧ Fk h0.size [x] L ∧ Keep h0 h [x] ∧ Exa Z h x "java/lang/String" ∧ Fld Z h x "java/lang/String" "coder" "B" (.int (0 : Int32)) ∧ Fld Z h x "java/lang/String" "value" "[B" (.ref lt) ∧ Exa Z h la "java/lang/String" ∧ Fld Z h la "java/lang/String" "coder" "B" (.int (0 : Int32)) ∧ Fld Z h la "java/lang/String" "value" "[B" (.ref lt) ∧ Arv Z h lt lk .byte (0 : Int32) [] (.int (0 : Int32)) ∧ IB Z vm ("" :: Ts) ∧ LitV Z vm "java/lang/String" 7 la
set_option maxRecDepth 65536 in
set_option maxHeartbeats 40000000 in
theorem rm_svN (l : Launch) (Z : State) (a0 : Array Value) (hw : ∀ d ∈ tables_1, d.before a0 Z = true) (ws : List Jvm.Cond) (x : Addr) (b : Addr) (Ts : List String) (h0 : Heap) (O0 : Old Z Z.heap.size h0) (hcw : Jvm.Lit.compactW.before a0 Z = true) (hheld : ∀ d ∈ consts_1, Jvm.Lit.constHeld Z d.1 d.2) (hE : Exa Z h0 x "java/lang/String") (hV : Fld Z h0 x "java/lang/String" "value" "[B" .null) (hC : Fld Z h0 x "java/lang/String" "coder" "B" (.int (0 : Int32))) (hxz : Z.heap.size ≤ x) (hnot : "" ∉ Ts) :
    CtrW l Z (⟨"java/lang/String", "<init>", "([CIILjava/lang/Void;)V"⟩ : MethodName) jdk_42_method_149_code 6 none ws ({ frames := 1, cells := 2, slots := 4, locals := 12 } : Room) #[(.ref x), (.ref b), (.int (0 : Int32)), (.int (0 : Int32)), .null] h0 (fun vm => IB Z vm Ts) (Q_rm_svN Z x b Ts h0) := by
  refine CtrW.intro (Ls := fun _ => #[.val (.ref x), .val (.ref b), .val (.int (0 : Int32)), .val (.int (0 : Int32)), .val .null, .unset]) (plainFor_of_name pn0) (fun m => by first | rfl | (simp [entryFrame, mkF, argsToLocals, Value.category]; done)) ?_
  intro p e s m below meth c s₁ vm hx hby hml hr hlk hZ hown hnm hs0 X0 e0 hS hPv
  have I0 := hPv
  have w : ∀ (k : Nat) (d : Jvm.Cond), tables_1[k]? = some d → d.before a0 Z = true := fun k d q => hw d (List.mem_of_getElem? q)
  have N0 := Fk.nil h0.size [x]
  refine Wk.aloadN X0 hx (hb hby d4_0) rfl rfl rfl ?_
  refine Wk.objinit X0 hx hZ hown (w 21 _ rfl) (w 22 _ rfl) (w 23 _ rfl) e0 (by rw [hml]; rfl) (hb hby d4_1) rfl (by decide) 0 (Nat.le_of_eq rfl) (by decide) ?_
  intro T1 X1 e1
  refine Wk.iloadN X1 hx (hb hby d4_4) rfl rfl ?_
  refine Wk.ifNo X1 hx (hb hby d4_5) rfl ((if0 _ _).trans (teq (by decide : (0 : Int32) = (0 : Int32))).2) ?_
  refine Wk.aloadN X1 hx (hb hby d4_8) rfl rfl rfl ?_
  have wS : ∀ a ∈ Bundle.stringAtoms, a.before a0 Z = true := fun d hd => hw d ((by decide +kernel : ∀ d ∈ Bundle.stringAtoms, d ∈ tables_1) d hd)
  refine Wk.ldcNew X1 hx hZ hown (w 40 _ rfl) wS e1 hS (Nat.le_refl _) (Fr.nil _) (by rw [hs0]; exact O0) I0 hnot (hheld _ (List.mem_of_getElem? (i := 4) rfl)) hcw (vs := []) (z := (0 : Int32)) (by decide +kernel) (by decide) rfl (hb hby d4_9) rfl 0 (by decide) (by decide) (by decide) (by decide) ?_
  intro T2 h2 a2 b2 kb2 vm2 X2 e2 E2 hS2 hZ2 ho2 w39_2 A2 C2 V2 B2 I2 Lv2
  have O3 : Old Z Z.heap.size h2 := O0.ext E2
  have KK5 : Keep h0 h2 [] := ((Keep.refl h0 []).ext E2)
  have f6 : Fld Z h2 x "java/lang/String" "value" "[B" .null := (hV.keep KK5 nin0)
  have ne4 : a2 ≠ x := Fld.ne V2 f6 nofun
  refine Wk.getfield X2 hx hZ2 ho2 (host := "") (Or.inl (w 38 _ rfl)) Via.refl e2 V2 (hb hby d4_11) rfl ?_
  intro T7 X7 e7
  have f8 : Exa Z h2 x "java/lang/String" := (hE.keep KK5)
  have f10 : Fld Z h2 x "java/lang/String" "coder" "B" (.int (0 : Int32)) := (hC.keep KK5 nin0)
  refine Wk.putfield X7 hx hZ2 ho2 (host := "") (Or.inl (w 38 _ rfl)) Via.refl e7 f6 f8 (Or.inr ⟨(w 39 _ rfl), rfl, hnm⟩) (w 12 _ rfl) (ty := (.array .byte)) (by decide) rfl rfl (hb hby d4_14) rfl ?_
  intro T9 h9 L9 M9 X9 e9 W9 Fw9
  have N9 := M9 _ _ N0 (Or.inl (List.mem_of_getElem? (i := 0) rfl))
  have O11 : Old Z Z.heap.size h9 := O3.wr W9 hxz
  have f12 : Fld Z h9 x "java/lang/String" "coder" "B" (.int (0 : Int32)) := f10.other W9 (Or.inr (slot_ne (Or.inr (w 37 _ rfl)) (Or.inr (w 39 _ rfl)) (by decide) (t := .byte) (t' := (.array .byte)) (by decide) (by decide)))
  have E9' : Exa Z h9 x "java/lang/String" := f8.wr W9
  refine Wk.aloadN X9 hx (hb hby d4_17) rfl rfl rfl ?_
  refine Wk.ldcOld X9 hx hZ2 ho2 (w 40 _ rfl) Lv2 (hb hby d4_18) rfl ?_
  have KK13 : Keep h2 h9 [x] := ((Keep.refl h2 [x]).wr W9 (Or.inl (List.mem_of_getElem? (i := 0) rfl)))
  have f14 : Fld Z h9 a2 "java/lang/String" "coder" "B" (.int (0 : Int32)) := (C2.keep KK13 (ninS ne4 nin0))
  refine Wk.getfield X9 hx hZ2 ho2 (host := "") (Or.inl (w 36 _ rfl)) Via.refl e9 f14 (hb hby d4_20) rfl ?_
  intro T15 X15 e15
  refine Wk.putfieldN X15 hx hZ2 ho2 (w 36 _ rfl) Via.refl e15 (v' := (.int (0 : Int32))) f12 E9' (Or.inr ⟨(w 37 _ rfl), rfl, hnm⟩) (w 12 _ rfl) (ty := .byte) (by decide) rfl rfl (hb hby d4_23) rfl ?_
  intro T16 h16 L16 M16 X16 e16 W16 Fw16
  have N16 := M16 _ _ N9 (Or.inl (List.mem_of_getElem? (i := 0) rfl))
  have O17 : Old Z Z.heap.size h16 := O11.wr W16 hxz
  have f18 : Fld Z h16 x "java/lang/String" "value" "[B" (.ref b2) := Fw9.other W16 (Or.inr (slot_ne (Or.inr (w 39 _ rfl)) (Or.inr (w 37 _ rfl)) (by decide) (t := (.array .byte)) (t' := .byte) (by decide) (by decide)))
  have E16' : Exa Z h16 x "java/lang/String" := E9'.wr W16
  have KK19 : Keep h0 h16 [x] := ((((Keep.refl h0 [x]).ext E2).wr W9 (Or.inl (List.mem_of_getElem? (i := 0) rfl))).wr W16 (Or.inl (List.mem_of_getElem? (i := 0) rfl)))
  have KK20 : Keep h2 h16 [x] := (KK13.wr W16 (Or.inl (List.mem_of_getElem? (i := 0) rfl)))
  have f21 : Exa Z h16 a2 "java/lang/String" := (A2.keep KK20)
  have KK22 : Keep h9 h16 [x] := ((Keep.refl h9 [x]).wr W16 (Or.inl (List.mem_of_getElem? (i := 0) rfl)))
  have f23 : Fld Z h16 a2 "java/lang/String" "coder" "B" (.int (0 : Int32)) := (f14.keep KK22 (ninS ne4 nin0))
  have f24 : Fld Z h16 a2 "java/lang/String" "value" "[B" (.ref b2) := (V2.keep KK20 (ninS ne4 nin0))
  have f25 := (B2.keep KK20 (ninS (Ne.symm (Exa.neArv f8 B2 (w 12 _ rfl))) nin0))
  exact Wk.ret0W X16 hx hS2 (Nat.le_trans (Nat.le_refl _) KK20.1) hlk hr (hb hby d4_26) (by decide) (by decide) (Qc := Q_rm_svN Z x b Ts h0) e16 (fun vm' hw' => ⟨a2, b2, kb2, rfl, N16, KK19, E16', Fw16, f18, f21, f23, f24, f25, (ibWarm I2 hw'), (Lv2.warm hw'.wide)⟩)
theorem d3_0 : decode jdk_42_method_3_code 0 = .ok (.aload_n 0, 1) := by decide +kernel
theorem d3_1 : decode jdk_42_method_3_code 1 = .ok (.aload_n 1, 1) := by decide +kernel
theorem d3_2 : decode jdk_42_method_3_code 2 = .ok (.iconst 0, 1) := by decide +kernel
theorem d3_3 : decode jdk_42_method_3_code 3 = .ok (.aload_n 1, 1) := by decide +kernel
theorem d3_4 : decode jdk_42_method_3_code 4 = .ok (.arraylength, 1) := by decide +kernel
theorem d3_5 : decode jdk_42_method_3_code 5 = .ok (.aconst_null, 1) := by decide +kernel
theorem d3_6 : decode jdk_42_method_3_code 6 = .ok (.invokespecial 27, 3) := by decide +kernel
theorem pd34 : parseMethodDescriptor "([CIILjava/lang/Void;)V" = some ⟨[(.array .char), .int, .int, (.object "java/lang/Void")], none⟩ := by decide +kernel
theorem d3_9 : decode jdk_42_method_3_code 9 = .ok (.return_, 1) := by decide +kernel
def Q_rm_s0O (Z : State) (x : Addr) (b : Addr) (kc : ClassId) (vs : List Value) (dv : Value) (Ts : List String) (la : Addr) (lt : Addr) (lk : ClassId) (h0 : Heap) (v : Option Value) (vm : Vm) (h : Heap) (L : List Loc) : Prop := v = none ∧ Fk h0.size [x] L ∧ Keep h0 h [x] ∧ Exa Z h x "java/lang/String" ∧ Fld Z h x "java/lang/String" "coder" "B" (.int (0 : Int32)) ∧ Fld Z h x "java/lang/String" "value" "[B" (.ref lt) ∧ Exa Z h la "java/lang/String" ∧ Fld Z h la "java/lang/String" "coder" "B" (.int (0 : Int32)) ∧ Fld Z h la "java/lang/String" "value" "[B" (.ref lt) ∧ Arv Z h lt lk .byte (0 : Int32) [] (.int (0 : Int32)) ∧ IB Z vm Ts ∧ LitV Z vm "java/lang/String" 7 la
set_option maxRecDepth 65536 in
set_option maxHeartbeats 40000000 in
theorem rm_s0O (l : Launch) (Z : State) (a0 : Array Value) (hw : ∀ d ∈ tables_1, d.before a0 Z = true) (ws : List Jvm.Cond) (x : Addr) (b : Addr) (kc : ClassId) (vs : List Value) (dv : Value) (Ts : List String) (la : Addr) (lt : Addr) (lk : ClassId) (h0 : Heap) (O0 : Old Z Z.heap.size h0) (hcw : Jvm.Lit.compactW.before a0 Z = true) (hheld : ∀ d ∈ consts_1, Jvm.Lit.constHeld Z d.1 d.2) (hE : Exa Z h0 x "java/lang/String") (hV : Fld Z h0 x "java/lang/String" "value" "[B" .null) (hC : Fld Z h0 x "java/lang/String" "coder" "B" (.int (0 : Int32))) (hxz : Z.heap.size ≤ x) (hb_ : Arv Z h0 b kc .char (0 : Int32) vs dv) (hl0 : Exa Z h0 la "java/lang/String") (hl1 : Fld Z h0 la "java/lang/String" "coder" "B" (.int (0 : Int32))) (hl2 : Fld Z h0 la "java/lang/String" "value" "[B" (.ref lt)) (hl3 : Arv Z h0 lt lk .byte (0 : Int32) [] (.int (0 : Int32))) (hxl : x ≠ la) :
    CtrW l Z (⟨"java/lang/String", "<init>", "([C)V"⟩ : MethodName) jdk_42_method_3_code 2 none ws ({ frames := 2, cells := 2, slots := 4, locals := 29 } : Room) #[(.ref x), (.ref b)] h0 (fun vm => IB Z vm Ts ∧ LitV Z vm "java/lang/String" 7 la) (Q_rm_s0O Z x b kc vs dv Ts la lt lk h0) := by
  refine CtrW.intro (Ls := fun _ => #[.val (.ref x), .val (.ref b)]) (plainFor_of_name pn0) (fun m => by first | rfl | (simp [entryFrame, mkF, argsToLocals, Value.category]; done)) ?_
  intro p e s m below meth c s₁ vm hx hby hml hr hlk hZ hown hnm hs0 X0 e0 hS hPv
  obtain ⟨I0, LV0⟩ := hPv
  have w : ∀ (k : Nat) (d : Jvm.Cond), tables_1[k]? = some d → d.before a0 Z = true := fun k d q => hw d (List.mem_of_getElem? q)
  have N0 := Fk.nil h0.size [x]
  refine Wk.aloadN X0 hx (hb hby d3_0) rfl rfl rfl ?_
  refine Wk.aloadN X0 hx (hb hby d3_1) rfl rfl rfl ?_
  refine Wk.iconst X0 hx (v := (0 : Int32)) (hb hby d3_2) rfl rfl ?_
  refine Wk.aloadN X0 hx (hb hby d3_3) rfl rfl rfl ?_
  refine Wk.arraylength X0 hx hZ e0 hb_ (hb hby d3_4) rfl ?_
  refine Wk.aconstNull X0 hx (hb hby d3_5) rfl ?_
  refine Wk.callIW X0 hx hS (Nat.le_refl _) hZ rfl hown (w 17 _ rfl) (w 18 _ rfl) (w 20 _ rfl) (by decide) (as' := [(.ref b), (.int (0 : Int32)), (.int (0 : Int32)), .null]) (payW (W := 0) (rm_svO l Z a0 hw [] x b Ts la lt lk h0 O0 hcw hheld hE hV hC hxz hl0 hl1 hl2 hl3 hxl) (s := s.setVm vm) hZ (w 20 _ rfl) (w 13 _ rfl) (by decide) (by decide) (fun _ q => ⟨ibWarm I0 q, LV0.warm q.wide⟩)) e0 (by rw [hml]; rfl) (rest := []) (lenOf pd34 rfl) rfl (Nat.le_of_eq rfl) (hb hby d3_6) rfl (by decide) (by decide) ?_
  intro T1 h1 v1 L1 vm1 X1 e1 hS1 hZ1 ho1 w39_1 hQ1
  obtain ⟨rfl, Nq1, K1, q1_0, q1_1, q1_2, q1_3, q1_4, q1_5, q1_6, y1_0, y1_1⟩ := hQ1
  have N1 := Fk.app N0 Nq1 (Nat.le_refl _) (allS (Or.inl (List.mem_of_getElem? (i := 0) rfl)) all0)
  have O2 : Old Z Z.heap.size h1 := O0.keep K1 (allS hxz all0)
  show Wp p e below _ _ T1 (mkF m 9 #[.val (.ref x), .val (.ref b)] [])
  have KK3 : Keep h0 h1 [x] := ((Keep.refl h0 [x]).trans K1 (allS (Or.inl (List.mem_of_getElem? (i := 0) rfl)) all0))
  exact Wk.ret0W X1 hx hS1 (Nat.le_refl _) hlk hr (hb hby d3_9) (by decide) (by decide) (Qc := Q_rm_s0O Z x b kc vs dv Ts la lt lk h0) e1 (fun vm' hw' => ⟨rfl, N1, KK3, q1_0, q1_1, q1_2, q1_3, q1_4, q1_5, q1_6, (ibWarm y1_0 hw'), (y1_1.warm hw'.wide)⟩)
def Q_rm_s0N (Z : State) (x : Addr) (b : Addr) (kc : ClassId) (vs : List Value) (dv : Value) (Ts : List String) (h0 : Heap) (v : Option Value) (vm : Vm) (h : Heap) (L : List Loc) : Prop := ∃ la : Addr, ∃ lt : Addr, ∃ lk : ClassId, v = none ∧ Fk h0.size [x] L ∧ Keep h0 h [x] ∧ Exa Z h x "java/lang/String" ∧ Fld Z h x "java/lang/String" "coder" "B" (.int (0 : Int32)) ∧ Fld Z h x "java/lang/String" "value" "[B" (.ref lt) ∧ Exa Z h la "java/lang/String" ∧ Fld Z h la "java/lang/String" "coder" "B" (.int (0 : Int32)) ∧ Fld Z h la "java/lang/String" "value" "[B" (.ref lt) ∧ Arv Z h lt lk .byte (0 : Int32) [] (.int (0 : Int32)) ∧ IB Z vm ("" :: Ts) ∧ LitV Z vm "java/lang/String" 7 la
set_option maxRecDepth 65536 in
set_option maxHeartbeats 40000000 in
theorem rm_s0N (l : Launch) (Z : State) (a0 : Array Value) (hw : ∀ d ∈ tables_1, d.before a0 Z = true) (ws : List Jvm.Cond) (x : Addr) (b : Addr) (kc : ClassId) (vs : List Value) (dv : Value) (Ts : List String) (h0 : Heap) (O0 : Old Z Z.heap.size h0) (hcw : Jvm.Lit.compactW.before a0 Z = true) (hheld : ∀ d ∈ consts_1, Jvm.Lit.constHeld Z d.1 d.2) (hE : Exa Z h0 x "java/lang/String") (hV : Fld Z h0 x "java/lang/String" "value" "[B" .null) (hC : Fld Z h0 x "java/lang/String" "coder" "B" (.int (0 : Int32))) (hxz : Z.heap.size ≤ x) (hb_ : Arv Z h0 b kc .char (0 : Int32) vs dv) (hnot : "" ∉ Ts) :
    CtrW l Z (⟨"java/lang/String", "<init>", "([C)V"⟩ : MethodName) jdk_42_method_3_code 2 none ws ({ frames := 2, cells := 2, slots := 4, locals := 29 } : Room) #[(.ref x), (.ref b)] h0 (fun vm => IB Z vm Ts) (Q_rm_s0N Z x b kc vs dv Ts h0) := by
  refine CtrW.intro (Ls := fun _ => #[.val (.ref x), .val (.ref b)]) (plainFor_of_name pn0) (fun m => by first | rfl | (simp [entryFrame, mkF, argsToLocals, Value.category]; done)) ?_
  intro p e s m below meth c s₁ vm hx hby hml hr hlk hZ hown hnm hs0 X0 e0 hS hPv
  have I0 := hPv
  have w : ∀ (k : Nat) (d : Jvm.Cond), tables_1[k]? = some d → d.before a0 Z = true := fun k d q => hw d (List.mem_of_getElem? q)
  have N0 := Fk.nil h0.size [x]
  refine Wk.aloadN X0 hx (hb hby d3_0) rfl rfl rfl ?_
  refine Wk.aloadN X0 hx (hb hby d3_1) rfl rfl rfl ?_
  refine Wk.iconst X0 hx (v := (0 : Int32)) (hb hby d3_2) rfl rfl ?_
  refine Wk.aloadN X0 hx (hb hby d3_3) rfl rfl rfl ?_
  refine Wk.arraylength X0 hx hZ e0 hb_ (hb hby d3_4) rfl ?_
  refine Wk.aconstNull X0 hx (hb hby d3_5) rfl ?_
  refine Wk.callIW X0 hx hS (Nat.le_refl _) hZ rfl hown (w 17 _ rfl) (w 18 _ rfl) (w 20 _ rfl) (by decide) (as' := [(.ref b), (.int (0 : Int32)), (.int (0 : Int32)), .null]) (payW (W := 0) (rm_svN l Z a0 hw [] x b Ts h0 O0 hcw hheld hE hV hC hxz hnot) (s := s.setVm vm) hZ (w 20 _ rfl) (w 13 _ rfl) (by decide) (by decide) (fun _ q => ibWarm I0 q)) e0 (by rw [hml]; rfl) (rest := []) (lenOf pd34 rfl) rfl (Nat.le_of_eq rfl) (hb hby d3_6) rfl (by decide) (by decide) ?_
  intro T1 h1 v1 L1 vm1 X1 e1 hS1 hZ1 ho1 w39_1 hQ1
  obtain ⟨la1, lt1, lk1, rfl, Nq1, K1, q1_0, q1_1, q1_2, q1_3, q1_4, q1_5, q1_6, y1_0, y1_1⟩ := hQ1
  have N1 := Fk.app N0 Nq1 (Nat.le_refl _) (allS (Or.inl (List.mem_of_getElem? (i := 0) rfl)) all0)
  have O2 : Old Z Z.heap.size h1 := O0.keep K1 (allS hxz all0)
  show Wp p e below _ _ T1 (mkF m 9 #[.val (.ref x), .val (.ref b)] [])
  have KK3 : Keep h0 h1 [x] := ((Keep.refl h0 [x]).trans K1 (allS (Or.inl (List.mem_of_getElem? (i := 0) rfl)) all0))
  exact Wk.ret0W X1 hx hS1 (Nat.le_refl _) hlk hr (hb hby d3_9) (by decide) (by decide) (Qc := Q_rm_s0N Z x b kc vs dv Ts h0) e1 (fun vm' hw' => ⟨la1, lt1, lk1, rfl, N1, KK3, q1_0, q1_1, q1_2, q1_3, q1_4, q1_5, q1_6, (ibWarm y1_0 hw'), (y1_1.warm hw'.wide)⟩)
theorem d2_0 : decode method_4_code 0 = .ok (.iload_n 1, 1) := by decide +kernel
theorem d2_1 : decode method_4_code 1 = .ok (.ifCond .ne 14, 3) := by decide +kernel
theorem d2_15 : decode method_4_code 15 = .ok (.iload_n 1, 1) := by decide +kernel
theorem d2_16 : decode method_4_code 16 = .ok (.iconst 1, 1) := by decide +kernel
theorem d2_17 : decode method_4_code 17 = .ok (.if_icmp .ne 20, 3) := by decide +kernel
theorem d2_20 : decode method_4_code 20 = .ok (.new 35, 3) := by decide +kernel
theorem d2_23 : decode method_4_code 23 = .ok (.dup, 1) := by decide +kernel
theorem d2_24 : decode method_4_code 24 = .ok (.iconst 1, 1) := by decide +kernel
theorem d2_25 : decode method_4_code 25 = .ok (.newarray .char, 2) := by decide +kernel
theorem d2_27 : decode method_4_code 27 = .ok (.dup, 1) := by decide +kernel
theorem d2_28 : decode method_4_code 28 = .ok (.iconst 0, 1) := by decide +kernel
theorem d2_29 : decode method_4_code 29 = .ok (.aload_n 0, 1) := by decide +kernel
theorem d2_30 : decode method_4_code 30 = .ok (.iconst 0, 1) := by decide +kernel
theorem d2_31 : decode method_4_code 31 = .ok (.caload, 1) := by decide +kernel
theorem d2_32 : decode method_4_code 32 = .ok (.castore, 1) := by decide +kernel
theorem d2_33 : decode method_4_code 33 = .ok (.invokespecial 51, 3) := by decide +kernel
theorem pd35 : parseMethodDescriptor "([C)V" = some ⟨[(.array .char)], none⟩ := by decide +kernel
theorem d2_36 : decode method_4_code 36 = .ok (.areturn, 1) := by decide +kernel
theorem d2_37 : decode method_4_code 37 = .ok (.iload_n 1, 1) := by decide +kernel
theorem d2_38 : decode method_4_code 38 = .ok (.iconst 2, 1) := by decide +kernel
theorem d2_39 : decode method_4_code 39 = .ok (.if_icmp .ne 26, 3) := by decide +kernel
theorem d2_42 : decode method_4_code 42 = .ok (.new 35, 3) := by decide +kernel
theorem d2_45 : decode method_4_code 45 = .ok (.dup, 1) := by decide +kernel
theorem d2_46 : decode method_4_code 46 = .ok (.iconst 2, 1) := by decide +kernel
theorem d2_47 : decode method_4_code 47 = .ok (.newarray .char, 2) := by decide +kernel
theorem d2_49 : decode method_4_code 49 = .ok (.dup, 1) := by decide +kernel
theorem d2_50 : decode method_4_code 50 = .ok (.iconst 0, 1) := by decide +kernel
theorem d2_51 : decode method_4_code 51 = .ok (.aload_n 0, 1) := by decide +kernel
theorem d2_52 : decode method_4_code 52 = .ok (.iconst 0, 1) := by decide +kernel
theorem d2_53 : decode method_4_code 53 = .ok (.caload, 1) := by decide +kernel
theorem d2_54 : decode method_4_code 54 = .ok (.castore, 1) := by decide +kernel
theorem d2_55 : decode method_4_code 55 = .ok (.dup, 1) := by decide +kernel
theorem d2_56 : decode method_4_code 56 = .ok (.iconst 1, 1) := by decide +kernel
theorem d2_57 : decode method_4_code 57 = .ok (.aload_n 0, 1) := by decide +kernel
theorem d2_58 : decode method_4_code 58 = .ok (.iconst 1, 1) := by decide +kernel
theorem d2_59 : decode method_4_code 59 = .ok (.caload, 1) := by decide +kernel
theorem d2_60 : decode method_4_code 60 = .ok (.castore, 1) := by decide +kernel
theorem d2_61 : decode method_4_code 61 = .ok (.invokespecial 51, 3) := by decide +kernel
theorem d2_64 : decode method_4_code 64 = .ok (.areturn, 1) := by decide +kernel
theorem d2_65 : decode method_4_code 65 = .ok (.iload_n 1, 1) := by decide +kernel
theorem d2_66 : decode method_4_code 66 = .ok (.iconst 3, 1) := by decide +kernel
theorem d2_67 : decode method_4_code 67 = .ok (.if_icmp .ne 32, 3) := by decide +kernel
theorem d2_70 : decode method_4_code 70 = .ok (.new 35, 3) := by decide +kernel
theorem d2_73 : decode method_4_code 73 = .ok (.dup, 1) := by decide +kernel
theorem d2_74 : decode method_4_code 74 = .ok (.iconst 3, 1) := by decide +kernel
theorem d2_75 : decode method_4_code 75 = .ok (.newarray .char, 2) := by decide +kernel
theorem d2_77 : decode method_4_code 77 = .ok (.dup, 1) := by decide +kernel
theorem d2_78 : decode method_4_code 78 = .ok (.iconst 0, 1) := by decide +kernel
theorem d2_79 : decode method_4_code 79 = .ok (.aload_n 0, 1) := by decide +kernel
theorem d2_80 : decode method_4_code 80 = .ok (.iconst 0, 1) := by decide +kernel
theorem d2_81 : decode method_4_code 81 = .ok (.caload, 1) := by decide +kernel
theorem d2_82 : decode method_4_code 82 = .ok (.castore, 1) := by decide +kernel
theorem d2_83 : decode method_4_code 83 = .ok (.dup, 1) := by decide +kernel
theorem d2_84 : decode method_4_code 84 = .ok (.iconst 1, 1) := by decide +kernel
theorem d2_85 : decode method_4_code 85 = .ok (.aload_n 0, 1) := by decide +kernel
theorem d2_86 : decode method_4_code 86 = .ok (.iconst 1, 1) := by decide +kernel
theorem d2_87 : decode method_4_code 87 = .ok (.caload, 1) := by decide +kernel
theorem d2_88 : decode method_4_code 88 = .ok (.castore, 1) := by decide +kernel
theorem d2_89 : decode method_4_code 89 = .ok (.dup, 1) := by decide +kernel
theorem d2_90 : decode method_4_code 90 = .ok (.iconst 2, 1) := by decide +kernel
theorem d2_91 : decode method_4_code 91 = .ok (.aload_n 0, 1) := by decide +kernel
theorem d2_92 : decode method_4_code 92 = .ok (.iconst 2, 1) := by decide +kernel
theorem d2_93 : decode method_4_code 93 = .ok (.caload, 1) := by decide +kernel
theorem d2_94 : decode method_4_code 94 = .ok (.castore, 1) := by decide +kernel
theorem d2_95 : decode method_4_code 95 = .ok (.invokespecial 51, 3) := by decide +kernel
theorem d2_98 : decode method_4_code 98 = .ok (.areturn, 1) := by decide +kernel
theorem d2_99 : decode method_4_code 99 = .ok (.new 35, 3) := by decide +kernel
theorem d2_102 : decode method_4_code 102 = .ok (.dup, 1) := by decide +kernel
theorem d2_103 : decode method_4_code 103 = .ok (.iconst 4, 1) := by decide +kernel
theorem d2_104 : decode method_4_code 104 = .ok (.newarray .char, 2) := by decide +kernel
theorem d2_106 : decode method_4_code 106 = .ok (.dup, 1) := by decide +kernel
theorem d2_107 : decode method_4_code 107 = .ok (.iconst 0, 1) := by decide +kernel
theorem d2_108 : decode method_4_code 108 = .ok (.aload_n 0, 1) := by decide +kernel
theorem d2_109 : decode method_4_code 109 = .ok (.iconst 0, 1) := by decide +kernel
theorem d2_110 : decode method_4_code 110 = .ok (.caload, 1) := by decide +kernel
theorem d2_111 : decode method_4_code 111 = .ok (.castore, 1) := by decide +kernel
theorem d2_112 : decode method_4_code 112 = .ok (.dup, 1) := by decide +kernel
theorem d2_113 : decode method_4_code 113 = .ok (.iconst 1, 1) := by decide +kernel
theorem d2_114 : decode method_4_code 114 = .ok (.aload_n 0, 1) := by decide +kernel
theorem d2_115 : decode method_4_code 115 = .ok (.iconst 1, 1) := by decide +kernel
theorem d2_116 : decode method_4_code 116 = .ok (.caload, 1) := by decide +kernel
theorem d2_117 : decode method_4_code 117 = .ok (.castore, 1) := by decide +kernel
theorem d2_118 : decode method_4_code 118 = .ok (.dup, 1) := by decide +kernel
theorem d2_119 : decode method_4_code 119 = .ok (.iconst 2, 1) := by decide +kernel
theorem d2_120 : decode method_4_code 120 = .ok (.aload_n 0, 1) := by decide +kernel
theorem d2_121 : decode method_4_code 121 = .ok (.iconst 2, 1) := by decide +kernel
theorem d2_122 : decode method_4_code 122 = .ok (.caload, 1) := by decide +kernel
theorem d2_123 : decode method_4_code 123 = .ok (.castore, 1) := by decide +kernel
theorem d2_124 : decode method_4_code 124 = .ok (.dup, 1) := by decide +kernel
theorem d2_125 : decode method_4_code 125 = .ok (.iconst 3, 1) := by decide +kernel
theorem d2_126 : decode method_4_code 126 = .ok (.aload_n 0, 1) := by decide +kernel
theorem d2_127 : decode method_4_code 127 = .ok (.iconst 3, 1) := by decide +kernel
theorem d2_128 : decode method_4_code 128 = .ok (.caload, 1) := by decide +kernel
theorem d2_129 : decode method_4_code 129 = .ok (.castore, 1) := by decide +kernel
theorem d2_130 : decode method_4_code 130 = .ok (.invokespecial 51, 3) := by decide +kernel
theorem d2_133 : decode method_4_code 133 = .ok (.areturn, 1) := by decide +kernel
def Q_rm_strP (Z : State) (ca : Addr) (kc : ClassId) (c0 : Int32) (c1 : Int32) (c2 : Int32) (c3 : Int32) (n_ : Int32) (G1 : Int32) (h0 : Heap) (v : Option Value) (h : Heap) (L : List Loc) : Prop := ∃ x : Addr, ∃ t : Addr, ∃ kb : ClassId, ∃ us : List Value, v = some (.ref x) ∧ Fk h0.size [] L ∧ Keep h0 h [] ∧ h0.size ≤ x ∧ h0.size ≤ t ∧ Exa Z h x "java/lang/String" ∧ Fld Z h x "java/lang/String" "coder" "B" (.int (0 : Int32)) ∧ Fld Z h x "java/lang/String" "value" "[B" (.ref t) ∧ Arv Z h t kb .byte n_ us (.int (0 : Int32)) ∧ Str us n_ (sb4 c0 c1 c2 c3 n_.toNatClampNeg)
set_option maxRecDepth 65536 in
set_option maxHeartbeats 40000000 in
theorem rm_strP (l : Launch) (Z : State) (a0 : Array Value) (hw : ∀ d ∈ tables_1, d.before a0 Z = true) (ws : List Jvm.Cond) (ca : Addr) (kc : ClassId) (c0 : Int32) (c1 : Int32) (c2 : Int32) (c3 : Int32) (n_ : Int32) (G1 : Int32) (h0 : Heap) (O0 : Old Z Z.heap.size h0) (SG1 : Sta Z Z.heap "java/lang/String" "COMPACT_STRINGS" "Z" (.int G1)) (nG1 : ¬ G1 = 0) (pc_ : Arv Z h0 ca kc .char (4 : Int32) [(.int c0), (.int c1), (.int c2), (.int c3)] (.int (0 : Int32))) (hLc0 : Lat c0) (hLc1 : Lat c1) (hLc2 : Lat c2) (hLc3 : Lat c3) (hn : L5 n_) (h0_ : ¬ (n_ = (0 : Int32))) :
    Ctr l Z (⟨"com/example/lukko/lukko/RuleProblemTextPinLaw", "str", "([CI)Ljava/lang/String;"⟩ : MethodName) method_4_code 2 (some (.object "java/lang/String")) ws ({ frames := 4, cells := 3, slots := 12, locals := 66 } : Room) #[(.ref ca), (.int n_)] h0 (Q_rm_strP Z ca kc c0 c1 c2 c3 n_ G1 h0) := by
  refine Ctr.intro (Ls := fun _ => #[.val (.ref ca), .val (.int n_)]) (plainFor_of_name pn31) (fun m => by first | rfl | (simp [entryFrame, mkF, argsToLocals, Value.category]; done)) ?_
  intro p e s m below meth c s₁ hx hby hml hr hlk hZ hown hnm hs0 X0 e0
  have w : ∀ (k : Nat) (d : Jvm.Cond), tables_1[k]? = some d → d.before a0 Z = true := fun k d q => hw d (List.mem_of_getElem? q)
  have N0 := Fk.nil h0.size []
  refine Wk.iloadN X0 hx (hb hby d2_0) rfl rfl ?_
  refine Wk.ifYes X0 hx (hb hby d2_1) (by decide) (q := 15) rfl ((if0 _ _).trans (feq h0_).2) ?_
  refine Wk.iloadN X0 hx (hb hby d2_15) rfl rfl ?_
  refine Wk.iconst X0 hx (v := (1 : Int32)) (hb hby d2_16) rfl rfl ?_
  by_cases hc1 : n_ = (1 : Int32)
  · skip
    refine Wk.icmpNo X0 hx (hb hby d2_17) rfl (teq hc1).2 ?_
    refine Wk.new X0 hx hZ hown (w 11 _ rfl) (w 12 _ rfl) (w 13 _ rfl) e0 (hb hby d2_20) rfl (by decide) (by decide) ?_
    intro T2 h2 a2 g2 X2 e2 E2 A2 D2
    have O3 : Old Z Z.heap.size h2 := O0.ext E2
    have f4 : Fld Z h2 a2 "java/lang/String" "coder" "B" (.int (0 : Int32)) := D2 (Or.inr (w 37 _ rfl)) (ty := .byte) (by decide)
    have f5 : Fld Z h2 a2 "java/lang/String" "value" "[B" .null := D2 (Or.inr (w 39 _ rfl)) (ty := (.array .byte)) (by decide)
    refine Wk.dup X2 hx (hb hby d2_23) rfl rfl ?_
    refine Wk.iconst X2 hx (v := (1 : Int32)) (hb hby d2_24) rfl rfl ?_
    refine Wk.newarray X2 hx hZ (w 6 _ rfl) e2 (hb hby d2_25) rfl (by decide) 1 (by decide) (by decide) (by decide) (by decide) ?_
    intro T6 h6 a6 kA6 g6 X6 e6 E6 A6
    have O7 : Old Z Z.heap.size h6 := O3.ext E6
    have V6 : Arv Z h6 a6 kA6 .char (1 : Int32) [(.int (0 : Int32))] (.int (0 : Int32)) := A6.pad (pad_rep [] (.int (0 : Int32)) 1)
    refine Wk.dup X6 hx (hb hby d2_27) rfl rfl ?_
    refine Wk.iconst X6 hx (v := (0 : Int32)) (hb hby d2_28) rfl rfl ?_
    refine Wk.aloadN X6 hx (hb hby d2_29) rfl rfl rfl ?_
    refine Wk.iconst X6 hx (v := (0 : Int32)) (hb hby d2_30) rfl rfl ?_
    have KK8 : Keep h0 h6 [] := (((Keep.refl h0 []).ext E2).ext E6)
    have f9 := (pc_.keep KK8 nin0)
    refine Wk.caload X6 hx hZ e6 f9 (by decide) (by decide) (v := c0) rfl (hb hby d2_31) rfl ?_
    refine Wk.castore X6 hx hZ e6 V6 (by decide) (by decide) 0 rfl (Nat.le_of_ble_eq_true rfl) (w := c0) (narC hLc0.chr) (hb hby d2_32) rfl ?_
    intro T10 h10 L10 M10 X10 e10 W10 A10
    have KK11 : Keep h0 h2 [] := ((Keep.refl h0 []).ext E2)
    have N10 := M10 _ _ N0 (Or.inr (Nat.le_trans KK11.1 (Nat.le_of_eq g6)))
    have O12 : Old Z Z.heap.size h10 := O7.wr W10 (Nat.le_trans (Nat.le_trans (Nat.le_trans (Nat.le_of_eq O0.1.symm) O0.2.1) KK11.1) (Nat.le_of_eq g6))
    have V10 : Arv Z h10 a6 kA6 .char (1 : Int32) [(.int c0)] (.int (0 : Int32)) := A10
    have hws_words : ∀ d ∈ StrChars.Road.words, d.before a0 Z = true := fun d hd => hw d ((by decide +kernel : ∀ d ∈ StrChars.Road.words, d ∈ tables_1) d hd)
    have KK13 : Keep h2 h10 [] := (((Keep.refl h2 []).ext E6).wr W10 (Or.inr (Nat.le_of_eq g6)))
    have f14 : Exa Z h10 a2 "java/lang/String" := (A2.keep KK13)
    have f15 : Fld Z h10 a2 "java/lang/String" "value" "[B" .null := (f5.keep KK13 nin0)
    have f16 : Fld Z h10 a2 "java/lang/String" "coder" "B" (.int (0 : Int32)) := (f4.keep KK13 nin0)
    have KK17 : Keep h0 h10 [] := (KK8.wr W10 (Or.inr (Nat.le_trans KK11.1 (Nat.le_of_eq g6))))
    refine Wk.callI X10 hx hZ rfl hown (w 14 _ rfl) (w 15 _ rfl) (w 16 _ rfl) (by decide) (as' := [(.ref a6)]) (StrChars.Road.backV (W := 1) hZ hws_words (kI := 4) (w 12 _ rfl) (cs := ([c0] : List Int32)) (bs := (([c0] : List Int32).map (fun c => c.toInt8.toInt32))) (n := 1) (Nat.le_of_eq g2) KK17.1 f14 f15 f16 V10 (SG1.ext O12.2) nG1 rfl rfl (by decide) (by decide) (latCons hLc0 latNil) rfl (by decide) (by decide)) e10 (by rw [hml]; rfl) (rest := [(.ref a2)]) (lenOf pd35 rfl) rfl (Nat.le_of_eq rfl) (hb hby d2_33) rfl (by decide) (by decide) ?_
    intro T18 h18 v18 L18 X18 e18 hQ18
    obtain ⟨rfl, Nq18, K18, E18s, C18s, t18, kb18, z18a, z18b, z18c, V18s, B18s⟩ := hQ18
    have N18 := Fk.app N10 (Fk.of_fr (ws := []) Nq18) (Nat.le_refl _) all0
    have O19 : Old Z Z.heap.size h18 := O12.keep K18 (allS (Nat.le_trans (Nat.le_trans (Nat.le_trans (Nat.le_of_eq O0.1.symm) O0.2.1) (Keep.refl h0 []).1) (Nat.le_of_eq g2)) all0)
    have B18t : Arv Z h18 t18 kb18 .byte (1 : Int32) [(.int c0.toInt8.toInt32)] (.int (0 : Int32)) := B18s
    show Wp p e below _ _ T18 (mkF m 36 #[.val (.ref ca), .val (.int n_)] [(.ref a2)])
    have Vk20 : Arv Z h18 t18 kb18 .byte n_ [(.int c0.toInt8.toInt32)] (.int (0 : Int32)) := by rw [hc1]; exact B18t
    have KK21 : Keep h0 h18 [] := (KK17.trans K18 (allS (Or.inr (Nat.le_of_eq g2)) all0))
    exact Wk.retA' X18 hx hlk hr rfl rfl (hb hby d2_36) (by decide) (by decide) (Qc := Q_rm_strP Z ca kc c0 c1 c2 c3 n_ G1 h0) e18 ⟨a2, t18, kb18, [(.int c0.toInt8.toInt32)], rfl, N18, KK21, (Nat.le_of_eq g2), (Nat.le_trans KK17.1 z18b), E18s, C18s, V18s, Vk20, (str_1 hc1)⟩
  refine Wk.icmpYes X0 hx (hb hby d2_17) (by decide) (q := 37) rfl (feq hc1).2 ?_
  refine Wk.iloadN X0 hx (hb hby d2_37) rfl rfl ?_
  refine Wk.iconst X0 hx (v := (2 : Int32)) (hb hby d2_38) rfl rfl ?_
  by_cases hc22 : n_ = (2 : Int32)
  · skip
    refine Wk.icmpNo X0 hx (hb hby d2_39) rfl (teq hc22).2 ?_
    refine Wk.new X0 hx hZ hown (w 11 _ rfl) (w 12 _ rfl) (w 13 _ rfl) e0 (hb hby d2_42) rfl (by decide) (by decide) ?_
    intro T23 h23 a23 g23 X23 e23 E23 A23 D23
    have O24 : Old Z Z.heap.size h23 := O0.ext E23
    have f25 : Fld Z h23 a23 "java/lang/String" "coder" "B" (.int (0 : Int32)) := D23 (Or.inr (w 37 _ rfl)) (ty := .byte) (by decide)
    have f26 : Fld Z h23 a23 "java/lang/String" "value" "[B" .null := D23 (Or.inr (w 39 _ rfl)) (ty := (.array .byte)) (by decide)
    refine Wk.dup X23 hx (hb hby d2_45) rfl rfl ?_
    refine Wk.iconst X23 hx (v := (2 : Int32)) (hb hby d2_46) rfl rfl ?_
    refine Wk.newarray X23 hx hZ (w 6 _ rfl) e23 (hb hby d2_47) rfl (by decide) 2 (by decide) (by decide) (by decide) (by decide) ?_
    intro T27 h27 a27 kA27 g27 X27 e27 E27 A27
    have O28 : Old Z Z.heap.size h27 := O24.ext E27
    have V27 : Arv Z h27 a27 kA27 .char (2 : Int32) [(.int (0 : Int32)), (.int (0 : Int32))] (.int (0 : Int32)) := A27.pad (pad_rep [] (.int (0 : Int32)) 2)
    refine Wk.dup X27 hx (hb hby d2_49) rfl rfl ?_
    refine Wk.iconst X27 hx (v := (0 : Int32)) (hb hby d2_50) rfl rfl ?_
    refine Wk.aloadN X27 hx (hb hby d2_51) rfl rfl rfl ?_
    refine Wk.iconst X27 hx (v := (0 : Int32)) (hb hby d2_52) rfl rfl ?_
    have KK29 : Keep h0 h27 [] := (((Keep.refl h0 []).ext E23).ext E27)
    have f30 := (pc_.keep KK29 nin0)
    refine Wk.caload X27 hx hZ e27 f30 (by decide) (by decide) (v := c0) rfl (hb hby d2_53) rfl ?_
    refine Wk.castore X27 hx hZ e27 V27 (by decide) (by decide) 0 rfl (Nat.le_of_ble_eq_true rfl) (w := c0) (narC hLc0.chr) (hb hby d2_54) rfl ?_
    intro T31 h31 L31 M31 X31 e31 W31 A31
    have KK32 : Keep h0 h23 [] := ((Keep.refl h0 []).ext E23)
    have N31 := M31 _ _ N0 (Or.inr (Nat.le_trans KK32.1 (Nat.le_of_eq g27)))
    have O33 : Old Z Z.heap.size h31 := O28.wr W31 (Nat.le_trans (Nat.le_trans (Nat.le_trans (Nat.le_of_eq O0.1.symm) O0.2.1) KK32.1) (Nat.le_of_eq g27))
    have V31 : Arv Z h31 a27 kA27 .char (2 : Int32) [(.int c0), (.int (0 : Int32))] (.int (0 : Int32)) := A31
    refine Wk.dup X31 hx (hb hby d2_55) rfl rfl ?_
    refine Wk.iconst X31 hx (v := (1 : Int32)) (hb hby d2_56) rfl rfl ?_
    refine Wk.aloadN X31 hx (hb hby d2_57) rfl rfl rfl ?_
    refine Wk.iconst X31 hx (v := (1 : Int32)) (hb hby d2_58) rfl rfl ?_
    have KK34 : Keep h0 h31 [] := (KK29.wr W31 (Or.inr (Nat.le_trans KK32.1 (Nat.le_of_eq g27))))
    have f35 := (pc_.keep KK34 nin0)
    refine Wk.caload X31 hx hZ e31 f35 (by decide) (by decide) (v := c1) rfl (hb hby d2_59) rfl ?_
    refine Wk.castore X31 hx hZ e31 V31 (by decide) (by decide) 1 rfl (Nat.le_of_ble_eq_true rfl) (w := c1) (narC hLc1.chr) (hb hby d2_60) rfl ?_
    intro T36 h36 L36 M36 X36 e36 W36 A36
    have N36 := M36 _ _ N31 (Or.inr (Nat.le_trans KK32.1 (Nat.le_of_eq g27)))
    have O37 : Old Z Z.heap.size h36 := O33.wr W36 (Nat.le_trans (Nat.le_trans (Nat.le_trans (Nat.le_of_eq O0.1.symm) O0.2.1) KK32.1) (Nat.le_of_eq g27))
    have V36 : Arv Z h36 a27 kA27 .char (2 : Int32) [(.int c0), (.int c1)] (.int (0 : Int32)) := A36
    have hws_words : ∀ d ∈ StrChars.Road.words, d.before a0 Z = true := fun d hd => hw d ((by decide +kernel : ∀ d ∈ StrChars.Road.words, d ∈ tables_1) d hd)
    have KK38 : Keep h23 h36 [] := ((((Keep.refl h23 []).ext E27).wr W31 (Or.inr (Nat.le_of_eq g27))).wr W36 (Or.inr (Nat.le_of_eq g27)))
    have f39 : Exa Z h36 a23 "java/lang/String" := (A23.keep KK38)
    have f40 : Fld Z h36 a23 "java/lang/String" "value" "[B" .null := (f26.keep KK38 nin0)
    have f41 : Fld Z h36 a23 "java/lang/String" "coder" "B" (.int (0 : Int32)) := (f25.keep KK38 nin0)
    have KK42 : Keep h0 h36 [] := (KK34.wr W36 (Or.inr (Nat.le_trans KK32.1 (Nat.le_of_eq g27))))
    refine Wk.callI X36 hx hZ rfl hown (w 14 _ rfl) (w 15 _ rfl) (w 16 _ rfl) (by decide) (as' := [(.ref a27)]) (StrChars.Road.backV (W := 1) hZ hws_words (kI := 4) (w 12 _ rfl) (cs := ([c0, c1] : List Int32)) (bs := (([c0, c1] : List Int32).map (fun c => c.toInt8.toInt32))) (n := 2) (Nat.le_of_eq g23) KK42.1 f39 f40 f41 V36 (SG1.ext O37.2) nG1 rfl rfl (by decide) (by decide) (latCons hLc0 (latCons hLc1 latNil)) rfl (by decide) (by decide)) e36 (by rw [hml]; rfl) (rest := [(.ref a23)]) (lenOf pd35 rfl) rfl (Nat.le_of_eq rfl) (hb hby d2_61) rfl (by decide) (by decide) ?_
    intro T43 h43 v43 L43 X43 e43 hQ43
    obtain ⟨rfl, Nq43, K43, E43s, C43s, t43, kb43, z43a, z43b, z43c, V43s, B43s⟩ := hQ43
    have N43 := Fk.app N36 (Fk.of_fr (ws := []) Nq43) (Nat.le_refl _) all0
    have O44 : Old Z Z.heap.size h43 := O37.keep K43 (allS (Nat.le_trans (Nat.le_trans (Nat.le_trans (Nat.le_of_eq O0.1.symm) O0.2.1) (Keep.refl h0 []).1) (Nat.le_of_eq g23)) all0)
    have B43t : Arv Z h43 t43 kb43 .byte (2 : Int32) [(.int c0.toInt8.toInt32), (.int c1.toInt8.toInt32)] (.int (0 : Int32)) := B43s
    show Wp p e below _ _ T43 (mkF m 64 #[.val (.ref ca), .val (.int n_)] [(.ref a23)])
    have Vk45 : Arv Z h43 t43 kb43 .byte n_ [(.int c0.toInt8.toInt32), (.int c1.toInt8.toInt32)] (.int (0 : Int32)) := by rw [hc22]; exact B43t
    have KK46 : Keep h0 h43 [] := (KK42.trans K43 (allS (Or.inr (Nat.le_of_eq g23)) all0))
    exact Wk.retA' X43 hx hlk hr rfl rfl (hb hby d2_64) (by decide) (by decide) (Qc := Q_rm_strP Z ca kc c0 c1 c2 c3 n_ G1 h0) e43 ⟨a23, t43, kb43, [(.int c0.toInt8.toInt32), (.int c1.toInt8.toInt32)], rfl, N43, KK46, (Nat.le_of_eq g23), (Nat.le_trans KK42.1 z43b), E43s, C43s, V43s, Vk45, (str_2 hc22)⟩
  refine Wk.icmpYes X0 hx (hb hby d2_39) (by decide) (q := 65) rfl (feq hc22).2 ?_
  refine Wk.iloadN X0 hx (hb hby d2_65) rfl rfl ?_
  refine Wk.iconst X0 hx (v := (3 : Int32)) (hb hby d2_66) rfl rfl ?_
  by_cases hc47 : n_ = (3 : Int32)
  · skip
    refine Wk.icmpNo X0 hx (hb hby d2_67) rfl (teq hc47).2 ?_
    refine Wk.new X0 hx hZ hown (w 11 _ rfl) (w 12 _ rfl) (w 13 _ rfl) e0 (hb hby d2_70) rfl (by decide) (by decide) ?_
    intro T48 h48 a48 g48 X48 e48 E48 A48 D48
    have O49 : Old Z Z.heap.size h48 := O0.ext E48
    have f50 : Fld Z h48 a48 "java/lang/String" "coder" "B" (.int (0 : Int32)) := D48 (Or.inr (w 37 _ rfl)) (ty := .byte) (by decide)
    have f51 : Fld Z h48 a48 "java/lang/String" "value" "[B" .null := D48 (Or.inr (w 39 _ rfl)) (ty := (.array .byte)) (by decide)
    refine Wk.dup X48 hx (hb hby d2_73) rfl rfl ?_
    refine Wk.iconst X48 hx (v := (3 : Int32)) (hb hby d2_74) rfl rfl ?_
    refine Wk.newarray X48 hx hZ (w 6 _ rfl) e48 (hb hby d2_75) rfl (by decide) 3 (by decide) (by decide) (by decide) (by decide) ?_
    intro T52 h52 a52 kA52 g52 X52 e52 E52 A52
    have O53 : Old Z Z.heap.size h52 := O49.ext E52
    have V52 : Arv Z h52 a52 kA52 .char (3 : Int32) [(.int (0 : Int32)), (.int (0 : Int32)), (.int (0 : Int32))] (.int (0 : Int32)) := A52.pad (pad_rep [] (.int (0 : Int32)) 3)
    refine Wk.dup X52 hx (hb hby d2_77) rfl rfl ?_
    refine Wk.iconst X52 hx (v := (0 : Int32)) (hb hby d2_78) rfl rfl ?_
    refine Wk.aloadN X52 hx (hb hby d2_79) rfl rfl rfl ?_
    refine Wk.iconst X52 hx (v := (0 : Int32)) (hb hby d2_80) rfl rfl ?_
    have KK54 : Keep h0 h52 [] := (((Keep.refl h0 []).ext E48).ext E52)
    have f55 := (pc_.keep KK54 nin0)
    refine Wk.caload X52 hx hZ e52 f55 (by decide) (by decide) (v := c0) rfl (hb hby d2_81) rfl ?_
    refine Wk.castore X52 hx hZ e52 V52 (by decide) (by decide) 0 rfl (Nat.le_of_ble_eq_true rfl) (w := c0) (narC hLc0.chr) (hb hby d2_82) rfl ?_
    intro T56 h56 L56 M56 X56 e56 W56 A56
    have KK57 : Keep h0 h48 [] := ((Keep.refl h0 []).ext E48)
    have N56 := M56 _ _ N0 (Or.inr (Nat.le_trans KK57.1 (Nat.le_of_eq g52)))
    have O58 : Old Z Z.heap.size h56 := O53.wr W56 (Nat.le_trans (Nat.le_trans (Nat.le_trans (Nat.le_of_eq O0.1.symm) O0.2.1) KK57.1) (Nat.le_of_eq g52))
    have V56 : Arv Z h56 a52 kA52 .char (3 : Int32) [(.int c0), (.int (0 : Int32)), (.int (0 : Int32))] (.int (0 : Int32)) := A56
    refine Wk.dup X56 hx (hb hby d2_83) rfl rfl ?_
    refine Wk.iconst X56 hx (v := (1 : Int32)) (hb hby d2_84) rfl rfl ?_
    refine Wk.aloadN X56 hx (hb hby d2_85) rfl rfl rfl ?_
    refine Wk.iconst X56 hx (v := (1 : Int32)) (hb hby d2_86) rfl rfl ?_
    have KK59 : Keep h0 h56 [] := (KK54.wr W56 (Or.inr (Nat.le_trans KK57.1 (Nat.le_of_eq g52))))
    have f60 := (pc_.keep KK59 nin0)
    refine Wk.caload X56 hx hZ e56 f60 (by decide) (by decide) (v := c1) rfl (hb hby d2_87) rfl ?_
    refine Wk.castore X56 hx hZ e56 V56 (by decide) (by decide) 1 rfl (Nat.le_of_ble_eq_true rfl) (w := c1) (narC hLc1.chr) (hb hby d2_88) rfl ?_
    intro T61 h61 L61 M61 X61 e61 W61 A61
    have N61 := M61 _ _ N56 (Or.inr (Nat.le_trans KK57.1 (Nat.le_of_eq g52)))
    have O62 : Old Z Z.heap.size h61 := O58.wr W61 (Nat.le_trans (Nat.le_trans (Nat.le_trans (Nat.le_of_eq O0.1.symm) O0.2.1) KK57.1) (Nat.le_of_eq g52))
    have V61 : Arv Z h61 a52 kA52 .char (3 : Int32) [(.int c0), (.int c1), (.int (0 : Int32))] (.int (0 : Int32)) := A61
    refine Wk.dup X61 hx (hb hby d2_89) rfl rfl ?_
    refine Wk.iconst X61 hx (v := (2 : Int32)) (hb hby d2_90) rfl rfl ?_
    refine Wk.aloadN X61 hx (hb hby d2_91) rfl rfl rfl ?_
    refine Wk.iconst X61 hx (v := (2 : Int32)) (hb hby d2_92) rfl rfl ?_
    have KK63 : Keep h0 h61 [] := (KK59.wr W61 (Or.inr (Nat.le_trans KK57.1 (Nat.le_of_eq g52))))
    have f64 := (pc_.keep KK63 nin0)
    refine Wk.caload X61 hx hZ e61 f64 (by decide) (by decide) (v := c2) rfl (hb hby d2_93) rfl ?_
    refine Wk.castore X61 hx hZ e61 V61 (by decide) (by decide) 2 rfl (Nat.le_of_ble_eq_true rfl) (w := c2) (narC hLc2.chr) (hb hby d2_94) rfl ?_
    intro T65 h65 L65 M65 X65 e65 W65 A65
    have N65 := M65 _ _ N61 (Or.inr (Nat.le_trans KK57.1 (Nat.le_of_eq g52)))
    have O66 : Old Z Z.heap.size h65 := O62.wr W65 (Nat.le_trans (Nat.le_trans (Nat.le_trans (Nat.le_of_eq O0.1.symm) O0.2.1) KK57.1) (Nat.le_of_eq g52))
    have V65 : Arv Z h65 a52 kA52 .char (3 : Int32) [(.int c0), (.int c1), (.int c2)] (.int (0 : Int32)) := A65
    have hws_words : ∀ d ∈ StrChars.Road.words, d.before a0 Z = true := fun d hd => hw d ((by decide +kernel : ∀ d ∈ StrChars.Road.words, d ∈ tables_1) d hd)
    have KK67 : Keep h48 h65 [] := (((((Keep.refl h48 []).ext E52).wr W56 (Or.inr (Nat.le_of_eq g52))).wr W61 (Or.inr (Nat.le_of_eq g52))).wr W65 (Or.inr (Nat.le_of_eq g52)))
    have f68 : Exa Z h65 a48 "java/lang/String" := (A48.keep KK67)
    have f69 : Fld Z h65 a48 "java/lang/String" "value" "[B" .null := (f51.keep KK67 nin0)
    have f70 : Fld Z h65 a48 "java/lang/String" "coder" "B" (.int (0 : Int32)) := (f50.keep KK67 nin0)
    have KK71 : Keep h0 h65 [] := (KK63.wr W65 (Or.inr (Nat.le_trans KK57.1 (Nat.le_of_eq g52))))
    refine Wk.callI X65 hx hZ rfl hown (w 14 _ rfl) (w 15 _ rfl) (w 16 _ rfl) (by decide) (as' := [(.ref a52)]) (StrChars.Road.backV (W := 1) hZ hws_words (kI := 4) (w 12 _ rfl) (cs := ([c0, c1, c2] : List Int32)) (bs := (([c0, c1, c2] : List Int32).map (fun c => c.toInt8.toInt32))) (n := 3) (Nat.le_of_eq g48) KK71.1 f68 f69 f70 V65 (SG1.ext O66.2) nG1 rfl rfl (by decide) (by decide) (latCons hLc0 (latCons hLc1 (latCons hLc2 latNil))) rfl (by decide) (by decide)) e65 (by rw [hml]; rfl) (rest := [(.ref a48)]) (lenOf pd35 rfl) rfl (Nat.le_of_eq rfl) (hb hby d2_95) rfl (by decide) (by decide) ?_
    intro T72 h72 v72 L72 X72 e72 hQ72
    obtain ⟨rfl, Nq72, K72, E72s, C72s, t72, kb72, z72a, z72b, z72c, V72s, B72s⟩ := hQ72
    have N72 := Fk.app N65 (Fk.of_fr (ws := []) Nq72) (Nat.le_refl _) all0
    have O73 : Old Z Z.heap.size h72 := O66.keep K72 (allS (Nat.le_trans (Nat.le_trans (Nat.le_trans (Nat.le_of_eq O0.1.symm) O0.2.1) (Keep.refl h0 []).1) (Nat.le_of_eq g48)) all0)
    have B72t : Arv Z h72 t72 kb72 .byte (3 : Int32) [(.int c0.toInt8.toInt32), (.int c1.toInt8.toInt32), (.int c2.toInt8.toInt32)] (.int (0 : Int32)) := B72s
    show Wp p e below _ _ T72 (mkF m 98 #[.val (.ref ca), .val (.int n_)] [(.ref a48)])
    have Vk74 : Arv Z h72 t72 kb72 .byte n_ [(.int c0.toInt8.toInt32), (.int c1.toInt8.toInt32), (.int c2.toInt8.toInt32)] (.int (0 : Int32)) := by rw [hc47]; exact B72t
    have KK75 : Keep h0 h72 [] := (KK71.trans K72 (allS (Or.inr (Nat.le_of_eq g48)) all0))
    exact Wk.retA' X72 hx hlk hr rfl rfl (hb hby d2_98) (by decide) (by decide) (Qc := Q_rm_strP Z ca kc c0 c1 c2 c3 n_ G1 h0) e72 ⟨a48, t72, kb72, [(.int c0.toInt8.toInt32), (.int c1.toInt8.toInt32), (.int c2.toInt8.toInt32)], rfl, N72, KK75, (Nat.le_of_eq g48), (Nat.le_trans KK71.1 z72b), E72s, C72s, V72s, Vk74, (str_3 hc47)⟩
  refine Wk.icmpYes X0 hx (hb hby d2_67) (by decide) (q := 99) rfl (feq hc47).2 ?_
  refine Wk.new X0 hx hZ hown (w 11 _ rfl) (w 12 _ rfl) (w 13 _ rfl) e0 (hb hby d2_99) rfl (by decide) (by decide) ?_
  intro T76 h76 a76 g76 X76 e76 E76 A76 D76
  have O77 : Old Z Z.heap.size h76 := O0.ext E76
  have f78 : Fld Z h76 a76 "java/lang/String" "coder" "B" (.int (0 : Int32)) := D76 (Or.inr (w 37 _ rfl)) (ty := .byte) (by decide)
  have f79 : Fld Z h76 a76 "java/lang/String" "value" "[B" .null := D76 (Or.inr (w 39 _ rfl)) (ty := (.array .byte)) (by decide)
  refine Wk.dup X76 hx (hb hby d2_102) rfl rfl ?_
  refine Wk.iconst X76 hx (v := (4 : Int32)) (hb hby d2_103) rfl rfl ?_
  refine Wk.newarray X76 hx hZ (w 6 _ rfl) e76 (hb hby d2_104) rfl (by decide) 4 (by decide) (by decide) (by decide) (by decide) ?_
  intro T80 h80 a80 kA80 g80 X80 e80 E80 A80
  have O81 : Old Z Z.heap.size h80 := O77.ext E80
  have V80 : Arv Z h80 a80 kA80 .char (4 : Int32) [(.int (0 : Int32)), (.int (0 : Int32)), (.int (0 : Int32)), (.int (0 : Int32))] (.int (0 : Int32)) := A80.pad (pad_rep [] (.int (0 : Int32)) 4)
  refine Wk.dup X80 hx (hb hby d2_106) rfl rfl ?_
  refine Wk.iconst X80 hx (v := (0 : Int32)) (hb hby d2_107) rfl rfl ?_
  refine Wk.aloadN X80 hx (hb hby d2_108) rfl rfl rfl ?_
  refine Wk.iconst X80 hx (v := (0 : Int32)) (hb hby d2_109) rfl rfl ?_
  have KK82 : Keep h0 h80 [] := (((Keep.refl h0 []).ext E76).ext E80)
  have f83 := (pc_.keep KK82 nin0)
  refine Wk.caload X80 hx hZ e80 f83 (by decide) (by decide) (v := c0) rfl (hb hby d2_110) rfl ?_
  refine Wk.castore X80 hx hZ e80 V80 (by decide) (by decide) 0 rfl (Nat.le_of_ble_eq_true rfl) (w := c0) (narC hLc0.chr) (hb hby d2_111) rfl ?_
  intro T84 h84 L84 M84 X84 e84 W84 A84
  have KK85 : Keep h0 h76 [] := ((Keep.refl h0 []).ext E76)
  have N84 := M84 _ _ N0 (Or.inr (Nat.le_trans KK85.1 (Nat.le_of_eq g80)))
  have O86 : Old Z Z.heap.size h84 := O81.wr W84 (Nat.le_trans (Nat.le_trans (Nat.le_trans (Nat.le_of_eq O0.1.symm) O0.2.1) KK85.1) (Nat.le_of_eq g80))
  have V84 : Arv Z h84 a80 kA80 .char (4 : Int32) [(.int c0), (.int (0 : Int32)), (.int (0 : Int32)), (.int (0 : Int32))] (.int (0 : Int32)) := A84
  refine Wk.dup X84 hx (hb hby d2_112) rfl rfl ?_
  refine Wk.iconst X84 hx (v := (1 : Int32)) (hb hby d2_113) rfl rfl ?_
  refine Wk.aloadN X84 hx (hb hby d2_114) rfl rfl rfl ?_
  refine Wk.iconst X84 hx (v := (1 : Int32)) (hb hby d2_115) rfl rfl ?_
  have KK87 : Keep h0 h84 [] := (KK82.wr W84 (Or.inr (Nat.le_trans KK85.1 (Nat.le_of_eq g80))))
  have f88 := (pc_.keep KK87 nin0)
  refine Wk.caload X84 hx hZ e84 f88 (by decide) (by decide) (v := c1) rfl (hb hby d2_116) rfl ?_
  refine Wk.castore X84 hx hZ e84 V84 (by decide) (by decide) 1 rfl (Nat.le_of_ble_eq_true rfl) (w := c1) (narC hLc1.chr) (hb hby d2_117) rfl ?_
  intro T89 h89 L89 M89 X89 e89 W89 A89
  have N89 := M89 _ _ N84 (Or.inr (Nat.le_trans KK85.1 (Nat.le_of_eq g80)))
  have O90 : Old Z Z.heap.size h89 := O86.wr W89 (Nat.le_trans (Nat.le_trans (Nat.le_trans (Nat.le_of_eq O0.1.symm) O0.2.1) KK85.1) (Nat.le_of_eq g80))
  have V89 : Arv Z h89 a80 kA80 .char (4 : Int32) [(.int c0), (.int c1), (.int (0 : Int32)), (.int (0 : Int32))] (.int (0 : Int32)) := A89
  refine Wk.dup X89 hx (hb hby d2_118) rfl rfl ?_
  refine Wk.iconst X89 hx (v := (2 : Int32)) (hb hby d2_119) rfl rfl ?_
  refine Wk.aloadN X89 hx (hb hby d2_120) rfl rfl rfl ?_
  refine Wk.iconst X89 hx (v := (2 : Int32)) (hb hby d2_121) rfl rfl ?_
  have KK91 : Keep h0 h89 [] := (KK87.wr W89 (Or.inr (Nat.le_trans KK85.1 (Nat.le_of_eq g80))))
  have f92 := (pc_.keep KK91 nin0)
  refine Wk.caload X89 hx hZ e89 f92 (by decide) (by decide) (v := c2) rfl (hb hby d2_122) rfl ?_
  refine Wk.castore X89 hx hZ e89 V89 (by decide) (by decide) 2 rfl (Nat.le_of_ble_eq_true rfl) (w := c2) (narC hLc2.chr) (hb hby d2_123) rfl ?_
  intro T93 h93 L93 M93 X93 e93 W93 A93
  have N93 := M93 _ _ N89 (Or.inr (Nat.le_trans KK85.1 (Nat.le_of_eq g80)))
  have O94 : Old Z Z.heap.size h93 := O90.wr W93 (Nat.le_trans (Nat.le_trans (Nat.le_trans (Nat.le_of_eq O0.1.symm) O0.2.1) KK85.1) (Nat.le_of_eq g80))
  have V93 : Arv Z h93 a80 kA80 .char (4 : Int32) [(.int c0), (.int c1), (.int c2), (.int (0 : Int32))] (.int (0 : Int32)) := A93
  refine Wk.dup X93 hx (hb hby d2_124) rfl rfl ?_
  refine Wk.iconst X93 hx (v := (3 : Int32)) (hb hby d2_125) rfl rfl ?_
  refine Wk.aloadN X93 hx (hb hby d2_126) rfl rfl rfl ?_
  refine Wk.iconst X93 hx (v := (3 : Int32)) (hb hby d2_127) rfl rfl ?_
  have KK95 : Keep h0 h93 [] := (KK91.wr W93 (Or.inr (Nat.le_trans KK85.1 (Nat.le_of_eq g80))))
  have f96 := (pc_.keep KK95 nin0)
  refine Wk.caload X93 hx hZ e93 f96 (by decide) (by decide) (v := c3) rfl (hb hby d2_128) rfl ?_
  refine Wk.castore X93 hx hZ e93 V93 (by decide) (by decide) 3 rfl (Nat.le_of_ble_eq_true rfl) (w := c3) (narC hLc3.chr) (hb hby d2_129) rfl ?_
  intro T97 h97 L97 M97 X97 e97 W97 A97
  have N97 := M97 _ _ N93 (Or.inr (Nat.le_trans KK85.1 (Nat.le_of_eq g80)))
  have O98 : Old Z Z.heap.size h97 := O94.wr W97 (Nat.le_trans (Nat.le_trans (Nat.le_trans (Nat.le_of_eq O0.1.symm) O0.2.1) KK85.1) (Nat.le_of_eq g80))
  have V97 : Arv Z h97 a80 kA80 .char (4 : Int32) [(.int c0), (.int c1), (.int c2), (.int c3)] (.int (0 : Int32)) := A97
  have hws_words : ∀ d ∈ StrChars.Road.words, d.before a0 Z = true := fun d hd => hw d ((by decide +kernel : ∀ d ∈ StrChars.Road.words, d ∈ tables_1) d hd)
  have KK99 : Keep h76 h97 [] := ((((((Keep.refl h76 []).ext E80).wr W84 (Or.inr (Nat.le_of_eq g80))).wr W89 (Or.inr (Nat.le_of_eq g80))).wr W93 (Or.inr (Nat.le_of_eq g80))).wr W97 (Or.inr (Nat.le_of_eq g80)))
  have f100 : Exa Z h97 a76 "java/lang/String" := (A76.keep KK99)
  have f101 : Fld Z h97 a76 "java/lang/String" "value" "[B" .null := (f79.keep KK99 nin0)
  have f102 : Fld Z h97 a76 "java/lang/String" "coder" "B" (.int (0 : Int32)) := (f78.keep KK99 nin0)
  have KK103 : Keep h0 h97 [] := (KK95.wr W97 (Or.inr (Nat.le_trans KK85.1 (Nat.le_of_eq g80))))
  refine Wk.callI X97 hx hZ rfl hown (w 14 _ rfl) (w 15 _ rfl) (w 16 _ rfl) (by decide) (as' := [(.ref a80)]) (StrChars.Road.backV (W := 1) hZ hws_words (kI := 4) (w 12 _ rfl) (cs := ([c0, c1, c2, c3] : List Int32)) (bs := (([c0, c1, c2, c3] : List Int32).map (fun c => c.toInt8.toInt32))) (n := 4) (Nat.le_of_eq g76) KK103.1 f100 f101 f102 V97 (SG1.ext O98.2) nG1 rfl rfl (by decide) (by decide) (latCons hLc0 (latCons hLc1 (latCons hLc2 (latCons hLc3 latNil)))) rfl (by decide) (by decide)) e97 (by rw [hml]; rfl) (rest := [(.ref a76)]) (lenOf pd35 rfl) rfl (Nat.le_of_eq rfl) (hb hby d2_130) rfl (by decide) (by decide) ?_
  intro T104 h104 v104 L104 X104 e104 hQ104
  obtain ⟨rfl, Nq104, K104, E104s, C104s, t104, kb104, z104a, z104b, z104c, V104s, B104s⟩ := hQ104
  have N104 := Fk.app N97 (Fk.of_fr (ws := []) Nq104) (Nat.le_refl _) all0
  have O105 : Old Z Z.heap.size h104 := O98.keep K104 (allS (Nat.le_trans (Nat.le_trans (Nat.le_trans (Nat.le_of_eq O0.1.symm) O0.2.1) (Keep.refl h0 []).1) (Nat.le_of_eq g76)) all0)
  have B104t : Arv Z h104 t104 kb104 .byte (4 : Int32) [(.int c0.toInt8.toInt32), (.int c1.toInt8.toInt32), (.int c2.toInt8.toInt32), (.int c3.toInt8.toInt32)] (.int (0 : Int32)) := B104s
  show Wp p e below _ _ T104 (mkF m 133 #[.val (.ref ca), .val (.int n_)] [(.ref a76)])
  have Vk106 : Arv Z h104 t104 kb104 .byte n_ [(.int c0.toInt8.toInt32), (.int c1.toInt8.toInt32), (.int c2.toInt8.toInt32), (.int c3.toInt8.toInt32)] (.int (0 : Int32)) := by rw [(hn.four h0_ hc1 hc22 hc47)]; exact B104t
  have KK107 : Keep h0 h104 [] := (KK103.trans K104 (allS (Or.inr (Nat.le_of_eq g76)) all0))
  exact Wk.retA' X104 hx hlk hr rfl rfl (hb hby d2_133) (by decide) (by decide) (Qc := Q_rm_strP Z ca kc c0 c1 c2 c3 n_ G1 h0) e104 ⟨a76, t104, kb104, [(.int c0.toInt8.toInt32), (.int c1.toInt8.toInt32), (.int c2.toInt8.toInt32), (.int c3.toInt8.toInt32)], rfl, N104, KK107, (Nat.le_of_eq g76), (Nat.le_trans KK103.1 z104b), E104s, C104s, V104s, Vk106, (str_4 (hn.four h0_ hc1 hc22 hc47))⟩
theorem d2_4 : decode method_4_code 4 = .ok (.new 35, 3) := by decide +kernel
theorem d2_7 : decode method_4_code 7 = .ok (.dup, 1) := by decide +kernel
theorem d2_8 : decode method_4_code 8 = .ok (.iconst 0, 1) := by decide +kernel
theorem d2_9 : decode method_4_code 9 = .ok (.newarray .char, 2) := by decide +kernel
theorem d2_11 : decode method_4_code 11 = .ok (.invokespecial 51, 3) := by decide +kernel
theorem d2_14 : decode method_4_code 14 = .ok (.areturn, 1) := by decide +kernel
def Q_rm_strN (Z : State) (ca : Addr) (n_ : Int32) (h0 : Heap) (v : Option Value) (vm : Vm) (h : Heap) (L : List Loc) : Prop := ∃ x : Addr, ∃ la : Addr, ∃ lt : Addr, ∃ lk : ClassId, v = some (.ref x) ∧ Fk h0.size [] L ∧ Keep h0 h [] ∧ h0.size ≤ x ∧ Exa Z h x "java/lang/String" ∧ Fld Z h x "java/lang/String" "coder" "B" (.int (0 : Int32)) ∧ Fld Z h x "java/lang/String" "value" "[B" (.ref lt) ∧ Exa Z h la "java/lang/String" ∧ Fld Z h la "java/lang/String" "coder" "B" (.int (0 : Int32)) ∧ Fld Z h la "java/lang/String" "value" "[B" (.ref lt) ∧ Arv Z h lt lk .byte (0 : Int32) [] (.int (0 : Int32)) ∧ IB Z vm ("" :: []) ∧ LitV Z vm "java/lang/String" 7 la
set_option maxRecDepth 65536 in
set_option maxHeartbeats 40000000 in
theorem rm_strN (l : Launch) (Z : State) (a0 : Array Value) (hw : ∀ d ∈ tables_1, d.before a0 Z = true) (ws : List Jvm.Cond) (ca : Addr) (n_ : Int32) (h0 : Heap) (O0 : Old Z Z.heap.size h0) (hcw : Jvm.Lit.compactW.before a0 Z = true) (hheld : ∀ d ∈ consts_1, Jvm.Lit.constHeld Z d.1 d.2) (hz_ : n_ = (0 : Int32)) :
    CtrW l Z (⟨"com/example/lukko/lukko/RuleProblemTextPinLaw", "str", "([CI)Ljava/lang/String;"⟩ : MethodName) method_4_code 2 (some (.object "java/lang/String")) ws ({ frames := 3, cells := 4, slots := 8, locals := 43 } : Room) #[(.ref ca), (.int n_)] h0 (fun vm => IB Z vm []) (Q_rm_strN Z ca n_ h0) := by
  refine CtrW.intro (Ls := fun _ => #[.val (.ref ca), .val (.int n_)]) (plainFor_of_name pn31) (fun m => by first | rfl | (simp [entryFrame, mkF, argsToLocals, Value.category]; done)) ?_
  intro p e s m below meth c s₁ vm hx hby hml hr hlk hZ hown hnm hs0 X0 e0 hS hPv
  have I0 := hPv
  have w : ∀ (k : Nat) (d : Jvm.Cond), tables_1[k]? = some d → d.before a0 Z = true := fun k d q => hw d (List.mem_of_getElem? q)
  have N0 := Fk.nil h0.size []
  refine Wk.iloadN X0 hx (hb hby d2_0) rfl rfl ?_
  refine Wk.ifNo X0 hx (hb hby d2_1) rfl ((if0 _ _).trans (teq hz_).2) ?_
  refine Wk.new X0 hx hZ hown (w 11 _ rfl) (w 12 _ rfl) (w 13 _ rfl) e0 (hb hby d2_4) rfl (by decide) (by decide) ?_
  intro T1 h1 a1 g1 X1 e1 E1 A1 D1
  have O2 : Old Z Z.heap.size h1 := O0.ext E1
  have f3 : Fld Z h1 a1 "java/lang/String" "coder" "B" (.int (0 : Int32)) := D1 (Or.inr (w 37 _ rfl)) (ty := .byte) (by decide)
  have f4 : Fld Z h1 a1 "java/lang/String" "value" "[B" .null := D1 (Or.inr (w 39 _ rfl)) (ty := (.array .byte)) (by decide)
  refine Wk.dup X1 hx (hb hby d2_7) rfl rfl ?_
  refine Wk.iconst X1 hx (v := (0 : Int32)) (hb hby d2_8) rfl rfl ?_
  refine Wk.newarray X1 hx hZ (w 6 _ rfl) e1 (hb hby d2_9) rfl (by decide) 0 (by decide) (by decide) (by decide) (by decide) ?_
  intro T5 h5 a5 kA5 g5 X5 e5 E5 A5
  have O6 : Old Z Z.heap.size h5 := O2.ext E5
  have V5 : Arv Z h5 a5 kA5 .char (0 : Int32) [] (.int (0 : Int32)) := A5.pad (pad_rep [] (.int (0 : Int32)) 0)
  have KK7 : Keep h1 h5 [] := ((Keep.refl h1 []).ext E5)
  have f8 : Exa Z h5 a1 "java/lang/String" := (A1.keep KK7)
  have f9 : Fld Z h5 a1 "java/lang/String" "value" "[B" .null := (f4.keep KK7 nin0)
  have f10 : Fld Z h5 a1 "java/lang/String" "coder" "B" (.int (0 : Int32)) := (f3.keep KK7 nin0)
  have KK12 : Keep h0 h5 [] := (((Keep.refl h0 []).ext E1).ext E5)
  refine Wk.callIW X5 hx hS (Nat.le_trans (Nat.le_refl _) KK12.1) hZ rfl hown (w 14 _ rfl) (w 15 _ rfl) (w 16 _ rfl) (by decide) (as' := [(.ref a5)]) (payW (W := 1) (rm_s0N l Z a0 hw [] a1 a5 kA5 [] (.int (0 : Int32)) [] h5 O6 hcw hheld f8 f9 f10 (Nat.le_trans (Nat.le_trans (Nat.le_trans (Nat.le_of_eq O0.1.symm) O0.2.1) (Keep.refl h0 []).1) (Nat.le_of_eq g1)) V5 (by decide)) (s := s.setVm vm) hZ (w 16 _ rfl) (w 13 _ rfl) (by decide) (by decide) (fun _ q => ibWarm I0 q)) e5 (by rw [hml]; rfl) (rest := [(.ref a1)]) (lenOf pd35 rfl) rfl (Nat.le_of_eq rfl) (hb hby d2_11) rfl (by decide) (by decide) ?_
  intro T11 h11 v11 L11 vm11 X11 e11 hS11 hZ11 ho11 w39_11 hQ11
  obtain ⟨la11, lt11, lk11, rfl, Nq11, K11, q11_0, q11_1, q11_2, q11_3, q11_4, q11_5, q11_6, y11_0, y11_1⟩ := hQ11
  have N11 := Fk.app N0 Nq11 KK12.1 (allS (Or.inr (Nat.le_of_eq g1)) all0)
  have O13 : Old Z Z.heap.size h11 := O6.keep K11 (allS (Nat.le_trans (Nat.le_trans (Nat.le_trans (Nat.le_of_eq O0.1.symm) O0.2.1) (Keep.refl h0 []).1) (Nat.le_of_eq g1)) all0)
  show Wp p e below _ _ T11 (mkF m 14 #[.val (.ref ca), .val (.int n_)] [(.ref a1)])
  have KK14 : Keep h0 h11 [] := (KK12.trans K11 (allS (Or.inr (Nat.le_of_eq g1)) all0))
  exact Wk.retAW X11 hx hS11 (Nat.le_refl _) hlk hr rfl rfl (hb hby d2_14) (by decide) (by decide) (Qc := Q_rm_strN Z ca n_ h0) e11 (fun vm' hw' => ⟨a1, la11, lt11, lk11, rfl, N11, KK14, (Nat.le_of_eq g1), q11_0, q11_1, q11_2, q11_3, q11_4, q11_5, q11_6, (ibWarm y11_0 hw'), (y11_1.warm hw'.wide)⟩)
def Q_rm_strO (Z : State) (ca : Addr) (n_ : Int32) (la : Addr) (lt : Addr) (lk : ClassId) (h0 : Heap) (v : Option Value) (vm : Vm) (h : Heap) (L : List Loc) : Prop := ∃ x : Addr, v = some (.ref x) ∧ Fk h0.size [] L ∧ Keep h0 h [] ∧ h0.size ≤ x ∧ Exa Z h x "java/lang/String" ∧ Fld Z h x "java/lang/String" "coder" "B" (.int (0 : Int32)) ∧ Fld Z h x "java/lang/String" "value" "[B" (.ref lt) ∧ Exa Z h la "java/lang/String" ∧ Fld Z h la "java/lang/String" "coder" "B" (.int (0 : Int32)) ∧ Fld Z h la "java/lang/String" "value" "[B" (.ref lt) ∧ Arv Z h lt lk .byte (0 : Int32) [] (.int (0 : Int32)) ∧ IB Z vm ("" :: []) ∧ LitV Z vm "java/lang/String" 7 la
set_option maxRecDepth 65536 in
set_option maxHeartbeats 40000000 in
theorem rm_strO (l : Launch) (Z : State) (a0 : Array Value) (hw : ∀ d ∈ tables_1, d.before a0 Z = true) (ws : List Jvm.Cond) (ca : Addr) (n_ : Int32) (la : Addr) (lt : Addr) (lk : ClassId) (h0 : Heap) (O0 : Old Z Z.heap.size h0) (hcw : Jvm.Lit.compactW.before a0 Z = true) (hheld : ∀ d ∈ consts_1, Jvm.Lit.constHeld Z d.1 d.2) (hz_ : n_ = (0 : Int32)) (pl0_ : Exa Z h0 la "java/lang/String") (pl1_ : Fld Z h0 la "java/lang/String" "coder" "B" (.int (0 : Int32))) (pl2_ : Fld Z h0 la "java/lang/String" "value" "[B" (.ref lt)) (pl3_ : Arv Z h0 lt lk .byte (0 : Int32) [] (.int (0 : Int32))) :
    CtrW l Z (⟨"com/example/lukko/lukko/RuleProblemTextPinLaw", "str", "([CI)Ljava/lang/String;"⟩ : MethodName) method_4_code 2 (some (.object "java/lang/String")) ws ({ frames := 3, cells := 4, slots := 8, locals := 43 } : Room) #[(.ref ca), (.int n_)] h0 (fun vm => IB Z vm ("" :: []) ∧ LitV Z vm "java/lang/String" 7 la) (Q_rm_strO Z ca n_ la lt lk h0) := by
  refine CtrW.intro (Ls := fun _ => #[.val (.ref ca), .val (.int n_)]) (plainFor_of_name pn31) (fun m => by first | rfl | (simp [entryFrame, mkF, argsToLocals, Value.category]; done)) ?_
  intro p e s m below meth c s₁ vm hx hby hml hr hlk hZ hown hnm hs0 X0 e0 hS hPv
  obtain ⟨I0, LV0⟩ := hPv
  have w : ∀ (k : Nat) (d : Jvm.Cond), tables_1[k]? = some d → d.before a0 Z = true := fun k d q => hw d (List.mem_of_getElem? q)
  have N0 := Fk.nil h0.size []
  refine Wk.iloadN X0 hx (hb hby d2_0) rfl rfl ?_
  refine Wk.ifNo X0 hx (hb hby d2_1) rfl ((if0 _ _).trans (teq hz_).2) ?_
  refine Wk.new X0 hx hZ hown (w 11 _ rfl) (w 12 _ rfl) (w 13 _ rfl) e0 (hb hby d2_4) rfl (by decide) (by decide) ?_
  intro T1 h1 a1 g1 X1 e1 E1 A1 D1
  have O2 : Old Z Z.heap.size h1 := O0.ext E1
  have f3 : Fld Z h1 a1 "java/lang/String" "coder" "B" (.int (0 : Int32)) := D1 (Or.inr (w 37 _ rfl)) (ty := .byte) (by decide)
  have f4 : Fld Z h1 a1 "java/lang/String" "value" "[B" .null := D1 (Or.inr (w 39 _ rfl)) (ty := (.array .byte)) (by decide)
  refine Wk.dup X1 hx (hb hby d2_7) rfl rfl ?_
  refine Wk.iconst X1 hx (v := (0 : Int32)) (hb hby d2_8) rfl rfl ?_
  refine Wk.newarray X1 hx hZ (w 6 _ rfl) e1 (hb hby d2_9) rfl (by decide) 0 (by decide) (by decide) (by decide) (by decide) ?_
  intro T5 h5 a5 kA5 g5 X5 e5 E5 A5
  have O6 : Old Z Z.heap.size h5 := O2.ext E5
  have V5 : Arv Z h5 a5 kA5 .char (0 : Int32) [] (.int (0 : Int32)) := A5.pad (pad_rep [] (.int (0 : Int32)) 0)
  have KK7 : Keep h1 h5 [] := ((Keep.refl h1 []).ext E5)
  have f8 : Exa Z h5 a1 "java/lang/String" := (A1.keep KK7)
  have f9 : Fld Z h5 a1 "java/lang/String" "value" "[B" .null := (f4.keep KK7 nin0)
  have f10 : Fld Z h5 a1 "java/lang/String" "coder" "B" (.int (0 : Int32)) := (f3.keep KK7 nin0)
  have KK11 : Keep h0 h5 [] := (((Keep.refl h0 []).ext E1).ext E5)
  have f12 : Exa Z h5 la "java/lang/String" := (pl0_.keep KK11)
  have f13 : Fld Z h5 la "java/lang/String" "coder" "B" (.int (0 : Int32)) := (pl1_.keep KK11 nin0)
  have f14 : Fld Z h5 la "java/lang/String" "value" "[B" (.ref lt) := (pl2_.keep KK11 nin0)
  have f15 := (pl3_.keep KK11 nin0)
  refine Wk.callIW X5 hx hS (Nat.le_trans (Nat.le_refl _) KK11.1) hZ rfl hown (w 14 _ rfl) (w 15 _ rfl) (w 16 _ rfl) (by decide) (as' := [(.ref a5)]) (payW (W := 1) (rm_s0O l Z a0 hw [] a1 a5 kA5 [] (.int (0 : Int32)) ("" :: []) la lt lk h5 O6 hcw hheld f8 f9 f10 (Nat.le_trans (Nat.le_trans (Nat.le_trans (Nat.le_of_eq O0.1.symm) O0.2.1) (Keep.refl h0 []).1) (Nat.le_of_eq g1)) V5 f12 f13 f14 f15 (Ne.symm (Nat.ne_of_lt (Nat.lt_of_lt_of_le pl0_.lt (Nat.le_of_eq g1))))) (s := s.setVm vm) hZ (w 16 _ rfl) (w 13 _ rfl) (by decide) (by decide) (fun _ q => ⟨ibWarm I0 q, LV0.warm q.wide⟩)) e5 (by rw [hml]; rfl) (rest := [(.ref a1)]) (lenOf pd35 rfl) rfl (Nat.le_of_eq rfl) (hb hby d2_11) rfl (by decide) (by decide) ?_
  intro T16 h16 v16 L16 vm16 X16 e16 hS16 hZ16 ho16 w39_16 hQ16
  obtain ⟨rfl, Nq16, K16, q16_0, q16_1, q16_2, q16_3, q16_4, q16_5, q16_6, y16_0, y16_1⟩ := hQ16
  have N16 := Fk.app N0 Nq16 KK11.1 (allS (Or.inr (Nat.le_of_eq g1)) all0)
  have O17 : Old Z Z.heap.size h16 := O6.keep K16 (allS (Nat.le_trans (Nat.le_trans (Nat.le_trans (Nat.le_of_eq O0.1.symm) O0.2.1) (Keep.refl h0 []).1) (Nat.le_of_eq g1)) all0)
  show Wp p e below _ _ T16 (mkF m 14 #[.val (.ref ca), .val (.int n_)] [(.ref a1)])
  have KK18 : Keep h0 h16 [] := (KK11.trans K16 (allS (Or.inr (Nat.le_of_eq g1)) all0))
  exact Wk.retAW X16 hx hS16 (Nat.le_refl _) hlk hr rfl rfl (hb hby d2_14) (by decide) (by decide) (Qc := Q_rm_strO Z ca n_ la lt lk h0) e16 (fun vm' hw' => ⟨a1, rfl, N16, KK18, (Nat.le_of_eq g1), q16_0, q16_1, q16_2, q16_3, q16_4, q16_5, q16_6, (ibWarm y16_0 hw'), (y16_1.warm hw'.wide)⟩)
theorem pn36 : plainName "java/lang/Record" = true := by first | (simp [plainName, overriddenIn]; done) | decide +kernel
theorem d10_0 : decode jdk_30_method_1_code 0 = .ok (.aload_n 0, 1) := by decide +kernel
theorem d10_1 : decode jdk_30_method_1_code 1 = .ok (.invokespecial 1, 3) := by decide +kernel
theorem d10_4 : decode jdk_30_method_1_code 4 = .ok (.return_, 1) := by decide +kernel
def Q_rm_rec (Z : State) (x : Addr) (h0 : Heap) (v : Option Value) (h : Heap) (L : List Loc) : Prop := v = none ∧ Fk h0.size [] L ∧ h = h0
set_option maxRecDepth 65536 in
set_option maxHeartbeats 40000000 in
theorem rm_rec (l : Launch) (Z : State) (a0 : Array Value) (hw : ∀ d ∈ tables_1, d.before a0 Z = true) (ws : List Jvm.Cond) (x : Addr) (h0 : Heap) (O0 : Old Z Z.heap.size h0) :
    Ctr l Z (⟨"java/lang/Record", "<init>", "()V"⟩ : MethodName) jdk_30_method_1_code 1 none ws ({ frames := 1, cells := 0, slots := 0, locals := 12 } : Room) #[(.ref x)] h0 (Q_rm_rec Z x h0) := by
  refine Ctr.intro (Ls := fun _ => #[.val (.ref x)]) (plainFor_of_name pn36) (fun m => by first | rfl | (simp [entryFrame, mkF, argsToLocals, Value.category]; done)) ?_
  intro p e s m below meth c s₁ hx hby hml hr hlk hZ hown hnm hs0 X0 e0
  have w : ∀ (k : Nat) (d : Jvm.Cond), tables_1[k]? = some d → d.before a0 Z = true := fun k d q => hw d (List.mem_of_getElem? q)
  have N0 := Fk.nil h0.size []
  refine Wk.aloadN X0 hx (hb hby d10_0) rfl rfl rfl ?_
  refine Wk.objinit X0 hx hZ hown (w 54 _ rfl) (w 22 _ rfl) (w 23 _ rfl) e0 (by rw [hml]; rfl) (hb hby d10_1) rfl (by decide) 0 (Nat.le_of_eq rfl) (by decide) ?_
  intro T1 X1 e1
  exact Wk.ret0' X1 hx hlk hr (hb hby d10_4) (by decide) (by decide) (Qc := Q_rm_rec Z x h0) e1 ⟨rfl, N0, rfl⟩
theorem pn37 : plainName "java/util/Objects" = true := by first | (simp [plainName, overriddenIn]; done) | decide +kernel
theorem d11_0 : decode jdk_31_method_11_code 0 = .ok (.aload_n 0, 1) := by decide +kernel
theorem d11_1 : decode jdk_31_method_11_code 1 = .ok (.ifnonnull 12, 3) := by decide +kernel
theorem d11_13 : decode jdk_31_method_11_code 13 = .ok (.aload_n 0, 1) := by decide +kernel
theorem d11_14 : decode jdk_31_method_11_code 14 = .ok (.areturn, 1) := by decide +kernel
def Q_rm_rnn (Z : State) (x : Addr) (y : Addr) (h0 : Heap) (v : Option Value) (h : Heap) (L : List Loc) : Prop := v = some (.ref x) ∧ Fk h0.size [] L ∧ h = h0
set_option maxRecDepth 65536 in
set_option maxHeartbeats 40000000 in
theorem rm_rnn (l : Launch) (Z : State) (a0 : Array Value) (hw : ∀ d ∈ tables_1, d.before a0 Z = true) (ws : List Jvm.Cond) (x : Addr) (y : Addr) (h0 : Heap) (O0 : Old Z Z.heap.size h0) :
    Ctr l Z (⟨"java/util/Objects", "requireNonNull", "(Ljava/lang/Object;Ljava/lang/String;)Ljava/lang/Object;"⟩ : MethodName) jdk_31_method_11_code 2 (some (.object "java/lang/Object")) ws ({ frames := 0, cells := 0, slots := 0, locals := 0 } : Room) #[(.ref x), (.ref y)] h0 (Q_rm_rnn Z x y h0) := by
  refine Ctr.intro (Ls := fun _ => #[.val (.ref x), .val (.ref y)]) (plainFor_of_name pn37) (fun m => by first | rfl | (simp [entryFrame, mkF, argsToLocals, Value.category]; done)) ?_
  intro p e s m below meth c s₁ hx hby hml hr hlk hZ hown hnm hs0 X0 e0
  have w : ∀ (k : Nat) (d : Jvm.Cond), tables_1[k]? = some d → d.before a0 Z = true := fun k d q => hw d (List.mem_of_getElem? q)
  have N0 := Fk.nil h0.size []
  refine Wk.aloadN X0 hx (hb hby d11_0) rfl rfl rfl ?_
  refine Wk.ifnonnullYes X0 hx (hb hby d11_1) (by decide) (q := 13) rfl ?_
  refine Wk.aloadN X0 hx (hb hby d11_13) rfl rfl rfl ?_
  exact Wk.retA' X0 hx hlk hr rfl rfl (hb hby d11_14) (by decide) (by decide) (Qc := Q_rm_rnn Z x y h0) e0 ⟨rfl, N0, rfl⟩
theorem pn38 : plainName "com/example/lukko/lukko/RuleProblem" = true := by first | (simp [plainName, overriddenIn]; done) | decide +kernel
theorem d9_0 : decode prog_21_method_1_code 0 = .ok (.aload_n 0, 1) := by decide +kernel
theorem d9_1 : decode prog_21_method_1_code 1 = .ok (.invokespecial 1, 3) := by decide +kernel
theorem pd39 : parseMethodDescriptor "()V" = some ⟨[], none⟩ := by decide +kernel
theorem d9_4 : decode prog_21_method_1_code 4 = .ok (.aload_n 1, 1) := by decide +kernel
theorem d9_5 : decode prog_21_method_1_code 5 = .ok (.ldc 7, 2) := by decide +kernel
theorem d9_7 : decode prog_21_method_1_code 7 = .ok (.invokestatic 9, 3) := by decide +kernel
theorem pd40 : parseMethodDescriptor "(Ljava/lang/Object;Ljava/lang/String;)Ljava/lang/Object;" = some ⟨[(.object "java/lang/Object"), (.object "java/lang/String")], some (.object "java/lang/Object")⟩ := by decide +kernel
theorem d9_10 : decode prog_21_method_1_code 10 = .ok (.pop, 1) := by decide +kernel
theorem d9_11 : decode prog_21_method_1_code 11 = .ok (.aload 4, 2) := by decide +kernel
theorem d9_13 : decode prog_21_method_1_code 13 = .ok (.ldc 15, 2) := by decide +kernel
theorem d9_15 : decode prog_21_method_1_code 15 = .ok (.invokestatic 9, 3) := by decide +kernel
theorem d9_18 : decode prog_21_method_1_code 18 = .ok (.pop, 1) := by decide +kernel
theorem d9_19 : decode prog_21_method_1_code 19 = .ok (.aload_n 0, 1) := by decide +kernel
theorem d9_20 : decode prog_21_method_1_code 20 = .ok (.aload_n 1, 1) := by decide +kernel
theorem d9_21 : decode prog_21_method_1_code 21 = .ok (.putfield 17, 3) := by decide +kernel
theorem d9_24 : decode prog_21_method_1_code 24 = .ok (.aload_n 0, 1) := by decide +kernel
theorem d9_25 : decode prog_21_method_1_code 25 = .ok (.iload_n 2, 1) := by decide +kernel
theorem d9_26 : decode prog_21_method_1_code 26 = .ok (.putfield 22, 3) := by decide +kernel
theorem d9_29 : decode prog_21_method_1_code 29 = .ok (.aload_n 0, 1) := by decide +kernel
theorem d9_30 : decode prog_21_method_1_code 30 = .ok (.iload_n 3, 1) := by decide +kernel
theorem d9_31 : decode prog_21_method_1_code 31 = .ok (.putfield 26, 3) := by decide +kernel
theorem d9_34 : decode prog_21_method_1_code 34 = .ok (.aload_n 0, 1) := by decide +kernel
theorem d9_35 : decode prog_21_method_1_code 35 = .ok (.aload 4, 2) := by decide +kernel
theorem d9_37 : decode prog_21_method_1_code 37 = .ok (.putfield 29, 3) := by decide +kernel
theorem d9_40 : decode prog_21_method_1_code 40 = .ok (.return_, 1) := by decide +kernel
def Q_rm_rpi (Z : State) (rp : Addr) (x1 : Addr) (ln_ : Int32) (cn_ : Int32) (x2 : Addr) (h0 : Heap) (v : Option Value) (vm : Vm) (h : Heap) (L : List Loc) : Prop := v = none ∧ Fk h0.size [rp] L ∧ Keep h0 h [rp] ∧ Exa Z h rp "com/example/lukko/lukko/RuleProblem" ∧ Fld Z h rp "com/example/lukko/lukko/RuleProblem" "file" "Ljava/lang/String;" (.ref x1) ∧ Fld Z h rp "com/example/lukko/lukko/RuleProblem" "line" "I" (.int ln_) ∧ Fld Z h rp "com/example/lukko/lukko/RuleProblem" "column" "I" (.int cn_) ∧ Fld Z h rp "com/example/lukko/lukko/RuleProblem" "message" "Ljava/lang/String;" (.ref x2) ∧ IB Z vm ("message" :: ("file" :: ("" :: [])))
set_option maxRecDepth 65536 in
set_option maxHeartbeats 40000000 in
theorem rm_rpi (l : Launch) (Z : State) (a0 : Array Value) (hw : ∀ d ∈ tables_1, d.before a0 Z = true) (ws : List Jvm.Cond) (rp : Addr) (x1 : Addr) (ln_ : Int32) (cn_ : Int32) (x2 : Addr) (h0 : Heap) (O0 : Old Z Z.heap.size h0) (hcw : Jvm.Lit.compactW.before a0 Z = true) (hheld : ∀ d ∈ consts_1, Jvm.Lit.constHeld Z d.1 d.2) (pr0_ : Exa Z h0 rp "com/example/lukko/lukko/RuleProblem") (pr1_ : Fld Z h0 rp "com/example/lukko/lukko/RuleProblem" "file" "Ljava/lang/String;" .null) (pr2_ : Fld Z h0 rp "com/example/lukko/lukko/RuleProblem" "line" "I" (.int (0 : Int32))) (pr3_ : Fld Z h0 rp "com/example/lukko/lukko/RuleProblem" "column" "I" (.int (0 : Int32))) (pr4_ : Fld Z h0 rp "com/example/lukko/lukko/RuleProblem" "message" "Ljava/lang/String;" .null) (hrp : Z.heap.size ≤ rp) :
    CtrW l Z (⟨"com/example/lukko/lukko/RuleProblem", "<init>", "(Ljava/lang/String;IILjava/lang/String;)V"⟩ : MethodName) prog_21_method_1_code 5 none ws ({ frames := 2, cells := 4, slots := 52, locals := 24 } : Room) #[(.ref rp), (.ref x1), (.int ln_), (.int cn_), (.ref x2)] h0 (fun vm => IB Z vm ("" :: [])) (Q_rm_rpi Z rp x1 ln_ cn_ x2 h0) := by
  refine CtrW.intro (Ls := fun _ => #[.val (.ref rp), .val (.ref x1), .val (.int ln_), .val (.int cn_), .val (.ref x2)]) (plainFor_of_name pn38) (fun m => by first | rfl | (simp [entryFrame, mkF, argsToLocals, Value.category]; done)) ?_
  intro p e s m below meth c s₁ vm hx hby hml hr hlk hZ hown hnm hs0 X0 e0 hS hPv
  have I0 := hPv
  have w : ∀ (k : Nat) (d : Jvm.Cond), tables_1[k]? = some d → d.before a0 Z = true := fun k d q => hw d (List.mem_of_getElem? q)
  have N0 := Fk.nil h0.size [rp]
  refine Wk.aloadN X0 hx (hb hby d9_0) rfl rfl rfl ?_
  refine Wk.callI X0 hx hZ rfl hown (w 49 _ rfl) (w 50 _ rfl) (w 53 _ rfl) (by decide) (as' := []) (backOf (W := 0) (rm_rec l Z a0 hw [] rp h0 O0) hZ (w 53 _ rfl) (w 52 _ rfl) (by decide) (by decide)) e0 (by rw [hml]; rfl) (rest := []) (lenOf pd39 rfl) rfl (Nat.le_of_eq rfl) (hb hby d9_1) rfl (by decide) (by decide) ?_
  intro T1 h1 v1 L1 X1 e1 hQ1
  obtain ⟨rfl, Nq1, K1⟩ := hQ1
  have N1 := Fk.app N0 Nq1 (Nat.le_refl _) all0
  rw [K1] at e1
  show Wp p e below _ _ T1 (mkF m 4 #[.val (.ref rp), .val (.ref x1), .val (.int ln_), .val (.int cn_), .val (.ref x2)] [])
  refine Wk.aloadN X1 hx (hb hby d9_4) rfl rfl rfl ?_
  have wS : ∀ a ∈ Bundle.stringAtoms, a.before a0 Z = true := fun d hd => hw d ((by decide +kernel : ∀ d ∈ Bundle.stringAtoms, d ∈ tables_1) d hd)
  refine Wk.ldcNew X1 hx hZ hown (w 55 _ rfl) wS e1 hS (Nat.le_refl _) (by rw [hs0]; exact (Fk.app (Fk.nil h0.size []) Nq1 (Nat.le_refl _) all0).fr) (by rw [hs0]; exact O0) I0 (by first | decide | (intro q; simp at q) | simp_all) (hheld _ (List.mem_of_getElem? (i := 0) rfl)) hcw (vs := [(.int (102 : Int32)), (.int (105 : Int32)), (.int (108 : Int32)), (.int (101 : Int32))]) (z := (4 : Int32)) (by decide +kernel) (by decide) rfl (hb hby d9_5) rfl 16 (by decide) (by decide) (by decide) (by decide) ?_
  intro T2 h2 a2 b2 kb2 vm2 X2 e2 E2 hS2 hZ2 ho2 w39_2 A2 C2 V2 B2 I2 Lv2
  have O3 : Old Z Z.heap.size h2 := O0.ext E2
  refine Wk.callS X2 hx hZ2 ho2 (w 56 _ rfl) (w 57 _ rfl) (w 58 _ rfl) (w 59 _ rfl) (by decide) (as' := [(.ref x1), (.ref a2)]) (backOf (W := 0) (rm_rnn l Z a0 hw [] x1 a2 h2 O3) hZ2 (w 59 _ rfl) (w 58 _ rfl) (by decide) (by decide)) e2 (by rw [hml]; rfl) (rest := []) (lenOf pd40 rfl) rfl (Nat.le_of_eq rfl) (hb hby d9_7) rfl (by decide) (by decide) ?_
  intro T4 h4 v4 L4 X4 e4 hQ4
  obtain ⟨rfl, Nq4, K4⟩ := hQ4
  have KK5 : Keep h0 h2 [] := ((Keep.refl h0 []).ext E2)
  have N4 := Fk.app N1 Nq4 KK5.1 all0
  rw [K4] at e4
  show Wp p e below _ _ T4 (mkF m 10 #[.val (.ref rp), .val (.ref x1), .val (.int ln_), .val (.int cn_), .val (.ref x2)] [(.ref x1)])
  refine Wk.pop X4 hx (hb hby d9_10) rfl rfl ?_
  refine Wk.aload X4 hx (hb hby d9_11) rfl rfl rfl ?_
  refine Wk.ldcNew X4 hx hZ2 ho2 (w 60 _ rfl) wS e4 hS2 (Nat.le_refl _) (by rw [hs0]; exact (Fk.app (Fk.app (Fk.nil h0.size []) Nq1 (Nat.le_refl _) all0) Nq4 KK5.1 all0).fr) (by rw [hs0]; exact O0) I2 (by first | decide | (intro q; simp at q) | simp_all) (hheld _ (List.mem_of_getElem? (i := 1) rfl)) hcw (vs := [(.int (109 : Int32)), (.int (101 : Int32)), (.int (115 : Int32)), (.int (115 : Int32)), (.int (97 : Int32)), (.int (103 : Int32)), (.int (101 : Int32))]) (z := (7 : Int32)) (by decide +kernel) (by decide) rfl (hb hby d9_13) rfl 28 (by decide) (by decide) (by decide) (by decide) ?_
  intro T6 h6 a6 b6 kb6 vm6 X6 e6 E6 hS6 hZ6 ho6 w39_6 A6 C6 V6 B6 I6 Lv6
  have O7 : Old Z Z.heap.size h6 := O3.ext E6
  have lv8 : LitV Z vm6 "com/example/lukko/lukko/RuleProblem" 7 a2 := LitV.warm (s := s) Lv2 w39_6
  refine Wk.callS X6 hx hZ6 ho6 (w 56 _ rfl) (w 57 _ rfl) (w 58 _ rfl) (w 59 _ rfl) (by decide) (as' := [(.ref x2), (.ref a6)]) (backOf (W := 0) (rm_rnn l Z a0 hw [] x2 a6 h6 O7) hZ6 (w 59 _ rfl) (w 58 _ rfl) (by decide) (by decide)) e6 (by rw [hml]; rfl) (rest := []) (lenOf pd40 rfl) rfl (Nat.le_of_eq rfl) (hb hby d9_15) rfl (by decide) (by decide) ?_
  intro T9 h9 v9 L9 X9 e9 hQ9
  obtain ⟨rfl, Nq9, K9⟩ := hQ9
  have KK10 : Keep h0 h6 [] := (KK5.ext E6)
  have N9 := Fk.app N4 Nq9 KK10.1 all0
  rw [K9] at e9
  show Wp p e below _ _ T9 (mkF m 18 #[.val (.ref rp), .val (.ref x1), .val (.int ln_), .val (.int cn_), .val (.ref x2)] [(.ref x2)])
  refine Wk.pop X9 hx (hb hby d9_18) rfl rfl ?_
  refine Wk.aloadN X9 hx (hb hby d9_19) rfl rfl rfl ?_
  refine Wk.aloadN X9 hx (hb hby d9_20) rfl rfl rfl ?_
  have f11 : Exa Z h6 rp "com/example/lukko/lukko/RuleProblem" := (pr0_.keep KK10)
  have f12 : Fld Z h6 rp "com/example/lukko/lukko/RuleProblem" "file" "Ljava/lang/String;" .null := (pr1_.keep KK10 nin0)
  have f14 : Fld Z h6 rp "com/example/lukko/lukko/RuleProblem" "line" "I" (.int (0 : Int32)) := (pr2_.keep KK10 nin0)
  have f15 : Fld Z h6 rp "com/example/lukko/lukko/RuleProblem" "column" "I" (.int (0 : Int32)) := (pr3_.keep KK10 nin0)
  have f16 : Fld Z h6 rp "com/example/lukko/lukko/RuleProblem" "message" "Ljava/lang/String;" .null := (pr4_.keep KK10 nin0)
  refine Wk.putfield X9 hx hZ6 ho6 (host := "") (Or.inl (w 61 _ rfl)) Via.refl e9 f12 f11 (Or.inr ⟨(w 62 _ rfl), rfl, hnm⟩) (w 44 _ rfl) (ty := (.object "java/lang/String")) (by decide) rfl rfl (hb hby d9_21) rfl ?_
  intro T13 h13 L13 M13 X13 e13 W13 Fw13
  have N13 := M13 _ _ N9 (Or.inl (List.mem_of_getElem? (i := 0) rfl))
  have O17 : Old Z Z.heap.size h13 := O7.wr W13 hrp
  have f18 : Fld Z h13 rp "com/example/lukko/lukko/RuleProblem" "line" "I" (.int (0 : Int32)) := f14.other W13 (Or.inr (slot_ne (Or.inr (w 64 _ rfl)) (Or.inr (w 62 _ rfl)) (by decide) (t := .int) (t' := (.object "java/lang/String")) (by decide) (by decide)))
  have f19 : Fld Z h13 rp "com/example/lukko/lukko/RuleProblem" "column" "I" (.int (0 : Int32)) := f15.other W13 (Or.inr (slot_ne (Or.inr (w 66 _ rfl)) (Or.inr (w 62 _ rfl)) (by decide) (t := .int) (t' := (.object "java/lang/String")) (by decide) (by decide)))
  have f20 : Fld Z h13 rp "com/example/lukko/lukko/RuleProblem" "message" "Ljava/lang/String;" .null := f16.other W13 (Or.inr (slot_ne (Or.inr (w 68 _ rfl)) (Or.inr (w 62 _ rfl)) (by decide) (t := (.object "java/lang/String")) (t' := (.object "java/lang/String")) (by decide) (by decide)))
  have E13' : Exa Z h13 rp "com/example/lukko/lukko/RuleProblem" := f11.wr W13
  refine Wk.aloadN X13 hx (hb hby d9_24) rfl rfl rfl ?_
  refine Wk.iloadN X13 hx (hb hby d9_25) rfl rfl ?_
  refine Wk.putfield X13 hx hZ6 ho6 (host := "") (Or.inl (w 63 _ rfl)) Via.refl e13 f18 E13' (Or.inr ⟨(w 64 _ rfl), rfl, hnm⟩) (w 44 _ rfl) (ty := .int) (by decide) rfl rfl (hb hby d9_26) rfl ?_
  intro T21 h21 L21 M21 X21 e21 W21 Fw21
  have N21 := M21 _ _ N13 (Or.inl (List.mem_of_getElem? (i := 0) rfl))
  have O22 : Old Z Z.heap.size h21 := O17.wr W21 hrp
  have f23 : Fld Z h21 rp "com/example/lukko/lukko/RuleProblem" "file" "Ljava/lang/String;" (.ref x1) := Fw13.other W21 (Or.inr (slot_ne (Or.inr (w 62 _ rfl)) (Or.inr (w 64 _ rfl)) (by decide) (t := (.object "java/lang/String")) (t' := .int) (by decide) (by decide)))
  have f24 : Fld Z h21 rp "com/example/lukko/lukko/RuleProblem" "column" "I" (.int (0 : Int32)) := f19.other W21 (Or.inr (slot_ne (Or.inr (w 66 _ rfl)) (Or.inr (w 64 _ rfl)) (by decide) (t := .int) (t' := .int) (by decide) (by decide)))
  have f25 : Fld Z h21 rp "com/example/lukko/lukko/RuleProblem" "message" "Ljava/lang/String;" .null := f20.other W21 (Or.inr (slot_ne (Or.inr (w 68 _ rfl)) (Or.inr (w 64 _ rfl)) (by decide) (t := (.object "java/lang/String")) (t' := .int) (by decide) (by decide)))
  have E21' : Exa Z h21 rp "com/example/lukko/lukko/RuleProblem" := E13'.wr W21
  refine Wk.aloadN X21 hx (hb hby d9_29) rfl rfl rfl ?_
  refine Wk.iloadN X21 hx (hb hby d9_30) rfl rfl ?_
  refine Wk.putfield X21 hx hZ6 ho6 (host := "") (Or.inl (w 65 _ rfl)) Via.refl e21 f24 E21' (Or.inr ⟨(w 66 _ rfl), rfl, hnm⟩) (w 44 _ rfl) (ty := .int) (by decide) rfl rfl (hb hby d9_31) rfl ?_
  intro T26 h26 L26 M26 X26 e26 W26 Fw26
  have N26 := M26 _ _ N21 (Or.inl (List.mem_of_getElem? (i := 0) rfl))
  have O27 : Old Z Z.heap.size h26 := O22.wr W26 hrp
  have f28 : Fld Z h26 rp "com/example/lukko/lukko/RuleProblem" "line" "I" (.int ln_) := Fw21.other W26 (Or.inr (slot_ne (Or.inr (w 64 _ rfl)) (Or.inr (w 66 _ rfl)) (by decide) (t := .int) (t' := .int) (by decide) (by decide)))
  have f29 : Fld Z h26 rp "com/example/lukko/lukko/RuleProblem" "file" "Ljava/lang/String;" (.ref x1) := f23.other W26 (Or.inr (slot_ne (Or.inr (w 62 _ rfl)) (Or.inr (w 66 _ rfl)) (by decide) (t := (.object "java/lang/String")) (t' := .int) (by decide) (by decide)))
  have f30 : Fld Z h26 rp "com/example/lukko/lukko/RuleProblem" "message" "Ljava/lang/String;" .null := f25.other W26 (Or.inr (slot_ne (Or.inr (w 68 _ rfl)) (Or.inr (w 66 _ rfl)) (by decide) (t := (.object "java/lang/String")) (t' := .int) (by decide) (by decide)))
  have E26' : Exa Z h26 rp "com/example/lukko/lukko/RuleProblem" := E21'.wr W26
  refine Wk.aloadN X26 hx (hb hby d9_34) rfl rfl rfl ?_
  refine Wk.aload X26 hx (hb hby d9_35) rfl rfl rfl ?_
  refine Wk.putfield X26 hx hZ6 ho6 (host := "") (Or.inl (w 67 _ rfl)) Via.refl e26 f30 E26' (Or.inr ⟨(w 68 _ rfl), rfl, hnm⟩) (w 44 _ rfl) (ty := (.object "java/lang/String")) (by decide) rfl rfl (hb hby d9_37) rfl ?_
  intro T31 h31 L31 M31 X31 e31 W31 Fw31
  have N31 := M31 _ _ N26 (Or.inl (List.mem_of_getElem? (i := 0) rfl))
  have O32 : Old Z Z.heap.size h31 := O27.wr W31 hrp
  have f33 : Fld Z h31 rp "com/example/lukko/lukko/RuleProblem" "column" "I" (.int cn_) := Fw26.other W31 (Or.inr (slot_ne (Or.inr (w 66 _ rfl)) (Or.inr (w 68 _ rfl)) (by decide) (t := .int) (t' := (.object "java/lang/String")) (by decide) (by decide)))
  have f34 : Fld Z h31 rp "com/example/lukko/lukko/RuleProblem" "line" "I" (.int ln_) := f28.other W31 (Or.inr (slot_ne (Or.inr (w 64 _ rfl)) (Or.inr (w 68 _ rfl)) (by decide) (t := .int) (t' := (.object "java/lang/String")) (by decide) (by decide)))
  have f35 : Fld Z h31 rp "com/example/lukko/lukko/RuleProblem" "file" "Ljava/lang/String;" (.ref x1) := f29.other W31 (Or.inr (slot_ne (Or.inr (w 62 _ rfl)) (Or.inr (w 68 _ rfl)) (by decide) (t := (.object "java/lang/String")) (t' := (.object "java/lang/String")) (by decide) (by decide)))
  have E31' : Exa Z h31 rp "com/example/lukko/lukko/RuleProblem" := E26'.wr W31
  have KK36 : Keep h0 h31 [rp] := (((((((Keep.refl h0 [rp]).ext E2).ext E6).wr W13 (Or.inl (List.mem_of_getElem? (i := 0) rfl))).wr W21 (Or.inl (List.mem_of_getElem? (i := 0) rfl))).wr W26 (Or.inl (List.mem_of_getElem? (i := 0) rfl))).wr W31 (Or.inl (List.mem_of_getElem? (i := 0) rfl)))
  have KK37 : Keep h6 h31 [rp] := (((((Keep.refl h6 [rp]).wr W13 (Or.inl (List.mem_of_getElem? (i := 0) rfl))).wr W21 (Or.inl (List.mem_of_getElem? (i := 0) rfl))).wr W26 (Or.inl (List.mem_of_getElem? (i := 0) rfl))).wr W31 (Or.inl (List.mem_of_getElem? (i := 0) rfl)))
  exact Wk.ret0W X31 hx hS6 (Nat.le_trans (Nat.le_refl _) KK37.1) hlk hr (hb hby d9_40) (by decide) (by decide) (Qc := Q_rm_rpi Z rp x1 ln_ cn_ x2 h0) e31 (fun vm' hw' => ⟨rfl, N31, KK36, E31', f35, f34, f33, Fw31, (ibWarm I6 hw')⟩)
theorem d12_0 : decode prog_21_method_2_code 0 = .ok (.new 31, 3) := by decide +kernel
theorem d12_3 : decode prog_21_method_2_code 3 = .ok (.dup, 1) := by decide +kernel
theorem d12_4 : decode prog_21_method_2_code 4 = .ok (.invokespecial 33, 3) := by decide +kernel
theorem d12_7 : decode prog_21_method_2_code 7 = .ok (.aload_n 0, 1) := by decide +kernel
theorem d12_8 : decode prog_21_method_2_code 8 = .ok (.getfield 17, 3) := by decide +kernel
theorem d12_11 : decode prog_21_method_2_code 11 = .ok (.invokevirtual 34, 3) := by decide +kernel
theorem pd41 : parseMethodDescriptor "(Ljava/lang/String;)Ljava/lang/StringBuilder;" = some ⟨[(.object "java/lang/String")], some (.object "java/lang/StringBuilder")⟩ := by decide +kernel
theorem d12_14 : decode prog_21_method_2_code 14 = .ok (.ldc 38, 2) := by decide +kernel
theorem d12_16 : decode prog_21_method_2_code 16 = .ok (.invokevirtual 34, 3) := by decide +kernel
theorem d12_19 : decode prog_21_method_2_code 19 = .ok (.aload_n 0, 1) := by decide +kernel
theorem d12_20 : decode prog_21_method_2_code 20 = .ok (.getfield 22, 3) := by decide +kernel
theorem d12_23 : decode prog_21_method_2_code 23 = .ok (.invokevirtual 40, 3) := by decide +kernel
theorem pd42 : parseMethodDescriptor "(I)Ljava/lang/StringBuilder;" = some ⟨[.int], some (.object "java/lang/StringBuilder")⟩ := by decide +kernel
theorem d12_26 : decode prog_21_method_2_code 26 = .ok (.ldc 38, 2) := by decide +kernel
theorem d12_28 : decode prog_21_method_2_code 28 = .ok (.invokevirtual 34, 3) := by decide +kernel
theorem d12_31 : decode prog_21_method_2_code 31 = .ok (.aload_n 0, 1) := by decide +kernel
theorem d12_32 : decode prog_21_method_2_code 32 = .ok (.getfield 26, 3) := by decide +kernel
theorem d12_35 : decode prog_21_method_2_code 35 = .ok (.invokevirtual 40, 3) := by decide +kernel
theorem d12_38 : decode prog_21_method_2_code 38 = .ok (.ldc 43, 2) := by decide +kernel
theorem d12_40 : decode prog_21_method_2_code 40 = .ok (.invokevirtual 34, 3) := by decide +kernel
theorem d12_43 : decode prog_21_method_2_code 43 = .ok (.aload_n 0, 1) := by decide +kernel
theorem d12_44 : decode prog_21_method_2_code 44 = .ok (.getfield 29, 3) := by decide +kernel
theorem d12_47 : decode prog_21_method_2_code 47 = .ok (.invokevirtual 34, 3) := by decide +kernel
theorem d12_50 : decode prog_21_method_2_code 50 = .ok (.invokevirtual 45, 3) := by decide +kernel
theorem pd43 : parseMethodDescriptor "()Ljava/lang/String;" = some ⟨[], some (.object "java/lang/String")⟩ := by decide +kernel
theorem d12_53 : decode prog_21_method_2_code 53 = .ok (.areturn, 1) := by decide +kernel
def Q_rm_txt (Z : State) (rp : Addr) (ln_ : Int32) (cn_ : Int32) (x1 : Addr) (t1 : Addr) (kb1 : ClassId) (nn1 : Int32) (us1 : List Value) (x2 : Addr) (t2 : Addr) (kb2 : ClassId) (nn2 : Int32) (us2 : List Value) (fb : List Int32) (mb : List Int32) (da : Addr) (kd : ClassId) (dt : Addr) (kt : ClassId) (G1 : Int32) (h0 : Heap) (v : Option Value) (vm : Vm) (h : Heap) (L : List Loc) : Prop := ∃ x : Addr, ∃ t : Addr, ∃ kb : ClassId, ∃ nn : Int32, ∃ us : List Value, v = some (.ref x) ∧ Fk h0.size [] L ∧ Keep h0 h [] ∧ h0.size ≤ x ∧ h0.size ≤ t ∧ Exa Z h x "java/lang/String" ∧ Fld Z h x "java/lang/String" "coder" "B" (.int (0 : Int32)) ∧ Fld Z h x "java/lang/String" "value" "[B" (.ref t) ∧ Arv Z h t kb .byte nn us (.int (0 : Int32)) ∧ Str us nn (txt fb ln_ cn_ mb) ∧ IB Z vm (": " :: (":" :: ("message" :: ("file" :: ("" :: [])))))
set_option maxRecDepth 65536 in
set_option maxHeartbeats 40000000 in
theorem rm_txt (l : Launch) (Z : State) (a0 : Array Value) (hw : ∀ d ∈ tables_1, d.before a0 Z = true) (ws : List Jvm.Cond) (rp : Addr) (ln_ : Int32) (cn_ : Int32) (x1 : Addr) (t1 : Addr) (kb1 : ClassId) (nn1 : Int32) (us1 : List Value) (x2 : Addr) (t2 : Addr) (kb2 : ClassId) (nn2 : Int32) (us2 : List Value) (fb : List Int32) (mb : List Int32) (da : Addr) (kd : ClassId) (dt : Addr) (kt : ClassId) (G1 : Int32) (h0 : Heap) (O0 : Old Z Z.heap.size h0) (hcw : Jvm.Lit.compactW.before a0 Z = true) (hheld : ∀ d ∈ consts_1, Jvm.Lit.constHeld Z d.1 d.2) (SG1 : Sta Z Z.heap "java/lang/String" "COMPACT_STRINGS" "Z" (.int G1)) (nG1 : ¬ G1 = 0) (pr0_ : Exa Z h0 rp "com/example/lukko/lukko/RuleProblem") (pr1_ : Fld Z h0 rp "com/example/lukko/lukko/RuleProblem" "file" "Ljava/lang/String;" (.ref x1)) (pr2_ : Fld Z h0 rp "com/example/lukko/lukko/RuleProblem" "line" "I" (.int ln_)) (pr3_ : Fld Z h0 rp "com/example/lukko/lukko/RuleProblem" "column" "I" (.int cn_)) (pr4_ : Fld Z h0 rp "com/example/lukko/lukko/RuleProblem" "message" "Ljava/lang/String;" (.ref x2)) (pa0_ : Exa Z h0 x1 "java/lang/String") (pa1_ : Fld Z h0 x1 "java/lang/String" "coder" "B" (.int (0 : Int32))) (pa2_ : Fld Z h0 x1 "java/lang/String" "value" "[B" (.ref t1)) (pa3_ : Arv Z h0 t1 kb1 .byte nn1 us1 (.int (0 : Int32))) (pz0_ : Exa Z h0 x2 "java/lang/String") (pz1_ : Fld Z h0 x2 "java/lang/String" "coder" "B" (.int (0 : Int32))) (pz2_ : Fld Z h0 x2 "java/lang/String" "value" "[B" (.ref t2)) (pz3_ : Arv Z h0 t2 kb2 .byte nn2 us2 (.int (0 : Int32))) (sO : Sta Z Z.heap "java/lang/Integer" "DigitOnes" "[B" (.ref da)) (pO : Arv Z h0 da kd .byte (100 : Int32) ones (.int (0 : Int32))) (sN : Sta Z Z.heap "java/lang/Integer" "DigitTens" "[B" (.ref dt)) (pN : Arv Z h0 dt kt .byte (100 : Int32) tens (.int (0 : Int32))) (hS1 : Str us1 nn1 fb) (hS2 : Str us2 nn2 mb) (hf4 : fb.length ≤ 4) (hm4 : mb.length ≤ 4) :
    CtrW l Z (⟨"com/example/lukko/lukko/RuleProblem", "text", "()Ljava/lang/String;"⟩ : MethodName) prog_21_method_2_code 1 (some (.object "java/lang/String")) ws ({ frames := 6, cells := 9, slots := 112, locals := 91 } : Room) #[(.ref rp)] h0 (fun vm => IB Z vm ("message" :: ("file" :: ("" :: [])))) (Q_rm_txt Z rp ln_ cn_ x1 t1 kb1 nn1 us1 x2 t2 kb2 nn2 us2 fb mb da kd dt kt G1 h0) := by
  refine CtrW.intro (Ls := fun _ => #[.val (.ref rp)]) (plainFor_of_name pn38) (fun m => by first | rfl | (simp [entryFrame, mkF, argsToLocals, Value.category]; done)) ?_
  intro p e s m below meth c s₁ vm hx hby hml hr hlk hZ hown hnm hs0 X0 e0 hS hPv
  have I0 := hPv
  have w : ∀ (k : Nat) (d : Jvm.Cond), tables_1[k]? = some d → d.before a0 Z = true := fun k d q => hw d (List.mem_of_getElem? q)
  have N0 := Fk.nil h0.size []
  refine Wk.new X0 hx hZ hown (w 74 _ rfl) (w 75 _ rfl) (w 76 _ rfl) e0 (hb hby d12_0) rfl (by decide) (by decide) ?_
  intro T1 h1 a1 g1 X1 e1 E1 A1 D1
  have O2 : Old Z Z.heap.size h1 := O0.ext E1
  have f3 : Fld Z h1 a1 "java/lang/AbstractStringBuilder" "value" "[B" .null := D1 (Or.inl (w 89 _ rfl)) (ty := (.array .byte)) (by decide)
  have f4 : Fld Z h1 a1 "java/lang/AbstractStringBuilder" "coder" "B" (.int (0 : Int32)) := D1 (Or.inl (w 91 _ rfl)) (ty := .byte) (by decide)
  have f5 : Fld Z h1 a1 "java/lang/AbstractStringBuilder" "count" "I" (.int (0 : Int32)) := D1 (Or.inl (w 113 _ rfl)) (ty := .int) (by decide)
  refine Wk.dup X1 hx (hb hby d12_3) rfl rfl ?_
  refine Wk.callI X1 hx hZ rfl hown (w 77 _ rfl) (w 78 _ rfl) (w 79 _ rfl) (by decide) (as' := []) (backOf (W := 1) (rm_sbi l Z a0 hw [] a1 G1 h1 O2 SG1 nG1 A1 f3 f4 f5 (Nat.le_trans (Nat.le_trans (Nat.le_trans (Nat.le_of_eq O0.1.symm) O0.2.1) (Keep.refl h0 []).1) (Nat.le_of_eq g1))) hZ (w 79 _ rfl) (w 76 _ rfl) (by decide) (by decide)) e1 (by rw [hml]; rfl) (rest := [(.ref a1)]) (lenOf pd39 rfl) rfl (Nat.le_of_eq rfl) (hb hby d12_4) rfl (by decide) (by decide) ?_
  intro T6 h6 v6 L6 X6 e6 hQ6
  obtain ⟨va6, kv6, rfl, Nq6, K6, q6_0, q6_1, q6_2, q6_3, q6_4, q6_5, q6_6⟩ := hQ6
  have KK7 : Keep h0 h1 [] := ((Keep.refl h0 []).ext E1)
  have N6 := Fk.app N0 Nq6 KK7.1 (allS (Or.inr (Nat.le_of_eq g1)) all0)
  have O8 : Old Z Z.heap.size h6 := O2.keep K6 (allS (Nat.le_trans (Nat.le_trans (Nat.le_trans (Nat.le_of_eq O0.1.symm) O0.2.1) (Keep.refl h0 []).1) (Nat.le_of_eq g1)) all0)
  show Wp p e below _ _ T6 (mkF m 7 #[.val (.ref rp)] [(.ref a1)])
  refine Wk.aloadN X6 hx (hb hby d12_7) rfl rfl rfl ?_
  have KK9 : Keep h0 h6 [] := (KK7.trans K6 (allS (Or.inr (Nat.le_of_eq g1)) all0))
  have f10 : Fld Z h6 rp "com/example/lukko/lukko/RuleProblem" "file" "Ljava/lang/String;" (.ref x1) := (pr1_.keep KK9 nin0)
  refine Wk.getfield X6 hx hZ hown (host := "") (Or.inl (w 61 _ rfl)) Via.refl e6 f10 (hb hby d12_8) rfl ?_
  intro T11 X11 e11
  have f12 : Exa Z h6 x1 "java/lang/String" := (pa0_.keep KK9)
  have f13 : Fld Z h6 x1 "java/lang/String" "coder" "B" (.int (0 : Int32)) := (pa1_.keep KK9 nin0)
  have f14 : Fld Z h6 x1 "java/lang/String" "value" "[B" (.ref t1) := (pa2_.keep KK9 nin0)
  have f15 := (pa3_.keep KK9 nin0)
  refine Wk.callV X11 hx hZ (y := (⟨"java/lang/StringBuilder", "append", "(Ljava/lang/String;)Ljava/lang/StringBuilder;"⟩ : MethodName)) (z := (⟨"java/lang/StringBuilder", "append", "(Ljava/lang/String;)Ljava/lang/StringBuilder;"⟩ : MethodName)) hown (w 92 _ rfl) (w 93 _ rfl) (notFace_of_selects (args := #[]) (mvT hZ (w 95 _ rfl))) (w 95 _ rfl) (w 94 _ rfl) (by decide) (as' := [(.ref x1)]) (backOf (W := 0) (rm_sbapA l Z a0 hw [] a1 va6 kv6 (16 : Int32) (0 : Int32) _ x1 t1 kb1 nn1 us1 ([] : List Int32) fb G1 h6 O8 SG1 nG1 q6_1 q6_2 q6_3 q6_4 q6_5 q6_6 f12 f13 f14 f15 buf0 hS1 (own_16 (own_t1 hf4)) (Nat.le_trans (Nat.le_trans (Nat.le_trans (Nat.le_of_eq O0.1.symm) O0.2.1) KK7.1) q6_0) (Nat.le_trans (Nat.le_trans (Nat.le_trans (Nat.le_of_eq O0.1.symm) O0.2.1) (Keep.refl h0 []).1) (Nat.le_of_eq g1))) hZ (w 96 _ rfl) (w 76 _ rfl) (by decide) (by decide)) e11 q6_1 (by rw [hml]; rfl) (rest := []) (lenOf pd41 rfl) rfl (Nat.le_of_eq rfl) (hb hby d12_11) rfl (by decide) (by decide) ?_
  intro T16 h16 v16 L16 X16 e16 hQ16
  obtain ⟨cq16, vw16, rfl, Nq16, K16, q16_0, q16_1, q16_2, q16_3, q16_4, q16_5, q16_6⟩ := hQ16
  have N16 := Fk.app N6 Nq16 KK9.1 (allS (Or.inr (Nat.le_of_eq g1)) (allS (Or.inr (Nat.le_trans KK7.1 q6_0)) all0))
  have O17 : Old Z Z.heap.size h16 := O8.keep K16 (allS (Nat.le_trans (Nat.le_trans (Nat.le_trans (Nat.le_of_eq O0.1.symm) O0.2.1) (Keep.refl h0 []).1) (Nat.le_of_eq g1)) (allS (Nat.le_trans (Nat.le_trans (Nat.le_trans (Nat.le_of_eq O0.1.symm) O0.2.1) KK7.1) q6_0) all0))
  show Wp p e below _ _ T16 (mkF m 14 #[.val (.ref rp)] [(.ref a1)])
  have wS : ∀ a ∈ Bundle.stringAtoms, a.before a0 Z = true := fun d hd => hw d ((by decide +kernel : ∀ d ∈ Bundle.stringAtoms, d ∈ tables_1) d hd)
  have KK19 : Keep h0 h16 [] := (KK9.trans K16 (allS (Or.inr (Nat.le_of_eq g1)) (allS (Or.inr (Nat.le_trans KK7.1 q6_0)) all0)))
  refine Wk.ldcNew X16 hx hZ hown (w 139 _ rfl) wS e16 hS (Nat.le_trans (Nat.le_refl _) KK19.1) (by rw [hs0]; exact N16.fr) (by rw [hs0]; exact O0) I0 (by first | decide | (intro q; simp at q) | simp_all) (hheld _ (List.mem_of_getElem? (i := 2) rfl)) hcw (vs := [(.int (58 : Int32))]) (z := (1 : Int32)) (by decide +kernel) (by decide) rfl (hb hby d12_14) rfl 4 (by decide) (by decide) (by decide) (by decide) ?_
  intro T18 h18 a18 b18 kb18 vm18 X18 e18 E18 hS18 hZ18 ho18 w39_18 A18 C18 V18 B18 I18 Lv18
  have O20 : Old Z Z.heap.size h18 := O17.ext E18
  have KK22 : Keep h16 h18 [] := ((Keep.refl h16 []).ext E18)
  have f23 := (q16_5.keep KK22 nin0)
  have nb21 : b18 ≠ va6 := own_neLen B18 f23 (by decide)
  have f24 : Exa Z h18 a1 "java/lang/StringBuilder" := (q16_0.keep KK22)
  have f25 : Fld Z h18 a1 "java/lang/AbstractStringBuilder" "value" "[B" (.ref va6) := (q16_1.keep KK22 nin0)
  have f26 : Fld Z h18 a1 "java/lang/AbstractStringBuilder" "coder" "B" (.int (0 : Int32)) := (q16_2.keep KK22 nin0)
  have f27 : Fld Z h18 a1 "java/lang/AbstractStringBuilder" "count" "I" (.int cq16) := (q16_3.keep KK22 nin0)
  have f28 : Exa Z h18 va6 "[B" := (q16_4.keep KK22)
  refine Wk.callV X18 hx hZ18 (y := (⟨"java/lang/StringBuilder", "append", "(Ljava/lang/String;)Ljava/lang/StringBuilder;"⟩ : MethodName)) (z := (⟨"java/lang/StringBuilder", "append", "(Ljava/lang/String;)Ljava/lang/StringBuilder;"⟩ : MethodName)) ho18 (w 92 _ rfl) (w 93 _ rfl) (notFace_of_selects (args := #[]) (mvT hZ18 (w 95 _ rfl))) (w 95 _ rfl) (w 94 _ rfl) (by decide) (as' := [(.ref a18)]) (backOf (W := 0) (rm_sbapA l Z a0 hw [] a1 va6 kv6 (16 : Int32) cq16 vw16 a18 b18 kb18 (1 : Int32) _ (([] : List Int32) ++ fb) ([58] : List Int32) G1 h18 O20 SG1 nG1 f24 f25 f26 f27 f28 f23 A18 C18 V18 B18 q16_6 (show Str [(.int (58 : Int32))] (1 : Int32) ([58] : List Int32) from Str.map (bs := [58]) rfl (by decide)) (own_16 (own_t2 hf4)) (Nat.le_trans (Nat.le_trans (Nat.le_trans (Nat.le_of_eq O0.1.symm) O0.2.1) KK7.1) q6_0) (Nat.le_trans (Nat.le_trans (Nat.le_trans (Nat.le_of_eq O0.1.symm) O0.2.1) (Keep.refl h0 []).1) (Nat.le_of_eq g1))) hZ18 (w 96 _ rfl) (w 76 _ rfl) (by decide) (by decide)) e18 f24 (by rw [hml]; rfl) (rest := []) (lenOf pd41 rfl) rfl (Nat.le_of_eq rfl) (hb hby d12_16) rfl (by decide) (by decide) ?_
  intro T29 h29 v29 L29 X29 e29 hQ29
  obtain ⟨cq29, vw29, rfl, Nq29, K29, q29_0, q29_1, q29_2, q29_3, q29_4, q29_5, q29_6⟩ := hQ29
  have KK30 : Keep h0 h18 [] := (KK19.ext E18)
  have N29 := Fk.app N16 Nq29 KK30.1 (allS (Or.inr (Nat.le_of_eq g1)) (allS (Or.inr (Nat.le_trans KK7.1 q6_0)) all0))
  have O31 : Old Z Z.heap.size h29 := O20.keep K29 (allS (Nat.le_trans (Nat.le_trans (Nat.le_trans (Nat.le_of_eq O0.1.symm) O0.2.1) (Keep.refl h0 []).1) (Nat.le_of_eq g1)) (allS (Nat.le_trans (Nat.le_trans (Nat.le_trans (Nat.le_of_eq O0.1.symm) O0.2.1) KK7.1) q6_0) all0))
  show Wp p e below _ _ T29 (mkF m 19 #[.val (.ref rp)] [(.ref a1)])
  refine Wk.aloadN X29 hx (hb hby d12_19) rfl rfl rfl ?_
  have KK32 : Keep h0 h29 [] := (KK30.trans K29 (allS (Or.inr (Nat.le_of_eq g1)) (allS (Or.inr (Nat.le_trans KK7.1 q6_0)) all0)))
  have f33 : Fld Z h29 rp "com/example/lukko/lukko/RuleProblem" "line" "I" (.int ln_) := (pr2_.keep KK32 nin0)
  refine Wk.getfield X29 hx hZ18 ho18 (host := "") (Or.inl (w 63 _ rfl)) Via.refl e29 f33 (hb hby d12_20) rfl ?_
  intro T34 X34 e34
  have f35 := (pO.keep KK32 nin0)
  have f36 := (pN.keep KK32 nin0)
  refine Wk.callV X34 hx hZ18 (y := (⟨"java/lang/StringBuilder", "append", "(I)Ljava/lang/StringBuilder;"⟩ : MethodName)) (z := (⟨"java/lang/StringBuilder", "append", "(I)Ljava/lang/StringBuilder;"⟩ : MethodName)) ho18 (w 140 _ rfl) (w 141 _ rfl) (notFace_of_selects (args := #[]) (mvT hZ18 (w 143 _ rfl))) (w 143 _ rfl) (w 142 _ rfl) (by decide) (as' := [(.int ln_)]) (backOf (W := 0) (rm_sbiA l Z a0 hw [] a1 va6 kv6 (16 : Int32) cq29 vw29 ln_ ((([] : List Int32) ++ fb) ++ ([58] : List Int32)) da kd dt kt G1 h29 O31 SG1 nG1 q29_0 q29_1 q29_2 q29_3 q29_4 q29_5 sO f35 sN f36 (Nat.ne_of_lt (Nat.lt_of_lt_of_le pO.lt (Nat.le_trans KK7.1 q6_0))) (Nat.ne_of_lt (Nat.lt_of_lt_of_le pN.lt (Nat.le_trans KK7.1 q6_0))) q29_6 (own_16 (own_t3 ln_ hf4)) (Nat.le_trans (Nat.le_trans (Nat.le_trans (Nat.le_of_eq O0.1.symm) O0.2.1) KK7.1) q6_0) (Nat.le_trans (Nat.le_trans (Nat.le_trans (Nat.le_of_eq O0.1.symm) O0.2.1) (Keep.refl h0 []).1) (Nat.le_of_eq g1))) hZ18 (w 144 _ rfl) (w 76 _ rfl) (by decide) (by decide)) e34 q29_0 (by rw [hml]; rfl) (rest := []) (lenOf pd42 rfl) rfl (Nat.le_of_eq rfl) (hb hby d12_23) rfl (by decide) (by decide) ?_
  intro T37 h37 v37 L37 X37 e37 hQ37
  obtain ⟨cq37, vw37, rfl, Nq37, K37, q37_0, q37_1, q37_2, q37_3, q37_4, q37_5, q37_6⟩ := hQ37
  have N37 := Fk.app N29 Nq37 KK32.1 (allS (Or.inr (Nat.le_of_eq g1)) (allS (Or.inr (Nat.le_trans KK7.1 q6_0)) all0))
  have O38 : Old Z Z.heap.size h37 := O31.keep K37 (allS (Nat.le_trans (Nat.le_trans (Nat.le_trans (Nat.le_of_eq O0.1.symm) O0.2.1) (Keep.refl h0 []).1) (Nat.le_of_eq g1)) (allS (Nat.le_trans (Nat.le_trans (Nat.le_trans (Nat.le_of_eq O0.1.symm) O0.2.1) KK7.1) q6_0) all0))
  show Wp p e below _ _ T37 (mkF m 26 #[.val (.ref rp)] [(.ref a1)])
  refine Wk.ldcOld X37 hx hZ18 ho18 (w 139 _ rfl) Lv18 (hb hby d12_26) rfl ?_
  by_cases hg39 : 16 < (((([] : List Int32) ++ fb) ++ ([58] : List Int32)) ++ db ln_).length + ([58] : List Int32).length
  · skip
    have KK40 : Keep h18 h37 [a1, va6] := (((Keep.refl h18 [a1, va6]).trans K29 (allS (Or.inl (List.mem_of_getElem? (i := 0) rfl)) (allS (Or.inl (List.mem_of_getElem? (i := 1) rfl)) all0))).trans K37 (allS (Or.inl (List.mem_of_getElem? (i := 0) rfl)) (allS (Or.inl (List.mem_of_getElem? (i := 1) rfl)) all0)))
    have f41 : Exa Z h37 a18 "java/lang/String" := (A18.keep KK40)
    have f42 : Fld Z h37 a18 "java/lang/String" "coder" "B" (.int (0 : Int32)) := (C18.keep KK40 (ninS (Exa.ne f41 q37_0 (by decide)) (ninS (Exa.ne f41 q37_4 (by decide)) nin0)))
    have f43 : Fld Z h37 a18 "java/lang/String" "value" "[B" (.ref b18) := (V18.keep KK40 (ninS (Exa.ne f41 q37_0 (by decide)) (ninS (Exa.ne f41 q37_4 (by decide)) nin0)))
    have f44 := (B18.keep KK40 (ninS (Ne.symm (Exa.neArv f24 B18 (w 75 _ rfl))) (ninS nb21 nin0)))
    refine Wk.callV X37 hx hZ18 (y := (⟨"java/lang/StringBuilder", "append", "(Ljava/lang/String;)Ljava/lang/StringBuilder;"⟩ : MethodName)) (z := (⟨"java/lang/StringBuilder", "append", "(Ljava/lang/String;)Ljava/lang/StringBuilder;"⟩ : MethodName)) ho18 (w 92 _ rfl) (w 93 _ rfl) (notFace_of_selects (args := #[]) (mvT hZ18 (w 95 _ rfl))) (w 95 _ rfl) (w 94 _ rfl) (by decide) (as' := [(.ref a18)]) (backOf (W := 0) (rm_sbapB l Z a0 hw [] a1 va6 kv6 cq37 vw37 a18 b18 kb18 (1 : Int32) _ (((([] : List Int32) ++ fb) ++ ([58] : List Int32)) ++ db ln_) ([58] : List Int32) G1 h37 O38 SG1 nG1 q37_0 q37_1 q37_2 q37_3 q37_4 q37_5 f41 f42 f43 f44 q37_6 (show Str [(.int (58 : Int32))] (1 : Int32) ([58] : List Int32) from Str.map (bs := [58]) rfl (by decide)) hg39 (own_t4 ln_ hf4) (Nat.le_trans (Nat.le_trans (Nat.le_trans (Nat.le_of_eq O0.1.symm) O0.2.1) (Keep.refl h0 []).1) (Nat.le_of_eq g1))) hZ18 (w 96 _ rfl) (w 76 _ rfl) (by decide) (by decide)) e37 q37_0 (by rw [hml]; rfl) (rest := []) (lenOf pd41 rfl) rfl (Nat.le_of_eq rfl) (hb hby d12_28) rfl (by decide) (by decide) ?_
    intro T45 h45 v45 L45 X45 e45 hQ45
    obtain ⟨vb45, kw45, cq45, vw45, rfl, Nq45, K45, q45_0, q45_1, q45_2, q45_3, q45_4, q45_5, q45_6, q45_7⟩ := hQ45
    have KK46 : Keep h0 h37 [] := (KK32.trans K37 (allS (Or.inr (Nat.le_of_eq g1)) (allS (Or.inr (Nat.le_trans KK7.1 q6_0)) all0)))
    have N45 := Fk.app N37 Nq45 KK46.1 (allS (Or.inr (Nat.le_of_eq g1)) all0)
    have O47 : Old Z Z.heap.size h45 := O38.keep K45 (allS (Nat.le_trans (Nat.le_trans (Nat.le_trans (Nat.le_of_eq O0.1.symm) O0.2.1) (Keep.refl h0 []).1) (Nat.le_of_eq g1)) all0)
    show Wp p e below _ _ T45 (mkF m 31 #[.val (.ref rp)] [(.ref a1)])
    refine Wk.aloadN X45 hx (hb hby d12_31) rfl rfl rfl ?_
    have KK48 : Keep h0 h45 [] := (KK46.trans K45 (allS (Or.inr (Nat.le_of_eq g1)) all0))
    have f49 : Fld Z h45 rp "com/example/lukko/lukko/RuleProblem" "column" "I" (.int cn_) := (pr3_.keep KK48 nin0)
    refine Wk.getfield X45 hx hZ18 ho18 (host := "") (Or.inl (w 65 _ rfl)) Via.refl e45 f49 (hb hby d12_32) rfl ?_
    intro T50 X50 e50
    have f51 := (pO.keep KK48 nin0)
    have f52 := (pN.keep KK48 nin0)
    have KK53 : Keep h29 h37 [a1, va6] := ((Keep.refl h29 [a1, va6]).trans K37 (allS (Or.inl (List.mem_of_getElem? (i := 0) rfl)) (allS (Or.inl (List.mem_of_getElem? (i := 1) rfl)) all0)))
    refine Wk.callV X50 hx hZ18 (y := (⟨"java/lang/StringBuilder", "append", "(I)Ljava/lang/StringBuilder;"⟩ : MethodName)) (z := (⟨"java/lang/StringBuilder", "append", "(I)Ljava/lang/StringBuilder;"⟩ : MethodName)) ho18 (w 140 _ rfl) (w 141 _ rfl) (notFace_of_selects (args := #[]) (mvT hZ18 (w 143 _ rfl))) (w 143 _ rfl) (w 142 _ rfl) (by decide) (as' := [(.int cn_)]) (backOf (W := 0) (rm_sbiA l Z a0 hw [] a1 vb45 kw45 (34 : Int32) cq45 vw45 cn_ ((((([] : List Int32) ++ fb) ++ ([58] : List Int32)) ++ db ln_) ++ ([58] : List Int32)) da kd dt kt G1 h45 O47 SG1 nG1 q45_1 q45_2 q45_3 q45_4 q45_5 q45_6 sO f51 sN f52 (Nat.ne_of_lt (Nat.lt_of_lt_of_le f35.lt (Nat.le_trans KK53.1 q45_0))) (Nat.ne_of_lt (Nat.lt_of_lt_of_le f36.lt (Nat.le_trans KK53.1 q45_0))) q45_7 (own_34 (own_t5 ln_ cn_ hf4)) (Nat.le_trans (Nat.le_trans (Nat.le_trans (Nat.le_of_eq O0.1.symm) O0.2.1) KK46.1) q45_0) (Nat.le_trans (Nat.le_trans (Nat.le_trans (Nat.le_of_eq O0.1.symm) O0.2.1) (Keep.refl h0 []).1) (Nat.le_of_eq g1))) hZ18 (w 144 _ rfl) (w 76 _ rfl) (by decide) (by decide)) e50 q45_1 (by rw [hml]; rfl) (rest := []) (lenOf pd42 rfl) rfl (Nat.le_of_eq rfl) (hb hby d12_35) rfl (by decide) (by decide) ?_
    intro T54 h54 v54 L54 X54 e54 hQ54
    obtain ⟨cq54, vw54, rfl, Nq54, K54, q54_0, q54_1, q54_2, q54_3, q54_4, q54_5, q54_6⟩ := hQ54
    have N54 := Fk.app N45 Nq54 KK48.1 (allS (Or.inr (Nat.le_of_eq g1)) (allS (Or.inr (Nat.le_trans KK46.1 q45_0)) all0))
    have O55 : Old Z Z.heap.size h54 := O47.keep K54 (allS (Nat.le_trans (Nat.le_trans (Nat.le_trans (Nat.le_of_eq O0.1.symm) O0.2.1) (Keep.refl h0 []).1) (Nat.le_of_eq g1)) (allS (Nat.le_trans (Nat.le_trans (Nat.le_trans (Nat.le_of_eq O0.1.symm) O0.2.1) KK46.1) q45_0) all0))
    show Wp p e below _ _ T54 (mkF m 38 #[.val (.ref rp)] [(.ref a1)])
    have KK57 : Keep h18 h54 [a1, va6] := ((KK40.trans K45 (allS (Or.inl (List.mem_of_getElem? (i := 0) rfl)) all0)).trans K54 (allS (Or.inl (List.mem_of_getElem? (i := 0) rfl)) (allS (Or.inr (Nat.le_trans KK40.1 q45_0)) all0)))
    refine Wk.ldcNew X54 hx hZ18 ho18 (w 162 _ rfl) wS e54 hS18 (Nat.le_trans (Nat.le_refl _) KK57.1) (by rw [hs0]; exact N54.fr) (by rw [hs0]; exact O0) I18 (by first | decide | (intro q; simp at q) | simp_all) (hheld _ (List.mem_of_getElem? (i := 3) rfl)) hcw (vs := [(.int (58 : Int32)), (.int (32 : Int32))]) (z := (2 : Int32)) (by decide +kernel) (by decide) rfl (hb hby d12_38) rfl 8 (by decide) (by decide) (by decide) (by decide) ?_
    intro T56 h56 a56 b56 kb56 vm56 X56 e56 E56 hS56 hZ56 ho56 w39_56 A56 C56 V56 B56 I56 Lv56
    have O58 : Old Z Z.heap.size h56 := O55.ext E56
    have lv59 : LitV Z vm56 "com/example/lukko/lukko/RuleProblem" 38 a18 := LitV.warm (s := s) Lv18 w39_56
    have KK61 : Keep h54 h56 [] := ((Keep.refl h54 []).ext E56)
    have f62 := (q54_5.keep KK61 nin0)
    have nb60 : b56 ≠ vb45 := own_neLen B56 f62 (by decide)
    have f63 : Exa Z h56 a1 "java/lang/StringBuilder" := (q54_0.keep KK61)
    have f64 : Fld Z h56 a1 "java/lang/AbstractStringBuilder" "value" "[B" (.ref vb45) := (q54_1.keep KK61 nin0)
    have f65 : Fld Z h56 a1 "java/lang/AbstractStringBuilder" "coder" "B" (.int (0 : Int32)) := (q54_2.keep KK61 nin0)
    have f66 : Fld Z h56 a1 "java/lang/AbstractStringBuilder" "count" "I" (.int cq54) := (q54_3.keep KK61 nin0)
    have f67 : Exa Z h56 vb45 "[B" := (q54_4.keep KK61)
    refine Wk.callV X56 hx hZ56 (y := (⟨"java/lang/StringBuilder", "append", "(Ljava/lang/String;)Ljava/lang/StringBuilder;"⟩ : MethodName)) (z := (⟨"java/lang/StringBuilder", "append", "(Ljava/lang/String;)Ljava/lang/StringBuilder;"⟩ : MethodName)) ho56 (w 92 _ rfl) (w 93 _ rfl) (notFace_of_selects (args := #[]) (mvT hZ56 (w 95 _ rfl))) (w 95 _ rfl) (w 94 _ rfl) (by decide) (as' := [(.ref a56)]) (backOf (W := 0) (rm_sbapA l Z a0 hw [] a1 vb45 kw45 (34 : Int32) cq54 vw54 a56 b56 kb56 (2 : Int32) _ (((((([] : List Int32) ++ fb) ++ ([58] : List Int32)) ++ db ln_) ++ ([58] : List Int32)) ++ db cn_) ([58, 32] : List Int32) G1 h56 O58 SG1 nG1 f63 f64 f65 f66 f67 f62 A56 C56 V56 B56 q54_6 (show Str [(.int (58 : Int32)), (.int (32 : Int32))] (2 : Int32) ([58, 32] : List Int32) from Str.map (bs := [58, 32]) rfl (by decide)) (own_34 (own_t6 ln_ cn_ hf4)) (Nat.le_trans (Nat.le_trans (Nat.le_trans (Nat.le_of_eq O0.1.symm) O0.2.1) KK46.1) q45_0) (Nat.le_trans (Nat.le_trans (Nat.le_trans (Nat.le_of_eq O0.1.symm) O0.2.1) (Keep.refl h0 []).1) (Nat.le_of_eq g1))) hZ56 (w 96 _ rfl) (w 76 _ rfl) (by decide) (by decide)) e56 f63 (by rw [hml]; rfl) (rest := []) (lenOf pd41 rfl) rfl (Nat.le_of_eq rfl) (hb hby d12_40) rfl (by decide) (by decide) ?_
    intro T68 h68 v68 L68 X68 e68 hQ68
    obtain ⟨cq68, vw68, rfl, Nq68, K68, q68_0, q68_1, q68_2, q68_3, q68_4, q68_5, q68_6⟩ := hQ68
    have KK69 : Keep h0 h56 [] := ((KK48.trans K54 (allS (Or.inr (Nat.le_of_eq g1)) (allS (Or.inr (Nat.le_trans KK46.1 q45_0)) all0))).ext E56)
    have N68 := Fk.app N54 Nq68 KK69.1 (allS (Or.inr (Nat.le_of_eq g1)) (allS (Or.inr (Nat.le_trans KK46.1 q45_0)) all0))
    have O70 : Old Z Z.heap.size h68 := O58.keep K68 (allS (Nat.le_trans (Nat.le_trans (Nat.le_trans (Nat.le_of_eq O0.1.symm) O0.2.1) (Keep.refl h0 []).1) (Nat.le_of_eq g1)) (allS (Nat.le_trans (Nat.le_trans (Nat.le_trans (Nat.le_of_eq O0.1.symm) O0.2.1) KK46.1) q45_0) all0))
    show Wp p e below _ _ T68 (mkF m 43 #[.val (.ref rp)] [(.ref a1)])
    refine Wk.aloadN X68 hx (hb hby d12_43) rfl rfl rfl ?_
    have KK71 : Keep h0 h68 [] := (KK69.trans K68 (allS (Or.inr (Nat.le_of_eq g1)) (allS (Or.inr (Nat.le_trans KK46.1 q45_0)) all0)))
    have f72 : Fld Z h68 rp "com/example/lukko/lukko/RuleProblem" "message" "Ljava/lang/String;" (.ref x2) := (pr4_.keep KK71 nin0)
    refine Wk.getfield X68 hx hZ56 ho56 (host := "") (Or.inl (w 67 _ rfl)) Via.refl e68 f72 (hb hby d12_44) rfl ?_
    intro T73 X73 e73
    have f74 : Exa Z h68 x2 "java/lang/String" := (pz0_.keep KK71)
    have f75 : Fld Z h68 x2 "java/lang/String" "coder" "B" (.int (0 : Int32)) := (pz1_.keep KK71 nin0)
    have f76 : Fld Z h68 x2 "java/lang/String" "value" "[B" (.ref t2) := (pz2_.keep KK71 nin0)
    have f77 := (pz3_.keep KK71 nin0)
    refine Wk.callV X73 hx hZ56 (y := (⟨"java/lang/StringBuilder", "append", "(Ljava/lang/String;)Ljava/lang/StringBuilder;"⟩ : MethodName)) (z := (⟨"java/lang/StringBuilder", "append", "(Ljava/lang/String;)Ljava/lang/StringBuilder;"⟩ : MethodName)) ho56 (w 92 _ rfl) (w 93 _ rfl) (notFace_of_selects (args := #[]) (mvT hZ56 (w 95 _ rfl))) (w 95 _ rfl) (w 94 _ rfl) (by decide) (as' := [(.ref x2)]) (backOf (W := 0) (rm_sbapA l Z a0 hw [] a1 vb45 kw45 (34 : Int32) cq68 vw68 x2 t2 kb2 nn2 us2 ((((((([] : List Int32) ++ fb) ++ ([58] : List Int32)) ++ db ln_) ++ ([58] : List Int32)) ++ db cn_) ++ ([58, 32] : List Int32)) mb G1 h68 O70 SG1 nG1 q68_0 q68_1 q68_2 q68_3 q68_4 q68_5 f74 f75 f76 f77 q68_6 hS2 (own_34 (own_t7 ln_ cn_ hf4 hm4)) (Nat.le_trans (Nat.le_trans (Nat.le_trans (Nat.le_of_eq O0.1.symm) O0.2.1) KK46.1) q45_0) (Nat.le_trans (Nat.le_trans (Nat.le_trans (Nat.le_of_eq O0.1.symm) O0.2.1) (Keep.refl h0 []).1) (Nat.le_of_eq g1))) hZ56 (w 96 _ rfl) (w 76 _ rfl) (by decide) (by decide)) e73 q68_0 (by rw [hml]; rfl) (rest := []) (lenOf pd41 rfl) rfl (Nat.le_of_eq rfl) (hb hby d12_47) rfl (by decide) (by decide) ?_
    intro T78 h78 v78 L78 X78 e78 hQ78
    obtain ⟨cq78, vw78, rfl, Nq78, K78, q78_0, q78_1, q78_2, q78_3, q78_4, q78_5, q78_6⟩ := hQ78
    have N78 := Fk.app N68 Nq78 KK71.1 (allS (Or.inr (Nat.le_of_eq g1)) (allS (Or.inr (Nat.le_trans KK46.1 q45_0)) all0))
    have O79 : Old Z Z.heap.size h78 := O70.keep K78 (allS (Nat.le_trans (Nat.le_trans (Nat.le_trans (Nat.le_of_eq O0.1.symm) O0.2.1) (Keep.refl h0 []).1) (Nat.le_of_eq g1)) (allS (Nat.le_trans (Nat.le_trans (Nat.le_trans (Nat.le_of_eq O0.1.symm) O0.2.1) KK46.1) q45_0) all0))
    show Wp p e below _ _ T78 (mkF m 50 #[.val (.ref rp)] [(.ref a1)])
    refine Wk.callV X78 hx hZ56 (y := (⟨"java/lang/StringBuilder", "toString", "()Ljava/lang/String;"⟩ : MethodName)) (z := (⟨"java/lang/StringBuilder", "toString", "()Ljava/lang/String;"⟩ : MethodName)) ho56 (w 163 _ rfl) (w 164 _ rfl) (notFace_of_selects (args := #[]) (mvT hZ56 (w 166 _ rfl))) (w 166 _ rfl) (w 165 _ rfl) (by decide) (as' := []) (backOf (W := 0) (rm_tos l Z a0 hw [] a1 vb45 kw45 (34 : Int32) cq78 vw78 (((((((([] : List Int32) ++ fb) ++ ([58] : List Int32)) ++ db ln_) ++ ([58] : List Int32)) ++ db cn_) ++ ([58, 32] : List Int32)) ++ mb) G1 h78 O79 SG1 nG1 q78_0 q78_1 q78_2 q78_3 q78_4 q78_5 q78_6) hZ56 (w 167 _ rfl) (w 76 _ rfl) (by decide) (by decide)) e78 q78_0 (by rw [hml]; rfl) (rest := []) (lenOf pd43 rfl) rfl (Nat.le_of_eq rfl) (hb hby d12_50) rfl (by decide) (by decide) ?_
    intro T80 h80 v80 L80 X80 e80 hQ80
    obtain ⟨x80, t80, kb80, us80, rfl, Nq80, K80, q80_0, q80_1, q80_2, q80_3, q80_4, q80_5, q80_6⟩ := hQ80
    have KK81 : Keep h0 h78 [] := (KK71.trans K78 (allS (Or.inr (Nat.le_of_eq g1)) (allS (Or.inr (Nat.le_trans KK46.1 q45_0)) all0)))
    have N80 := Fk.app N78 Nq80 KK81.1 all0
    have O82 : Old Z Z.heap.size h80 := O79.keep K80 all0
    show Wp p e below _ _ T80 (mkF m 53 #[.val (.ref rp)] [(.ref x80)])
    have KK83 : Keep h0 h80 [] := (KK81.trans K80 all0)
    have KK84 : Keep h56 h80 [a1, vb45] := ((((Keep.refl h56 [a1, vb45]).trans K68 (allS (Or.inl (List.mem_of_getElem? (i := 0) rfl)) (allS (Or.inl (List.mem_of_getElem? (i := 1) rfl)) all0))).trans K78 (allS (Or.inl (List.mem_of_getElem? (i := 0) rfl)) (allS (Or.inl (List.mem_of_getElem? (i := 1) rfl)) all0))).trans K80 all0)
    exact Wk.retAW X80 hx hS56 (Nat.le_trans (Nat.le_refl _) KK84.1) hlk hr rfl rfl (hb hby d12_53) (by decide) (by decide) (Qc := Q_rm_txt Z rp ln_ cn_ x1 t1 kb1 nn1 us1 x2 t2 kb2 nn2 us2 fb mb da kd dt kt G1 h0) e80 (fun vm' hw' => ⟨x80, t80, kb80, cq78, us80, rfl, N80, KK83, (Nat.le_trans KK81.1 q80_0), (Nat.le_trans KK81.1 q80_1), q80_2, q80_3, q80_4, q80_5, q80_6, (ibWarm I56 hw')⟩)
  have KK85 : Keep h18 h37 [a1, va6] := (((Keep.refl h18 [a1, va6]).trans K29 (allS (Or.inl (List.mem_of_getElem? (i := 0) rfl)) (allS (Or.inl (List.mem_of_getElem? (i := 1) rfl)) all0))).trans K37 (allS (Or.inl (List.mem_of_getElem? (i := 0) rfl)) (allS (Or.inl (List.mem_of_getElem? (i := 1) rfl)) all0)))
  have f86 : Exa Z h37 a18 "java/lang/String" := (A18.keep KK85)
  have f87 : Fld Z h37 a18 "java/lang/String" "coder" "B" (.int (0 : Int32)) := (C18.keep KK85 (ninS (Exa.ne f86 q37_0 (by decide)) (ninS (Exa.ne f86 q37_4 (by decide)) nin0)))
  have f88 : Fld Z h37 a18 "java/lang/String" "value" "[B" (.ref b18) := (V18.keep KK85 (ninS (Exa.ne f86 q37_0 (by decide)) (ninS (Exa.ne f86 q37_4 (by decide)) nin0)))
  have f89 := (B18.keep KK85 (ninS (Ne.symm (Exa.neArv f24 B18 (w 75 _ rfl))) (ninS nb21 nin0)))
  refine Wk.callV X37 hx hZ18 (y := (⟨"java/lang/StringBuilder", "append", "(Ljava/lang/String;)Ljava/lang/StringBuilder;"⟩ : MethodName)) (z := (⟨"java/lang/StringBuilder", "append", "(Ljava/lang/String;)Ljava/lang/StringBuilder;"⟩ : MethodName)) ho18 (w 92 _ rfl) (w 93 _ rfl) (notFace_of_selects (args := #[]) (mvT hZ18 (w 95 _ rfl))) (w 95 _ rfl) (w 94 _ rfl) (by decide) (as' := [(.ref a18)]) (backOf (W := 0) (rm_sbapA l Z a0 hw [] a1 va6 kv6 (16 : Int32) cq37 vw37 a18 b18 kb18 (1 : Int32) _ (((([] : List Int32) ++ fb) ++ ([58] : List Int32)) ++ db ln_) ([58] : List Int32) G1 h37 O38 SG1 nG1 q37_0 q37_1 q37_2 q37_3 q37_4 q37_5 f86 f87 f88 f89 q37_6 (show Str [(.int (58 : Int32))] (1 : Int32) ([58] : List Int32) from Str.map (bs := [58]) rfl (by decide)) (own_16 (Nat.le_of_not_lt hg39)) (Nat.le_trans (Nat.le_trans (Nat.le_trans (Nat.le_of_eq O0.1.symm) O0.2.1) KK7.1) q6_0) (Nat.le_trans (Nat.le_trans (Nat.le_trans (Nat.le_of_eq O0.1.symm) O0.2.1) (Keep.refl h0 []).1) (Nat.le_of_eq g1))) hZ18 (w 96 _ rfl) (w 76 _ rfl) (by decide) (by decide)) e37 q37_0 (by rw [hml]; rfl) (rest := []) (lenOf pd41 rfl) rfl (Nat.le_of_eq rfl) (hb hby d12_28) rfl (by decide) (by decide) ?_
  intro T90 h90 v90 L90 X90 e90 hQ90
  obtain ⟨cq90, vw90, rfl, Nq90, K90, q90_0, q90_1, q90_2, q90_3, q90_4, q90_5, q90_6⟩ := hQ90
  have KK91 : Keep h0 h37 [] := (KK32.trans K37 (allS (Or.inr (Nat.le_of_eq g1)) (allS (Or.inr (Nat.le_trans KK7.1 q6_0)) all0)))
  have N90 := Fk.app N37 Nq90 KK91.1 (allS (Or.inr (Nat.le_of_eq g1)) (allS (Or.inr (Nat.le_trans KK7.1 q6_0)) all0))
  have O92 : Old Z Z.heap.size h90 := O38.keep K90 (allS (Nat.le_trans (Nat.le_trans (Nat.le_trans (Nat.le_of_eq O0.1.symm) O0.2.1) (Keep.refl h0 []).1) (Nat.le_of_eq g1)) (allS (Nat.le_trans (Nat.le_trans (Nat.le_trans (Nat.le_of_eq O0.1.symm) O0.2.1) KK7.1) q6_0) all0))
  show Wp p e below _ _ T90 (mkF m 31 #[.val (.ref rp)] [(.ref a1)])
  refine Wk.aloadN X90 hx (hb hby d12_31) rfl rfl rfl ?_
  have KK93 : Keep h0 h90 [] := (KK91.trans K90 (allS (Or.inr (Nat.le_of_eq g1)) (allS (Or.inr (Nat.le_trans KK7.1 q6_0)) all0)))
  have f94 : Fld Z h90 rp "com/example/lukko/lukko/RuleProblem" "column" "I" (.int cn_) := (pr3_.keep KK93 nin0)
  refine Wk.getfield X90 hx hZ18 ho18 (host := "") (Or.inl (w 65 _ rfl)) Via.refl e90 f94 (hb hby d12_32) rfl ?_
  intro T95 X95 e95
  by_cases hg96 : 16 < ((((([] : List Int32) ++ fb) ++ ([58] : List Int32)) ++ db ln_) ++ ([58] : List Int32)).length + (db cn_).length
  · skip
    have f97 := (pO.keep KK93 nin0)
    have f98 := (pN.keep KK93 nin0)
    refine Wk.callV X95 hx hZ18 (y := (⟨"java/lang/StringBuilder", "append", "(I)Ljava/lang/StringBuilder;"⟩ : MethodName)) (z := (⟨"java/lang/StringBuilder", "append", "(I)Ljava/lang/StringBuilder;"⟩ : MethodName)) ho18 (w 140 _ rfl) (w 141 _ rfl) (notFace_of_selects (args := #[]) (mvT hZ18 (w 143 _ rfl))) (w 143 _ rfl) (w 142 _ rfl) (by decide) (as' := [(.int cn_)]) (backOf (W := 0) (rm_sbiB l Z a0 hw [] a1 va6 kv6 cq90 vw90 cn_ ((((([] : List Int32) ++ fb) ++ ([58] : List Int32)) ++ db ln_) ++ ([58] : List Int32)) da kd dt kt G1 h90 O92 SG1 nG1 q90_0 q90_1 q90_2 q90_3 q90_4 q90_5 sO f97 sN f98 q90_6 hg96 (own_t5 ln_ cn_ hf4) (Nat.le_trans (Nat.le_trans (Nat.le_trans (Nat.le_of_eq O0.1.symm) O0.2.1) (Keep.refl h0 []).1) (Nat.le_of_eq g1))) hZ18 (w 144 _ rfl) (w 76 _ rfl) (by decide) (by decide)) e95 q90_0 (by rw [hml]; rfl) (rest := []) (lenOf pd42 rfl) rfl (Nat.le_of_eq rfl) (hb hby d12_35) rfl (by decide) (by decide) ?_
    intro T99 h99 v99 L99 X99 e99 hQ99
    obtain ⟨vb99, kw99, cq99, vw99, rfl, Nq99, K99, q99_0, q99_1, q99_2, q99_3, q99_4, q99_5, q99_6, q99_7⟩ := hQ99
    have N99 := Fk.app N90 Nq99 KK93.1 (allS (Or.inr (Nat.le_of_eq g1)) all0)
    have O100 : Old Z Z.heap.size h99 := O92.keep K99 (allS (Nat.le_trans (Nat.le_trans (Nat.le_trans (Nat.le_of_eq O0.1.symm) O0.2.1) (Keep.refl h0 []).1) (Nat.le_of_eq g1)) all0)
    show Wp p e below _ _ T99 (mkF m 38 #[.val (.ref rp)] [(.ref a1)])
    have KK102 : Keep h18 h99 [a1, va6] := ((KK85.trans K90 (allS (Or.inl (List.mem_of_getElem? (i := 0) rfl)) (allS (Or.inl (List.mem_of_getElem? (i := 1) rfl)) all0))).trans K99 (allS (Or.inl (List.mem_of_getElem? (i := 0) rfl)) all0))
    refine Wk.ldcNew X99 hx hZ18 ho18 (w 162 _ rfl) wS e99 hS18 (Nat.le_trans (Nat.le_refl _) KK102.1) (by rw [hs0]; exact N99.fr) (by rw [hs0]; exact O0) I18 (by first | decide | (intro q; simp at q) | simp_all) (hheld _ (List.mem_of_getElem? (i := 3) rfl)) hcw (vs := [(.int (58 : Int32)), (.int (32 : Int32))]) (z := (2 : Int32)) (by decide +kernel) (by decide) rfl (hb hby d12_38) rfl 8 (by decide) (by decide) (by decide) (by decide) ?_
    intro T101 h101 a101 b101 kb101 vm101 X101 e101 E101 hS101 hZ101 ho101 w39_101 A101 C101 V101 B101 I101 Lv101
    have O103 : Old Z Z.heap.size h101 := O100.ext E101
    have lv104 : LitV Z vm101 "com/example/lukko/lukko/RuleProblem" 38 a18 := LitV.warm (s := s) Lv18 w39_101
    have KK106 : Keep h99 h101 [] := ((Keep.refl h99 []).ext E101)
    have f107 := (q99_6.keep KK106 nin0)
    have nb105 : b101 ≠ vb99 := own_neLen B101 f107 (by decide)
    have f108 : Exa Z h101 a1 "java/lang/StringBuilder" := (q99_1.keep KK106)
    have f109 : Fld Z h101 a1 "java/lang/AbstractStringBuilder" "value" "[B" (.ref vb99) := (q99_2.keep KK106 nin0)
    have f110 : Fld Z h101 a1 "java/lang/AbstractStringBuilder" "coder" "B" (.int (0 : Int32)) := (q99_3.keep KK106 nin0)
    have f111 : Fld Z h101 a1 "java/lang/AbstractStringBuilder" "count" "I" (.int cq99) := (q99_4.keep KK106 nin0)
    have f112 : Exa Z h101 vb99 "[B" := (q99_5.keep KK106)
    refine Wk.callV X101 hx hZ101 (y := (⟨"java/lang/StringBuilder", "append", "(Ljava/lang/String;)Ljava/lang/StringBuilder;"⟩ : MethodName)) (z := (⟨"java/lang/StringBuilder", "append", "(Ljava/lang/String;)Ljava/lang/StringBuilder;"⟩ : MethodName)) ho101 (w 92 _ rfl) (w 93 _ rfl) (notFace_of_selects (args := #[]) (mvT hZ101 (w 95 _ rfl))) (w 95 _ rfl) (w 94 _ rfl) (by decide) (as' := [(.ref a101)]) (backOf (W := 0) (rm_sbapA l Z a0 hw [] a1 vb99 kw99 (34 : Int32) cq99 vw99 a101 b101 kb101 (2 : Int32) _ (((((([] : List Int32) ++ fb) ++ ([58] : List Int32)) ++ db ln_) ++ ([58] : List Int32)) ++ db cn_) ([58, 32] : List Int32) G1 h101 O103 SG1 nG1 f108 f109 f110 f111 f112 f107 A101 C101 V101 B101 q99_7 (show Str [(.int (58 : Int32)), (.int (32 : Int32))] (2 : Int32) ([58, 32] : List Int32) from Str.map (bs := [58, 32]) rfl (by decide)) (own_34 (own_t6 ln_ cn_ hf4)) (Nat.le_trans (Nat.le_trans (Nat.le_trans (Nat.le_of_eq O0.1.symm) O0.2.1) KK93.1) q99_0) (Nat.le_trans (Nat.le_trans (Nat.le_trans (Nat.le_of_eq O0.1.symm) O0.2.1) (Keep.refl h0 []).1) (Nat.le_of_eq g1))) hZ101 (w 96 _ rfl) (w 76 _ rfl) (by decide) (by decide)) e101 f108 (by rw [hml]; rfl) (rest := []) (lenOf pd41 rfl) rfl (Nat.le_of_eq rfl) (hb hby d12_40) rfl (by decide) (by decide) ?_
    intro T113 h113 v113 L113 X113 e113 hQ113
    obtain ⟨cq113, vw113, rfl, Nq113, K113, q113_0, q113_1, q113_2, q113_3, q113_4, q113_5, q113_6⟩ := hQ113
    have KK114 : Keep h0 h101 [] := ((KK93.trans K99 (allS (Or.inr (Nat.le_of_eq g1)) all0)).ext E101)
    have N113 := Fk.app N99 Nq113 KK114.1 (allS (Or.inr (Nat.le_of_eq g1)) (allS (Or.inr (Nat.le_trans KK93.1 q99_0)) all0))
    have O115 : Old Z Z.heap.size h113 := O103.keep K113 (allS (Nat.le_trans (Nat.le_trans (Nat.le_trans (Nat.le_of_eq O0.1.symm) O0.2.1) (Keep.refl h0 []).1) (Nat.le_of_eq g1)) (allS (Nat.le_trans (Nat.le_trans (Nat.le_trans (Nat.le_of_eq O0.1.symm) O0.2.1) KK93.1) q99_0) all0))
    show Wp p e below _ _ T113 (mkF m 43 #[.val (.ref rp)] [(.ref a1)])
    refine Wk.aloadN X113 hx (hb hby d12_43) rfl rfl rfl ?_
    have KK116 : Keep h0 h113 [] := (KK114.trans K113 (allS (Or.inr (Nat.le_of_eq g1)) (allS (Or.inr (Nat.le_trans KK93.1 q99_0)) all0)))
    have f117 : Fld Z h113 rp "com/example/lukko/lukko/RuleProblem" "message" "Ljava/lang/String;" (.ref x2) := (pr4_.keep KK116 nin0)
    refine Wk.getfield X113 hx hZ101 ho101 (host := "") (Or.inl (w 67 _ rfl)) Via.refl e113 f117 (hb hby d12_44) rfl ?_
    intro T118 X118 e118
    have f119 : Exa Z h113 x2 "java/lang/String" := (pz0_.keep KK116)
    have f120 : Fld Z h113 x2 "java/lang/String" "coder" "B" (.int (0 : Int32)) := (pz1_.keep KK116 nin0)
    have f121 : Fld Z h113 x2 "java/lang/String" "value" "[B" (.ref t2) := (pz2_.keep KK116 nin0)
    have f122 := (pz3_.keep KK116 nin0)
    refine Wk.callV X118 hx hZ101 (y := (⟨"java/lang/StringBuilder", "append", "(Ljava/lang/String;)Ljava/lang/StringBuilder;"⟩ : MethodName)) (z := (⟨"java/lang/StringBuilder", "append", "(Ljava/lang/String;)Ljava/lang/StringBuilder;"⟩ : MethodName)) ho101 (w 92 _ rfl) (w 93 _ rfl) (notFace_of_selects (args := #[]) (mvT hZ101 (w 95 _ rfl))) (w 95 _ rfl) (w 94 _ rfl) (by decide) (as' := [(.ref x2)]) (backOf (W := 0) (rm_sbapA l Z a0 hw [] a1 vb99 kw99 (34 : Int32) cq113 vw113 x2 t2 kb2 nn2 us2 ((((((([] : List Int32) ++ fb) ++ ([58] : List Int32)) ++ db ln_) ++ ([58] : List Int32)) ++ db cn_) ++ ([58, 32] : List Int32)) mb G1 h113 O115 SG1 nG1 q113_0 q113_1 q113_2 q113_3 q113_4 q113_5 f119 f120 f121 f122 q113_6 hS2 (own_34 (own_t7 ln_ cn_ hf4 hm4)) (Nat.le_trans (Nat.le_trans (Nat.le_trans (Nat.le_of_eq O0.1.symm) O0.2.1) KK93.1) q99_0) (Nat.le_trans (Nat.le_trans (Nat.le_trans (Nat.le_of_eq O0.1.symm) O0.2.1) (Keep.refl h0 []).1) (Nat.le_of_eq g1))) hZ101 (w 96 _ rfl) (w 76 _ rfl) (by decide) (by decide)) e118 q113_0 (by rw [hml]; rfl) (rest := []) (lenOf pd41 rfl) rfl (Nat.le_of_eq rfl) (hb hby d12_47) rfl (by decide) (by decide) ?_
    intro T123 h123 v123 L123 X123 e123 hQ123
    obtain ⟨cq123, vw123, rfl, Nq123, K123, q123_0, q123_1, q123_2, q123_3, q123_4, q123_5, q123_6⟩ := hQ123
    have N123 := Fk.app N113 Nq123 KK116.1 (allS (Or.inr (Nat.le_of_eq g1)) (allS (Or.inr (Nat.le_trans KK93.1 q99_0)) all0))
    have O124 : Old Z Z.heap.size h123 := O115.keep K123 (allS (Nat.le_trans (Nat.le_trans (Nat.le_trans (Nat.le_of_eq O0.1.symm) O0.2.1) (Keep.refl h0 []).1) (Nat.le_of_eq g1)) (allS (Nat.le_trans (Nat.le_trans (Nat.le_trans (Nat.le_of_eq O0.1.symm) O0.2.1) KK93.1) q99_0) all0))
    show Wp p e below _ _ T123 (mkF m 50 #[.val (.ref rp)] [(.ref a1)])
    refine Wk.callV X123 hx hZ101 (y := (⟨"java/lang/StringBuilder", "toString", "()Ljava/lang/String;"⟩ : MethodName)) (z := (⟨"java/lang/StringBuilder", "toString", "()Ljava/lang/String;"⟩ : MethodName)) ho101 (w 163 _ rfl) (w 164 _ rfl) (notFace_of_selects (args := #[]) (mvT hZ101 (w 166 _ rfl))) (w 166 _ rfl) (w 165 _ rfl) (by decide) (as' := []) (backOf (W := 0) (rm_tos l Z a0 hw [] a1 vb99 kw99 (34 : Int32) cq123 vw123 (((((((([] : List Int32) ++ fb) ++ ([58] : List Int32)) ++ db ln_) ++ ([58] : List Int32)) ++ db cn_) ++ ([58, 32] : List Int32)) ++ mb) G1 h123 O124 SG1 nG1 q123_0 q123_1 q123_2 q123_3 q123_4 q123_5 q123_6) hZ101 (w 167 _ rfl) (w 76 _ rfl) (by decide) (by decide)) e123 q123_0 (by rw [hml]; rfl) (rest := []) (lenOf pd43 rfl) rfl (Nat.le_of_eq rfl) (hb hby d12_50) rfl (by decide) (by decide) ?_
    intro T125 h125 v125 L125 X125 e125 hQ125
    obtain ⟨x125, t125, kb125, us125, rfl, Nq125, K125, q125_0, q125_1, q125_2, q125_3, q125_4, q125_5, q125_6⟩ := hQ125
    have KK126 : Keep h0 h123 [] := (KK116.trans K123 (allS (Or.inr (Nat.le_of_eq g1)) (allS (Or.inr (Nat.le_trans KK93.1 q99_0)) all0)))
    have N125 := Fk.app N123 Nq125 KK126.1 all0
    have O127 : Old Z Z.heap.size h125 := O124.keep K125 all0
    show Wp p e below _ _ T125 (mkF m 53 #[.val (.ref rp)] [(.ref x125)])
    have KK128 : Keep h0 h125 [] := (KK126.trans K125 all0)
    have KK129 : Keep h101 h125 [a1, vb99] := ((((Keep.refl h101 [a1, vb99]).trans K113 (allS (Or.inl (List.mem_of_getElem? (i := 0) rfl)) (allS (Or.inl (List.mem_of_getElem? (i := 1) rfl)) all0))).trans K123 (allS (Or.inl (List.mem_of_getElem? (i := 0) rfl)) (allS (Or.inl (List.mem_of_getElem? (i := 1) rfl)) all0))).trans K125 all0)
    exact Wk.retAW X125 hx hS101 (Nat.le_trans (Nat.le_refl _) KK129.1) hlk hr rfl rfl (hb hby d12_53) (by decide) (by decide) (Qc := Q_rm_txt Z rp ln_ cn_ x1 t1 kb1 nn1 us1 x2 t2 kb2 nn2 us2 fb mb da kd dt kt G1 h0) e125 (fun vm' hw' => ⟨x125, t125, kb125, cq123, us125, rfl, N125, KK128, (Nat.le_trans KK126.1 q125_0), (Nat.le_trans KK126.1 q125_1), q125_2, q125_3, q125_4, q125_5, q125_6, (ibWarm I101 hw')⟩)
  have f130 := (pO.keep KK93 nin0)
  have f131 := (pN.keep KK93 nin0)
  refine Wk.callV X95 hx hZ18 (y := (⟨"java/lang/StringBuilder", "append", "(I)Ljava/lang/StringBuilder;"⟩ : MethodName)) (z := (⟨"java/lang/StringBuilder", "append", "(I)Ljava/lang/StringBuilder;"⟩ : MethodName)) ho18 (w 140 _ rfl) (w 141 _ rfl) (notFace_of_selects (args := #[]) (mvT hZ18 (w 143 _ rfl))) (w 143 _ rfl) (w 142 _ rfl) (by decide) (as' := [(.int cn_)]) (backOf (W := 0) (rm_sbiA l Z a0 hw [] a1 va6 kv6 (16 : Int32) cq90 vw90 cn_ ((((([] : List Int32) ++ fb) ++ ([58] : List Int32)) ++ db ln_) ++ ([58] : List Int32)) da kd dt kt G1 h90 O92 SG1 nG1 q90_0 q90_1 q90_2 q90_3 q90_4 q90_5 sO f130 sN f131 (Nat.ne_of_lt (Nat.lt_of_lt_of_le pO.lt (Nat.le_trans KK7.1 q6_0))) (Nat.ne_of_lt (Nat.lt_of_lt_of_le pN.lt (Nat.le_trans KK7.1 q6_0))) q90_6 (own_16 (Nat.le_of_not_lt hg96)) (Nat.le_trans (Nat.le_trans (Nat.le_trans (Nat.le_of_eq O0.1.symm) O0.2.1) KK7.1) q6_0) (Nat.le_trans (Nat.le_trans (Nat.le_trans (Nat.le_of_eq O0.1.symm) O0.2.1) (Keep.refl h0 []).1) (Nat.le_of_eq g1))) hZ18 (w 144 _ rfl) (w 76 _ rfl) (by decide) (by decide)) e95 q90_0 (by rw [hml]; rfl) (rest := []) (lenOf pd42 rfl) rfl (Nat.le_of_eq rfl) (hb hby d12_35) rfl (by decide) (by decide) ?_
  intro T132 h132 v132 L132 X132 e132 hQ132
  obtain ⟨cq132, vw132, rfl, Nq132, K132, q132_0, q132_1, q132_2, q132_3, q132_4, q132_5, q132_6⟩ := hQ132
  have N132 := Fk.app N90 Nq132 KK93.1 (allS (Or.inr (Nat.le_of_eq g1)) (allS (Or.inr (Nat.le_trans KK7.1 q6_0)) all0))
  have O133 : Old Z Z.heap.size h132 := O92.keep K132 (allS (Nat.le_trans (Nat.le_trans (Nat.le_trans (Nat.le_of_eq O0.1.symm) O0.2.1) (Keep.refl h0 []).1) (Nat.le_of_eq g1)) (allS (Nat.le_trans (Nat.le_trans (Nat.le_trans (Nat.le_of_eq O0.1.symm) O0.2.1) KK7.1) q6_0) all0))
  show Wp p e below _ _ T132 (mkF m 38 #[.val (.ref rp)] [(.ref a1)])
  have KK135 : Keep h18 h132 [a1, va6] := ((KK85.trans K90 (allS (Or.inl (List.mem_of_getElem? (i := 0) rfl)) (allS (Or.inl (List.mem_of_getElem? (i := 1) rfl)) all0))).trans K132 (allS (Or.inl (List.mem_of_getElem? (i := 0) rfl)) (allS (Or.inl (List.mem_of_getElem? (i := 1) rfl)) all0)))
  refine Wk.ldcNew X132 hx hZ18 ho18 (w 162 _ rfl) wS e132 hS18 (Nat.le_trans (Nat.le_refl _) KK135.1) (by rw [hs0]; exact N132.fr) (by rw [hs0]; exact O0) I18 (by first | decide | (intro q; simp at q) | simp_all) (hheld _ (List.mem_of_getElem? (i := 3) rfl)) hcw (vs := [(.int (58 : Int32)), (.int (32 : Int32))]) (z := (2 : Int32)) (by decide +kernel) (by decide) rfl (hb hby d12_38) rfl 8 (by decide) (by decide) (by decide) (by decide) ?_
  intro T134 h134 a134 b134 kb134 vm134 X134 e134 E134 hS134 hZ134 ho134 w39_134 A134 C134 V134 B134 I134 Lv134
  have O136 : Old Z Z.heap.size h134 := O133.ext E134
  have lv137 : LitV Z vm134 "com/example/lukko/lukko/RuleProblem" 38 a18 := LitV.warm (s := s) Lv18 w39_134
  have KK139 : Keep h132 h134 [] := ((Keep.refl h132 []).ext E134)
  have f140 := (q132_5.keep KK139 nin0)
  have nb138 : b134 ≠ va6 := own_neLen B134 f140 (by decide)
  by_cases hg141 : 16 < (((((([] : List Int32) ++ fb) ++ ([58] : List Int32)) ++ db ln_) ++ ([58] : List Int32)) ++ db cn_).length + ([58, 32] : List Int32).length
  · skip
    have f142 : Exa Z h134 a1 "java/lang/StringBuilder" := (q132_0.keep KK139)
    have f143 : Fld Z h134 a1 "java/lang/AbstractStringBuilder" "value" "[B" (.ref va6) := (q132_1.keep KK139 nin0)
    have f144 : Fld Z h134 a1 "java/lang/AbstractStringBuilder" "coder" "B" (.int (0 : Int32)) := (q132_2.keep KK139 nin0)
    have f145 : Fld Z h134 a1 "java/lang/AbstractStringBuilder" "count" "I" (.int cq132) := (q132_3.keep KK139 nin0)
    have f146 : Exa Z h134 va6 "[B" := (q132_4.keep KK139)
    refine Wk.callV X134 hx hZ134 (y := (⟨"java/lang/StringBuilder", "append", "(Ljava/lang/String;)Ljava/lang/StringBuilder;"⟩ : MethodName)) (z := (⟨"java/lang/StringBuilder", "append", "(Ljava/lang/String;)Ljava/lang/StringBuilder;"⟩ : MethodName)) ho134 (w 92 _ rfl) (w 93 _ rfl) (notFace_of_selects (args := #[]) (mvT hZ134 (w 95 _ rfl))) (w 95 _ rfl) (w 94 _ rfl) (by decide) (as' := [(.ref a134)]) (backOf (W := 0) (rm_sbapB l Z a0 hw [] a1 va6 kv6 cq132 vw132 a134 b134 kb134 (2 : Int32) _ (((((([] : List Int32) ++ fb) ++ ([58] : List Int32)) ++ db ln_) ++ ([58] : List Int32)) ++ db cn_) ([58, 32] : List Int32) G1 h134 O136 SG1 nG1 f142 f143 f144 f145 f146 f140 A134 C134 V134 B134 q132_6 (show Str [(.int (58 : Int32)), (.int (32 : Int32))] (2 : Int32) ([58, 32] : List Int32) from Str.map (bs := [58, 32]) rfl (by decide)) hg141 (own_t6 ln_ cn_ hf4) (Nat.le_trans (Nat.le_trans (Nat.le_trans (Nat.le_of_eq O0.1.symm) O0.2.1) (Keep.refl h0 []).1) (Nat.le_of_eq g1))) hZ134 (w 96 _ rfl) (w 76 _ rfl) (by decide) (by decide)) e134 f142 (by rw [hml]; rfl) (rest := []) (lenOf pd41 rfl) rfl (Nat.le_of_eq rfl) (hb hby d12_40) rfl (by decide) (by decide) ?_
    intro T147 h147 v147 L147 X147 e147 hQ147
    obtain ⟨vb147, kw147, cq147, vw147, rfl, Nq147, K147, q147_0, q147_1, q147_2, q147_3, q147_4, q147_5, q147_6, q147_7⟩ := hQ147
    have KK148 : Keep h0 h134 [] := ((KK93.trans K132 (allS (Or.inr (Nat.le_of_eq g1)) (allS (Or.inr (Nat.le_trans KK7.1 q6_0)) all0))).ext E134)
    have N147 := Fk.app N132 Nq147 KK148.1 (allS (Or.inr (Nat.le_of_eq g1)) all0)
    have O149 : Old Z Z.heap.size h147 := O136.keep K147 (allS (Nat.le_trans (Nat.le_trans (Nat.le_trans (Nat.le_of_eq O0.1.symm) O0.2.1) (Keep.refl h0 []).1) (Nat.le_of_eq g1)) all0)
    show Wp p e below _ _ T147 (mkF m 43 #[.val (.ref rp)] [(.ref a1)])
    refine Wk.aloadN X147 hx (hb hby d12_43) rfl rfl rfl ?_
    have KK150 : Keep h0 h147 [] := (KK148.trans K147 (allS (Or.inr (Nat.le_of_eq g1)) all0))
    have f151 : Fld Z h147 rp "com/example/lukko/lukko/RuleProblem" "message" "Ljava/lang/String;" (.ref x2) := (pr4_.keep KK150 nin0)
    refine Wk.getfield X147 hx hZ134 ho134 (host := "") (Or.inl (w 67 _ rfl)) Via.refl e147 f151 (hb hby d12_44) rfl ?_
    intro T152 X152 e152
    have f153 : Exa Z h147 x2 "java/lang/String" := (pz0_.keep KK150)
    have f154 : Fld Z h147 x2 "java/lang/String" "coder" "B" (.int (0 : Int32)) := (pz1_.keep KK150 nin0)
    have f155 : Fld Z h147 x2 "java/lang/String" "value" "[B" (.ref t2) := (pz2_.keep KK150 nin0)
    have f156 := (pz3_.keep KK150 nin0)
    refine Wk.callV X152 hx hZ134 (y := (⟨"java/lang/StringBuilder", "append", "(Ljava/lang/String;)Ljava/lang/StringBuilder;"⟩ : MethodName)) (z := (⟨"java/lang/StringBuilder", "append", "(Ljava/lang/String;)Ljava/lang/StringBuilder;"⟩ : MethodName)) ho134 (w 92 _ rfl) (w 93 _ rfl) (notFace_of_selects (args := #[]) (mvT hZ134 (w 95 _ rfl))) (w 95 _ rfl) (w 94 _ rfl) (by decide) (as' := [(.ref x2)]) (backOf (W := 0) (rm_sbapA l Z a0 hw [] a1 vb147 kw147 (34 : Int32) cq147 vw147 x2 t2 kb2 nn2 us2 ((((((([] : List Int32) ++ fb) ++ ([58] : List Int32)) ++ db ln_) ++ ([58] : List Int32)) ++ db cn_) ++ ([58, 32] : List Int32)) mb G1 h147 O149 SG1 nG1 q147_1 q147_2 q147_3 q147_4 q147_5 q147_6 f153 f154 f155 f156 q147_7 hS2 (own_34 (own_t7 ln_ cn_ hf4 hm4)) (Nat.le_trans (Nat.le_trans (Nat.le_trans (Nat.le_of_eq O0.1.symm) O0.2.1) KK148.1) q147_0) (Nat.le_trans (Nat.le_trans (Nat.le_trans (Nat.le_of_eq O0.1.symm) O0.2.1) (Keep.refl h0 []).1) (Nat.le_of_eq g1))) hZ134 (w 96 _ rfl) (w 76 _ rfl) (by decide) (by decide)) e152 q147_1 (by rw [hml]; rfl) (rest := []) (lenOf pd41 rfl) rfl (Nat.le_of_eq rfl) (hb hby d12_47) rfl (by decide) (by decide) ?_
    intro T157 h157 v157 L157 X157 e157 hQ157
    obtain ⟨cq157, vw157, rfl, Nq157, K157, q157_0, q157_1, q157_2, q157_3, q157_4, q157_5, q157_6⟩ := hQ157
    have N157 := Fk.app N147 Nq157 KK150.1 (allS (Or.inr (Nat.le_of_eq g1)) (allS (Or.inr (Nat.le_trans KK148.1 q147_0)) all0))
    have O158 : Old Z Z.heap.size h157 := O149.keep K157 (allS (Nat.le_trans (Nat.le_trans (Nat.le_trans (Nat.le_of_eq O0.1.symm) O0.2.1) (Keep.refl h0 []).1) (Nat.le_of_eq g1)) (allS (Nat.le_trans (Nat.le_trans (Nat.le_trans (Nat.le_of_eq O0.1.symm) O0.2.1) KK148.1) q147_0) all0))
    show Wp p e below _ _ T157 (mkF m 50 #[.val (.ref rp)] [(.ref a1)])
    refine Wk.callV X157 hx hZ134 (y := (⟨"java/lang/StringBuilder", "toString", "()Ljava/lang/String;"⟩ : MethodName)) (z := (⟨"java/lang/StringBuilder", "toString", "()Ljava/lang/String;"⟩ : MethodName)) ho134 (w 163 _ rfl) (w 164 _ rfl) (notFace_of_selects (args := #[]) (mvT hZ134 (w 166 _ rfl))) (w 166 _ rfl) (w 165 _ rfl) (by decide) (as' := []) (backOf (W := 0) (rm_tos l Z a0 hw [] a1 vb147 kw147 (34 : Int32) cq157 vw157 (((((((([] : List Int32) ++ fb) ++ ([58] : List Int32)) ++ db ln_) ++ ([58] : List Int32)) ++ db cn_) ++ ([58, 32] : List Int32)) ++ mb) G1 h157 O158 SG1 nG1 q157_0 q157_1 q157_2 q157_3 q157_4 q157_5 q157_6) hZ134 (w 167 _ rfl) (w 76 _ rfl) (by decide) (by decide)) e157 q157_0 (by rw [hml]; rfl) (rest := []) (lenOf pd43 rfl) rfl (Nat.le_of_eq rfl) (hb hby d12_50) rfl (by decide) (by decide) ?_
    intro T159 h159 v159 L159 X159 e159 hQ159
    obtain ⟨x159, t159, kb159, us159, rfl, Nq159, K159, q159_0, q159_1, q159_2, q159_3, q159_4, q159_5, q159_6⟩ := hQ159
    have KK160 : Keep h0 h157 [] := (KK150.trans K157 (allS (Or.inr (Nat.le_of_eq g1)) (allS (Or.inr (Nat.le_trans KK148.1 q147_0)) all0)))
    have N159 := Fk.app N157 Nq159 KK160.1 all0
    have O161 : Old Z Z.heap.size h159 := O158.keep K159 all0
    show Wp p e below _ _ T159 (mkF m 53 #[.val (.ref rp)] [(.ref x159)])
    have KK162 : Keep h0 h159 [] := (KK160.trans K159 all0)
    have KK163 : Keep h134 h159 [a1] := ((((Keep.refl h134 [a1]).trans K147 (allS (Or.inl (List.mem_of_getElem? (i := 0) rfl)) all0)).trans K157 (allS (Or.inl (List.mem_of_getElem? (i := 0) rfl)) (allS (Or.inr q147_0) all0))).trans K159 all0)
    exact Wk.retAW X159 hx hS134 (Nat.le_trans (Nat.le_refl _) KK163.1) hlk hr rfl rfl (hb hby d12_53) (by decide) (by decide) (Qc := Q_rm_txt Z rp ln_ cn_ x1 t1 kb1 nn1 us1 x2 t2 kb2 nn2 us2 fb mb da kd dt kt G1 h0) e159 (fun vm' hw' => ⟨x159, t159, kb159, cq157, us159, rfl, N159, KK162, (Nat.le_trans KK160.1 q159_0), (Nat.le_trans KK160.1 q159_1), q159_2, q159_3, q159_4, q159_5, q159_6, (ibWarm I134 hw')⟩)
  have f164 : Exa Z h134 a1 "java/lang/StringBuilder" := (q132_0.keep KK139)
  have f165 : Fld Z h134 a1 "java/lang/AbstractStringBuilder" "value" "[B" (.ref va6) := (q132_1.keep KK139 nin0)
  have f166 : Fld Z h134 a1 "java/lang/AbstractStringBuilder" "coder" "B" (.int (0 : Int32)) := (q132_2.keep KK139 nin0)
  have f167 : Fld Z h134 a1 "java/lang/AbstractStringBuilder" "count" "I" (.int cq132) := (q132_3.keep KK139 nin0)
  have f168 : Exa Z h134 va6 "[B" := (q132_4.keep KK139)
  refine Wk.callV X134 hx hZ134 (y := (⟨"java/lang/StringBuilder", "append", "(Ljava/lang/String;)Ljava/lang/StringBuilder;"⟩ : MethodName)) (z := (⟨"java/lang/StringBuilder", "append", "(Ljava/lang/String;)Ljava/lang/StringBuilder;"⟩ : MethodName)) ho134 (w 92 _ rfl) (w 93 _ rfl) (notFace_of_selects (args := #[]) (mvT hZ134 (w 95 _ rfl))) (w 95 _ rfl) (w 94 _ rfl) (by decide) (as' := [(.ref a134)]) (backOf (W := 0) (rm_sbapA l Z a0 hw [] a1 va6 kv6 (16 : Int32) cq132 vw132 a134 b134 kb134 (2 : Int32) _ (((((([] : List Int32) ++ fb) ++ ([58] : List Int32)) ++ db ln_) ++ ([58] : List Int32)) ++ db cn_) ([58, 32] : List Int32) G1 h134 O136 SG1 nG1 f164 f165 f166 f167 f168 f140 A134 C134 V134 B134 q132_6 (show Str [(.int (58 : Int32)), (.int (32 : Int32))] (2 : Int32) ([58, 32] : List Int32) from Str.map (bs := [58, 32]) rfl (by decide)) (own_16 (Nat.le_of_not_lt hg141)) (Nat.le_trans (Nat.le_trans (Nat.le_trans (Nat.le_of_eq O0.1.symm) O0.2.1) KK7.1) q6_0) (Nat.le_trans (Nat.le_trans (Nat.le_trans (Nat.le_of_eq O0.1.symm) O0.2.1) (Keep.refl h0 []).1) (Nat.le_of_eq g1))) hZ134 (w 96 _ rfl) (w 76 _ rfl) (by decide) (by decide)) e134 f164 (by rw [hml]; rfl) (rest := []) (lenOf pd41 rfl) rfl (Nat.le_of_eq rfl) (hb hby d12_40) rfl (by decide) (by decide) ?_
  intro T169 h169 v169 L169 X169 e169 hQ169
  obtain ⟨cq169, vw169, rfl, Nq169, K169, q169_0, q169_1, q169_2, q169_3, q169_4, q169_5, q169_6⟩ := hQ169
  have KK170 : Keep h0 h134 [] := ((KK93.trans K132 (allS (Or.inr (Nat.le_of_eq g1)) (allS (Or.inr (Nat.le_trans KK7.1 q6_0)) all0))).ext E134)
  have N169 := Fk.app N132 Nq169 KK170.1 (allS (Or.inr (Nat.le_of_eq g1)) (allS (Or.inr (Nat.le_trans KK7.1 q6_0)) all0))
  have O171 : Old Z Z.heap.size h169 := O136.keep K169 (allS (Nat.le_trans (Nat.le_trans (Nat.le_trans (Nat.le_of_eq O0.1.symm) O0.2.1) (Keep.refl h0 []).1) (Nat.le_of_eq g1)) (allS (Nat.le_trans (Nat.le_trans (Nat.le_trans (Nat.le_of_eq O0.1.symm) O0.2.1) KK7.1) q6_0) all0))
  show Wp p e below _ _ T169 (mkF m 43 #[.val (.ref rp)] [(.ref a1)])
  refine Wk.aloadN X169 hx (hb hby d12_43) rfl rfl rfl ?_
  have KK172 : Keep h0 h169 [] := (KK170.trans K169 (allS (Or.inr (Nat.le_of_eq g1)) (allS (Or.inr (Nat.le_trans KK7.1 q6_0)) all0)))
  have f173 : Fld Z h169 rp "com/example/lukko/lukko/RuleProblem" "message" "Ljava/lang/String;" (.ref x2) := (pr4_.keep KK172 nin0)
  refine Wk.getfield X169 hx hZ134 ho134 (host := "") (Or.inl (w 67 _ rfl)) Via.refl e169 f173 (hb hby d12_44) rfl ?_
  intro T174 X174 e174
  by_cases hg175 : 16 < ((((((([] : List Int32) ++ fb) ++ ([58] : List Int32)) ++ db ln_) ++ ([58] : List Int32)) ++ db cn_) ++ ([58, 32] : List Int32)).length + mb.length
  · skip
    have f176 : Exa Z h169 x2 "java/lang/String" := (pz0_.keep KK172)
    have f177 : Fld Z h169 x2 "java/lang/String" "coder" "B" (.int (0 : Int32)) := (pz1_.keep KK172 nin0)
    have f178 : Fld Z h169 x2 "java/lang/String" "value" "[B" (.ref t2) := (pz2_.keep KK172 nin0)
    have f179 := (pz3_.keep KK172 nin0)
    refine Wk.callV X174 hx hZ134 (y := (⟨"java/lang/StringBuilder", "append", "(Ljava/lang/String;)Ljava/lang/StringBuilder;"⟩ : MethodName)) (z := (⟨"java/lang/StringBuilder", "append", "(Ljava/lang/String;)Ljava/lang/StringBuilder;"⟩ : MethodName)) ho134 (w 92 _ rfl) (w 93 _ rfl) (notFace_of_selects (args := #[]) (mvT hZ134 (w 95 _ rfl))) (w 95 _ rfl) (w 94 _ rfl) (by decide) (as' := [(.ref x2)]) (backOf (W := 0) (rm_sbapB l Z a0 hw [] a1 va6 kv6 cq169 vw169 x2 t2 kb2 nn2 us2 ((((((([] : List Int32) ++ fb) ++ ([58] : List Int32)) ++ db ln_) ++ ([58] : List Int32)) ++ db cn_) ++ ([58, 32] : List Int32)) mb G1 h169 O171 SG1 nG1 q169_0 q169_1 q169_2 q169_3 q169_4 q169_5 f176 f177 f178 f179 q169_6 hS2 hg175 (own_t7 ln_ cn_ hf4 hm4) (Nat.le_trans (Nat.le_trans (Nat.le_trans (Nat.le_of_eq O0.1.symm) O0.2.1) (Keep.refl h0 []).1) (Nat.le_of_eq g1))) hZ134 (w 96 _ rfl) (w 76 _ rfl) (by decide) (by decide)) e174 q169_0 (by rw [hml]; rfl) (rest := []) (lenOf pd41 rfl) rfl (Nat.le_of_eq rfl) (hb hby d12_47) rfl (by decide) (by decide) ?_
    intro T180 h180 v180 L180 X180 e180 hQ180
    obtain ⟨vb180, kw180, cq180, vw180, rfl, Nq180, K180, q180_0, q180_1, q180_2, q180_3, q180_4, q180_5, q180_6, q180_7⟩ := hQ180
    have N180 := Fk.app N169 Nq180 KK172.1 (allS (Or.inr (Nat.le_of_eq g1)) all0)
    have O181 : Old Z Z.heap.size h180 := O171.keep K180 (allS (Nat.le_trans (Nat.le_trans (Nat.le_trans (Nat.le_of_eq O0.1.symm) O0.2.1) (Keep.refl h0 []).1) (Nat.le_of_eq g1)) all0)
    show Wp p e below _ _ T180 (mkF m 50 #[.val (.ref rp)] [(.ref a1)])
    refine Wk.callV X180 hx hZ134 (y := (⟨"java/lang/StringBuilder", "toString", "()Ljava/lang/String;"⟩ : MethodName)) (z := (⟨"java/lang/StringBuilder", "toString", "()Ljava/lang/String;"⟩ : MethodName)) ho134 (w 163 _ rfl) (w 164 _ rfl) (notFace_of_selects (args := #[]) (mvT hZ134 (w 166 _ rfl))) (w 166 _ rfl) (w 165 _ rfl) (by decide) (as' := []) (backOf (W := 0) (rm_tos l Z a0 hw [] a1 vb180 kw180 (34 : Int32) cq180 vw180 (((((((([] : List Int32) ++ fb) ++ ([58] : List Int32)) ++ db ln_) ++ ([58] : List Int32)) ++ db cn_) ++ ([58, 32] : List Int32)) ++ mb) G1 h180 O181 SG1 nG1 q180_1 q180_2 q180_3 q180_4 q180_5 q180_6 q180_7) hZ134 (w 167 _ rfl) (w 76 _ rfl) (by decide) (by decide)) e180 q180_1 (by rw [hml]; rfl) (rest := []) (lenOf pd43 rfl) rfl (Nat.le_of_eq rfl) (hb hby d12_50) rfl (by decide) (by decide) ?_
    intro T182 h182 v182 L182 X182 e182 hQ182
    obtain ⟨x182, t182, kb182, us182, rfl, Nq182, K182, q182_0, q182_1, q182_2, q182_3, q182_4, q182_5, q182_6⟩ := hQ182
    have KK183 : Keep h0 h180 [] := (KK172.trans K180 (allS (Or.inr (Nat.le_of_eq g1)) all0))
    have N182 := Fk.app N180 Nq182 KK183.1 all0
    have O184 : Old Z Z.heap.size h182 := O181.keep K182 all0
    show Wp p e below _ _ T182 (mkF m 53 #[.val (.ref rp)] [(.ref x182)])
    have KK185 : Keep h0 h182 [] := (KK183.trans K182 all0)
    have KK186 : Keep h134 h182 [a1, va6] := ((((Keep.refl h134 [a1, va6]).trans K169 (allS (Or.inl (List.mem_of_getElem? (i := 0) rfl)) (allS (Or.inl (List.mem_of_getElem? (i := 1) rfl)) all0))).trans K180 (allS (Or.inl (List.mem_of_getElem? (i := 0) rfl)) all0)).trans K182 all0)
    exact Wk.retAW X182 hx hS134 (Nat.le_trans (Nat.le_refl _) KK186.1) hlk hr rfl rfl (hb hby d12_53) (by decide) (by decide) (Qc := Q_rm_txt Z rp ln_ cn_ x1 t1 kb1 nn1 us1 x2 t2 kb2 nn2 us2 fb mb da kd dt kt G1 h0) e182 (fun vm' hw' => ⟨x182, t182, kb182, cq180, us182, rfl, N182, KK185, (Nat.le_trans KK183.1 q182_0), (Nat.le_trans KK183.1 q182_1), q182_2, q182_3, q182_4, q182_5, q182_6, (ibWarm I134 hw')⟩)
  have f187 : Exa Z h169 x2 "java/lang/String" := (pz0_.keep KK172)
  have f188 : Fld Z h169 x2 "java/lang/String" "coder" "B" (.int (0 : Int32)) := (pz1_.keep KK172 nin0)
  have f189 : Fld Z h169 x2 "java/lang/String" "value" "[B" (.ref t2) := (pz2_.keep KK172 nin0)
  have f190 := (pz3_.keep KK172 nin0)
  refine Wk.callV X174 hx hZ134 (y := (⟨"java/lang/StringBuilder", "append", "(Ljava/lang/String;)Ljava/lang/StringBuilder;"⟩ : MethodName)) (z := (⟨"java/lang/StringBuilder", "append", "(Ljava/lang/String;)Ljava/lang/StringBuilder;"⟩ : MethodName)) ho134 (w 92 _ rfl) (w 93 _ rfl) (notFace_of_selects (args := #[]) (mvT hZ134 (w 95 _ rfl))) (w 95 _ rfl) (w 94 _ rfl) (by decide) (as' := [(.ref x2)]) (backOf (W := 0) (rm_sbapA l Z a0 hw [] a1 va6 kv6 (16 : Int32) cq169 vw169 x2 t2 kb2 nn2 us2 ((((((([] : List Int32) ++ fb) ++ ([58] : List Int32)) ++ db ln_) ++ ([58] : List Int32)) ++ db cn_) ++ ([58, 32] : List Int32)) mb G1 h169 O171 SG1 nG1 q169_0 q169_1 q169_2 q169_3 q169_4 q169_5 f187 f188 f189 f190 q169_6 hS2 (own_16 (Nat.le_of_not_lt hg175)) (Nat.le_trans (Nat.le_trans (Nat.le_trans (Nat.le_of_eq O0.1.symm) O0.2.1) KK7.1) q6_0) (Nat.le_trans (Nat.le_trans (Nat.le_trans (Nat.le_of_eq O0.1.symm) O0.2.1) (Keep.refl h0 []).1) (Nat.le_of_eq g1))) hZ134 (w 96 _ rfl) (w 76 _ rfl) (by decide) (by decide)) e174 q169_0 (by rw [hml]; rfl) (rest := []) (lenOf pd41 rfl) rfl (Nat.le_of_eq rfl) (hb hby d12_47) rfl (by decide) (by decide) ?_
  intro T191 h191 v191 L191 X191 e191 hQ191
  obtain ⟨cq191, vw191, rfl, Nq191, K191, q191_0, q191_1, q191_2, q191_3, q191_4, q191_5, q191_6⟩ := hQ191
  have N191 := Fk.app N169 Nq191 KK172.1 (allS (Or.inr (Nat.le_of_eq g1)) (allS (Or.inr (Nat.le_trans KK7.1 q6_0)) all0))
  have O192 : Old Z Z.heap.size h191 := O171.keep K191 (allS (Nat.le_trans (Nat.le_trans (Nat.le_trans (Nat.le_of_eq O0.1.symm) O0.2.1) (Keep.refl h0 []).1) (Nat.le_of_eq g1)) (allS (Nat.le_trans (Nat.le_trans (Nat.le_trans (Nat.le_of_eq O0.1.symm) O0.2.1) KK7.1) q6_0) all0))
  show Wp p e below _ _ T191 (mkF m 50 #[.val (.ref rp)] [(.ref a1)])
  refine Wk.callV X191 hx hZ134 (y := (⟨"java/lang/StringBuilder", "toString", "()Ljava/lang/String;"⟩ : MethodName)) (z := (⟨"java/lang/StringBuilder", "toString", "()Ljava/lang/String;"⟩ : MethodName)) ho134 (w 163 _ rfl) (w 164 _ rfl) (notFace_of_selects (args := #[]) (mvT hZ134 (w 166 _ rfl))) (w 166 _ rfl) (w 165 _ rfl) (by decide) (as' := []) (backOf (W := 0) (rm_tos l Z a0 hw [] a1 va6 kv6 (16 : Int32) cq191 vw191 (((((((([] : List Int32) ++ fb) ++ ([58] : List Int32)) ++ db ln_) ++ ([58] : List Int32)) ++ db cn_) ++ ([58, 32] : List Int32)) ++ mb) G1 h191 O192 SG1 nG1 q191_0 q191_1 q191_2 q191_3 q191_4 q191_5 q191_6) hZ134 (w 167 _ rfl) (w 76 _ rfl) (by decide) (by decide)) e191 q191_0 (by rw [hml]; rfl) (rest := []) (lenOf pd43 rfl) rfl (Nat.le_of_eq rfl) (hb hby d12_50) rfl (by decide) (by decide) ?_
  intro T193 h193 v193 L193 X193 e193 hQ193
  obtain ⟨x193, t193, kb193, us193, rfl, Nq193, K193, q193_0, q193_1, q193_2, q193_3, q193_4, q193_5, q193_6⟩ := hQ193
  have KK194 : Keep h0 h191 [] := (KK172.trans K191 (allS (Or.inr (Nat.le_of_eq g1)) (allS (Or.inr (Nat.le_trans KK7.1 q6_0)) all0)))
  have N193 := Fk.app N191 Nq193 KK194.1 all0
  have O195 : Old Z Z.heap.size h193 := O192.keep K193 all0
  show Wp p e below _ _ T193 (mkF m 53 #[.val (.ref rp)] [(.ref x193)])
  have KK196 : Keep h0 h193 [] := (KK194.trans K193 all0)
  have KK197 : Keep h134 h193 [a1, va6] := ((((Keep.refl h134 [a1, va6]).trans K169 (allS (Or.inl (List.mem_of_getElem? (i := 0) rfl)) (allS (Or.inl (List.mem_of_getElem? (i := 1) rfl)) all0))).trans K191 (allS (Or.inl (List.mem_of_getElem? (i := 0) rfl)) (allS (Or.inl (List.mem_of_getElem? (i := 1) rfl)) all0))).trans K193 all0)
  exact Wk.retAW X193 hx hS134 (Nat.le_trans (Nat.le_refl _) KK197.1) hlk hr rfl rfl (hb hby d12_53) (by decide) (by decide) (Qc := Q_rm_txt Z rp ln_ cn_ x1 t1 kb1 nn1 us1 x2 t2 kb2 nn2 us2 fb mb da kd dt kt G1 h0) e193 (fun vm' hw' => ⟨x193, t193, kb193, cq191, us193, rfl, N193, KK196, (Nat.le_trans KK194.1 q193_0), (Nat.le_trans KK194.1 q193_1), q193_2, q193_3, q193_4, q193_5, q193_6, (ibWarm I134 hw')⟩)
theorem pd44 : parseMethodDescriptor "(J)[C" = some ⟨[.long], some (.array .char)⟩ := by decide +kernel
theorem pd45 : parseMethodDescriptor "([CI)Ljava/lang/String;" = some ⟨[(.array .char), .int], some (.object "java/lang/String")⟩ := by decide +kernel
theorem pd46 : parseMethodDescriptor "(Ljava/lang/String;IILjava/lang/String;)V" = some ⟨[(.object "java/lang/String"), .int, .int, (.object "java/lang/String")], none⟩ := by decide +kernel
theorem pd47 : parseMethodDescriptor "(I)C" = some ⟨[.int], some .char⟩ := by decide +kernel
theorem pd48 : parseMethodDescriptor "([CIIIII[CI)C" = some ⟨[(.array .char), .int, .int, .int, .int, .int, (.array .char), .int], some .char⟩ := by decide +kernel
def Q_rm_law (Z : State) (f_ : Int64) (ln_ : Int32) (cn_ : Int32) (m_ : Int64) (k_ : Int32) (G1 : Int32) (G3 : Value) (da : Addr) (kd : ClassId) (dt : Addr) (kt : ClassId) (h0 : Heap) (v : Option Value) (vm : Vm) (h : Heap) (L : List Loc) : Prop := v = some (.int (1 : Int32)) ∧ Fk h0.size [] L ∧ Keep h0 h []
set_option maxRecDepth 65536 in
set_option maxHeartbeats 40000000 in
theorem rm_law (l : Launch) (Z : State) (a0 : Array Value) (hw : ∀ d ∈ tables_1, d.before a0 Z = true) (ws : List Jvm.Cond) (f_ : Int64) (ln_ : Int32) (cn_ : Int32) (m_ : Int64) (k_ : Int32) (G1 : Int32) (G3 : Value) (da : Addr) (kd : ClassId) (dt : Addr) (kt : ClassId) (h0 : Heap) (O0 : Old Z Z.heap.size h0) (hcw : Jvm.Lit.compactW.before a0 Z = true) (hheld : ∀ d ∈ consts_1, Jvm.Lit.constHeld Z d.1 d.2) (SG1 : Sta Z Z.heap "java/lang/String" "COMPACT_STRINGS" "Z" (.int G1)) (nG1 : ¬ G1 = 0) (rG3 : G3.isRef = true) (SG3 : Sta Z Z.heap "jdk/internal/util/Preconditions" "SIOOBE_FORMATTER" "Ljava/util/function/BiFunction;" G3) (sO : Sta Z Z.heap "java/lang/Integer" "DigitOnes" "[B" (.ref da)) (pO : Arv Z h0 da kd .byte (100 : Int32) ones (.int (0 : Int32))) (sN : Sta Z Z.heap "java/lang/Integer" "DigitTens" "[B" (.ref dt)) (pN : Arv Z h0 dt kt .byte (100 : Int32) tens (.int (0 : Int32))) :
    CtrW l Z x code maxLocals ret ws room_1 #[(.long f_), (.int ln_), (.int cn_), (.long m_), (.int k_)] h0 (fun vm => IB Z vm []) (Q_rm_law Z f_ ln_ cn_ m_ k_ G1 G3 da kd dt kt h0) := by
  refine CtrW.intro (Ls := fun _ => #[.val (.long f_), .second, .val (.int ln_), .val (.int cn_), .val (.long m_), .second, .val (.int k_), .unset, .unset, .unset, .unset, .unset, .unset, .unset, .unset, .unset, .unset, .unset]) (plainFor_of_name pn31) (fun m => by first | rfl | (simp [entryFrame, mkF, argsToLocals, Value.category, maxLocals]; done)) ?_
  intro p e s m below meth c s₁ vm hx hby hml hr hlk hZ hown hnm hs0 X0 e0 hS hPv
  have I0 := hPv
  have w : ∀ (k : Nat) (d : Jvm.Cond), tables_1[k]? = some d → d.before a0 Z = true := fun k d q => hw d (List.mem_of_getElem? q)
  have N0 := Fk.nil h0.size []
  refine Wk.lloadN X0 hx (hb hby at_0) rfl rfl ?_
  refine Wk.ldc2Long X0 hx hZ hown (w 0 _ rfl) (hb hby at_1) rfl ?_
  refine Wk.land X0 hx (hb hby at_4) rfl ?_
  refine Wk.ldc2Long X0 hx hZ hown (w 1 _ rfl) (hb hby at_5) rfl ?_
  refine Wk.lrem X0 hx (hb hby at_8) rfl (by decide) ?_
  refine Wk.l2i X0 hx (hb hby at_9) rfl ?_
  refine Wk.istoreA X0 hx (Ls' := fun z => #[.val (.long f_), .second, .val (.int ln_), .val (.int cn_), .val (.long m_), .second, .val (.int k_), .val (.int z), .unset, .unset, .unset, .unset, .unset, .unset, .unset, .unset, .unset, .unset]) (hb hby at_10) rfl (fun _ => rfl) ?_
  intro i1 hi1
  show Wp p e below _ _ s₁ (mkF m 12 #[.val (.long f_), .second, .val (.int ln_), .val (.int cn_), .val (.long m_), .second, .val (.int k_), .val (.int i1), .unset, .unset, .unset, .unset, .unset, .unset, .unset, .unset, .unset, .unset] [])
  refine Wk.lload X0 hx (hb hby at_12) rfl rfl ?_
  refine Wk.ldc2Long X0 hx hZ hown (w 0 _ rfl) (hb hby at_14) rfl ?_
  refine Wk.land X0 hx (hb hby at_17) rfl ?_
  refine Wk.ldc2Long X0 hx hZ hown (w 1 _ rfl) (hb hby at_18) rfl ?_
  refine Wk.lrem X0 hx (hb hby at_21) rfl (by decide) ?_
  refine Wk.l2i X0 hx (hb hby at_22) rfl ?_
  refine Wk.istoreA X0 hx (Ls' := fun z => #[.val (.long f_), .second, .val (.int ln_), .val (.int cn_), .val (.long m_), .second, .val (.int k_), .val (.int i1), .val (.int z), .unset, .unset, .unset, .unset, .unset, .unset, .unset, .unset, .unset]) (hb hby at_23) rfl (fun _ => rfl) ?_
  intro i2 hi2
  show Wp p e below _ _ s₁ (mkF m 25 #[.val (.long f_), .second, .val (.int ln_), .val (.int cn_), .val (.long m_), .second, .val (.int k_), .val (.int i1), .val (.int i2), .unset, .unset, .unset, .unset, .unset, .unset, .unset, .unset, .unset] [])
  have hF5 : L5 i1 := own_fl hi1
  have hM5 : L5 i2 := own_fl hi2
  refine Wk.lloadN X0 hx (hb hby at_25) rfl rfl ?_
  refine Wk.callS X0 hx hZ hown (w 2 _ rfl) (w 3 _ rfl) (w 4 _ rfl) (w 5 _ rfl) (by decide) (as' := [(.long f_)]) (backOf (W := 0) (rm_chs l Z a0 hw [] f_ h0 O0) hZ (w 5 _ rfl) (w 4 _ rfl) (by decide) (by decide)) e0 (by rw [hml]; rfl) (rest := []) (lenOf pd44 rfl) rfl (Nat.le_of_eq rfl) (hb hby at_26) rfl (by decide) (by decide) ?_
  intro T3 h3 v3 L3 X3 e3 hQ3
  obtain ⟨ca3, kc3, c03, c13, c23, c33, rfl, Nq3, K3, q3_0, q3_1, q3_2, q3_3, q3_4, q3_5⟩ := hQ3
  have N3 := Fk.app N0 Nq3 (Nat.le_refl _) all0
  have O4 : Old Z Z.heap.size h3 := O0.keep K3 all0
  show Wp p e below _ _ T3 (mkF m 29 #[.val (.long f_), .second, .val (.int ln_), .val (.int cn_), .val (.long m_), .second, .val (.int k_), .val (.int i1), .val (.int i2), .unset, .unset, .unset, .unset, .unset, .unset, .unset, .unset, .unset] [(.ref ca3)])
  refine Wk.astore X3 hx (Ls' := #[.val (.long f_), .second, .val (.int ln_), .val (.int cn_), .val (.long m_), .second, .val (.int k_), .val (.int i1), .val (.int i2), .val (.ref ca3), .unset, .unset, .unset, .unset, .unset, .unset, .unset, .unset]) (hb hby at_29) rfl rfl rfl ?_
  refine Wk.lload X3 hx (hb hby at_31) rfl rfl ?_
  refine Wk.callS X3 hx hZ hown (w 2 _ rfl) (w 3 _ rfl) (w 4 _ rfl) (w 5 _ rfl) (by decide) (as' := [(.long m_)]) (backOf (W := 0) (rm_chs l Z a0 hw [] m_ h3 O4) hZ (w 5 _ rfl) (w 4 _ rfl) (by decide) (by decide)) e3 (by rw [hml]; rfl) (rest := []) (lenOf pd44 rfl) rfl (Nat.le_of_eq rfl) (hb hby at_33) rfl (by decide) (by decide) ?_
  intro T5 h5 v5 L5 X5 e5 hQ5
  obtain ⟨ca5, kc5, c05, c15, c25, c35, rfl, Nq5, K5, q5_0, q5_1, q5_2, q5_3, q5_4, q5_5⟩ := hQ5
  have KK6 : Keep h0 h3 [] := ((Keep.refl h0 []).trans K3 all0)
  have N5 := Fk.app N3 Nq5 KK6.1 all0
  have O7 : Old Z Z.heap.size h5 := O4.keep K5 all0
  show Wp p e below _ _ T5 (mkF m 36 #[.val (.long f_), .second, .val (.int ln_), .val (.int cn_), .val (.long m_), .second, .val (.int k_), .val (.int i1), .val (.int i2), .val (.ref ca3), .unset, .unset, .unset, .unset, .unset, .unset, .unset, .unset] [(.ref ca5)])
  refine Wk.astore X5 hx (Ls' := #[.val (.long f_), .second, .val (.int ln_), .val (.int cn_), .val (.long m_), .second, .val (.int k_), .val (.int i1), .val (.int i2), .val (.ref ca3), .val (.ref ca5), .unset, .unset, .unset, .unset, .unset, .unset, .unset]) (hb hby at_36) rfl rfl rfl ?_
  by_cases hz8 : i1 = (0 : Int32)
  · skip
    refine Wk.aload X5 hx (hb hby at_38) rfl rfl rfl ?_
    refine Wk.iload X5 hx (hb hby at_40) rfl rfl ?_
    have KK10 : Keep h0 h5 [] := (KK6.trans K5 all0)
    refine Wk.callSW X5 hx hS (Nat.le_trans (Nat.le_refl _) KK10.1) hZ hown (w 8 _ rfl) (w 9 _ rfl) (w 4 _ rfl) (w 10 _ rfl) (by decide) (as' := [(.ref ca3), (.int i1)]) (payW (W := 0) (rm_strN l Z a0 hw [] ca3 i1 h5 O7 hcw hheld hz8) (s := s.setVm vm) hZ (w 10 _ rfl) (w 4 _ rfl) (by decide) (by decide) (fun _ q => ibWarm I0 q)) e5 (by rw [hml]; rfl) (rest := []) (lenOf pd45 rfl) rfl (Nat.le_of_eq rfl) (hb hby at_42) rfl (by decide) (by decide) ?_
    intro T9 h9 v9 L9 vm9 X9 e9 hS9 hZ9 ho9 w39_9 hQ9
    obtain ⟨x9, la9, lt9, lk9, rfl, Nq9, K9, q9_0, q9_1, q9_2, q9_3, q9_4, q9_5, q9_6, q9_7, y9_0, y9_1⟩ := hQ9
    have N9 := Fk.app N5 Nq9 KK10.1 all0
    have O11 : Old Z Z.heap.size h9 := O7.keep K9 all0
    show Wp p e below _ _ T9 (mkF m 45 #[.val (.long f_), .second, .val (.int ln_), .val (.int cn_), .val (.long m_), .second, .val (.int k_), .val (.int i1), .val (.int i2), .val (.ref ca3), .val (.ref ca5), .unset, .unset, .unset, .unset, .unset, .unset, .unset] [(.ref x9)])
    refine Wk.astore X9 hx (Ls' := #[.val (.long f_), .second, .val (.int ln_), .val (.int cn_), .val (.long m_), .second, .val (.int k_), .val (.int i1), .val (.int i2), .val (.ref ca3), .val (.ref ca5), .val (.ref x9), .unset, .unset, .unset, .unset, .unset, .unset]) (hb hby at_45) rfl rfl rfl ?_
    by_cases hz12 : i2 = (0 : Int32)
    · skip
      refine Wk.aload X9 hx (hb hby at_47) rfl rfl rfl ?_
      refine Wk.iload X9 hx (hb hby at_49) rfl rfl ?_
      refine Wk.callSW X9 hx hS9 (Nat.le_refl _) hZ9 ho9 (w 8 _ rfl) (w 9 _ rfl) (w 4 _ rfl) (w 10 _ rfl) (by decide) (as' := [(.ref ca5), (.int i2)]) (payW (W := 0) (rm_strO l Z a0 hw [] ca5 i2 la9 lt9 lk9 h9 O11 hcw hheld hz12 q9_4 q9_5 q9_6 q9_7) (s := s.setVm vm9) hZ9 (w 10 _ rfl) (w 4 _ rfl) (by decide) (by decide) (fun _ q => ⟨ibWarm y9_0 q, y9_1.warm q.wide⟩)) e9 (by rw [hml]; rfl) (rest := []) (lenOf pd45 rfl) rfl (Nat.le_of_eq rfl) (hb hby at_51) rfl (by decide) (by decide) ?_
      intro T13 h13 v13 L13 vm13 X13 e13 hS13 hZ13 ho13 w39_13 hQ13
      obtain ⟨x13, rfl, Nq13, K13, q13_0, q13_1, q13_2, q13_3, q13_4, q13_5, q13_6, q13_7, y13_0, y13_1⟩ := hQ13
      have KK14 : Keep h0 h9 [] := (KK10.trans K9 all0)
      have N13 := Fk.app N9 Nq13 KK14.1 all0
      have O15 : Old Z Z.heap.size h13 := O11.keep K13 all0
      show Wp p e below _ _ T13 (mkF m 54 #[.val (.long f_), .second, .val (.int ln_), .val (.int cn_), .val (.long m_), .second, .val (.int k_), .val (.int i1), .val (.int i2), .val (.ref ca3), .val (.ref ca5), .val (.ref x9), .unset, .unset, .unset, .unset, .unset, .unset] [(.ref x13)])
      refine Wk.astore X13 hx (Ls' := #[.val (.long f_), .second, .val (.int ln_), .val (.int cn_), .val (.long m_), .second, .val (.int k_), .val (.int i1), .val (.int i2), .val (.ref ca3), .val (.ref ca5), .val (.ref x9), .val (.ref x13), .unset, .unset, .unset, .unset, .unset]) (hb hby at_54) rfl rfl rfl ?_
      refine Wk.new X13 hx hZ13 ho13 (w 43 _ rfl) (w 44 _ rfl) (w 45 _ rfl) e13 (hb hby at_56) rfl (by decide) (by decide) ?_
      intro T16 h16 a16 g16 X16 e16 E16 A16 D16
      have O17 : Old Z Z.heap.size h16 := O15.ext E16
      have f18 : Fld Z h16 a16 "com/example/lukko/lukko/RuleProblem" "file" "Ljava/lang/String;" .null := D16 (Or.inr (w 62 _ rfl)) (ty := (.object "java/lang/String")) (by decide)
      have f19 : Fld Z h16 a16 "com/example/lukko/lukko/RuleProblem" "line" "I" (.int (0 : Int32)) := D16 (Or.inr (w 64 _ rfl)) (ty := .int) (by decide)
      have f20 : Fld Z h16 a16 "com/example/lukko/lukko/RuleProblem" "column" "I" (.int (0 : Int32)) := D16 (Or.inr (w 66 _ rfl)) (ty := .int) (by decide)
      have f21 : Fld Z h16 a16 "com/example/lukko/lukko/RuleProblem" "message" "Ljava/lang/String;" .null := D16 (Or.inr (w 68 _ rfl)) (ty := (.object "java/lang/String")) (by decide)
      refine Wk.dup X16 hx (hb hby at_59) rfl rfl ?_
      refine Wk.aload X16 hx (hb hby at_60) rfl rfl rfl ?_
      refine Wk.iloadN X16 hx (hb hby at_62) rfl rfl ?_
      refine Wk.iloadN X16 hx (hb hby at_63) rfl rfl ?_
      refine Wk.aload X16 hx (hb hby at_64) rfl rfl rfl ?_
      have KK22 : Keep h0 h13 [] := (KK14.trans K13 all0)
      have KK24 : Keep h13 h16 [] := ((Keep.refl h13 []).ext E16)
      refine Wk.callIW X16 hx hS13 (Nat.le_trans (Nat.le_refl _) KK24.1) hZ13 rfl ho13 (w 46 _ rfl) (w 47 _ rfl) (w 48 _ rfl) (by decide) (as' := [(.ref x9), (.int ln_), (.int cn_), (.ref x13)]) (payW (W := 1) (rm_rpi l Z a0 hw [] a16 x9 ln_ cn_ x13 h16 O17 hcw hheld A16 f18 f19 f20 f21 (Nat.le_trans (Nat.le_trans (Nat.le_trans (Nat.le_of_eq O0.1.symm) O0.2.1) KK22.1) (Nat.le_of_eq g16))) (s := s.setVm vm13) hZ13 (w 48 _ rfl) (w 45 _ rfl) (by decide) (by decide) (fun _ q => ibWarm y13_0 q)) e16 (by rw [hml]; rfl) (rest := [(.ref a16)]) (lenOf pd46 rfl) rfl (Nat.le_of_eq rfl) (hb hby at_66) rfl (by decide) (by decide) ?_
      intro T23 h23 v23 L23 vm23 X23 e23 hS23 hZ23 ho23 w39_23 hQ23
      obtain ⟨rfl, Nq23, K23, q23_0, q23_1, q23_2, q23_3, q23_4, y23_0⟩ := hQ23
      have KK25 : Keep h0 h16 [] := (KK22.ext E16)
      have N23 := Fk.app N13 Nq23 KK25.1 (allS (Or.inr (Nat.le_trans KK22.1 (Nat.le_of_eq g16))) all0)
      have O26 : Old Z Z.heap.size h23 := O17.keep K23 (allS (Nat.le_trans (Nat.le_trans (Nat.le_trans (Nat.le_of_eq O0.1.symm) O0.2.1) KK22.1) (Nat.le_of_eq g16)) all0)
      have lv27 : LitV Z vm23 "java/lang/String" 7 la9 := LitV.warm (s := s) y13_1 w39_23
      show Wp p e below _ _ T23 (mkF m 69 #[.val (.long f_), .second, .val (.int ln_), .val (.int cn_), .val (.long m_), .second, .val (.int k_), .val (.int i1), .val (.int i2), .val (.ref ca3), .val (.ref ca5), .val (.ref x9), .val (.ref x13), .unset, .unset, .unset, .unset, .unset] [(.ref a16)])
      have KK28 : Keep h9 h13 [] := ((Keep.refl h9 []).trans K13 all0)
      have KK29 : Keep h9 h23 [] := ((((Keep.refl h9 []).trans K13 all0).ext E16).trans K23 (allS (Or.inr (Nat.le_trans KK28.1 (Nat.le_of_eq g16))) all0))
      have f30 : Exa Z h23 x9 "java/lang/String" := (q9_1.keep KK29)
      have f31 : Fld Z h23 x9 "java/lang/String" "coder" "B" (.int (0 : Int32)) := (q9_2.keep KK29 nin0)
      have f32 : Fld Z h23 x9 "java/lang/String" "value" "[B" (.ref lt9) := (q9_3.keep KK29 nin0)
      have KK33 : Keep h13 h23 [] := (KK24.trans K23 (allS (Or.inr (Nat.le_of_eq g16)) all0))
      have f34 := (q13_7.keep KK33 nin0)
      have f35 : Exa Z h23 x13 "java/lang/String" := (q13_1.keep KK33)
      have f36 : Fld Z h23 x13 "java/lang/String" "coder" "B" (.int (0 : Int32)) := (q13_2.keep KK33 nin0)
      have f37 : Fld Z h23 x13 "java/lang/String" "value" "[B" (.ref lt9) := (q13_3.keep KK33 nin0)
      have KK38 : Keep h0 h23 [] := (KK25.trans K23 (allS (Or.inr (Nat.le_trans KK22.1 (Nat.le_of_eq g16))) all0))
      have f39 := (pO.keep KK38 nin0)
      have f40 := (pN.keep KK38 nin0)
      refine Wk.callVW X23 hx hS23 (Nat.le_refl _) hZ23 (y := (⟨"com/example/lukko/lukko/RuleProblem", "text", "()Ljava/lang/String;"⟩ : MethodName)) (z := (⟨"com/example/lukko/lukko/RuleProblem", "text", "()Ljava/lang/String;"⟩ : MethodName)) ho23 (w 69 _ rfl) (w 70 _ rfl) (notFace_of_selects (args := #[]) (mvT hZ23 (w 72 _ rfl))) (w 72 _ rfl) (w 71 _ rfl) (by decide) (as' := []) (payW (W := 0) (rm_txt l Z a0 hw [] a16 ln_ cn_ x9 lt9 lk9 (0 : Int32) [] x13 lt9 lk9 (0 : Int32) [] (sb4 c03 c13 c23 c33 i1.toNatClampNeg) (sb4 c05 c15 c25 c35 i2.toNatClampNeg) da kd dt kt G1 h23 O26 hcw hheld SG1 nG1 q23_0 q23_1 q23_2 q23_3 q23_4 f30 f31 f32 f34 f35 f36 f37 f34 sO f39 sN f40 (str_0 (c0 := c03) (c1 := c13) (c2 := c23) (c3 := c33) hz8) (str_0 (c0 := c05) (c1 := c15) (c2 := c25) (c3 := c35) hz12) (sb4_le _ _ _ _ _) (sb4_le _ _ _ _ _)) (s := s.setVm vm23) hZ23 (w 73 _ rfl) (w 45 _ rfl) (by decide) (by decide) (fun _ q => ibWarm y23_0 q)) e23 q23_0 (by rw [hml]; rfl) (rest := []) (lenOf pd43 rfl) rfl (Nat.le_of_eq rfl) (hb hby at_69) rfl (by decide) (by decide) ?_
      intro T41 h41 v41 L41 vm41 X41 e41 hS41 hZ41 ho41 w39_41 hQ41
      obtain ⟨x41, t41, kb41, nn41, us41, rfl, Nq41, K41, q41_0, q41_1, q41_2, q41_3, q41_4, q41_5, q41_6, y41_0⟩ := hQ41
      have N41 := Fk.app N23 Nq41 KK38.1 all0
      have O42 : Old Z Z.heap.size h41 := O26.keep K41 all0
      have lv43 : LitV Z vm41 "java/lang/String" 7 la9 := LitV.warm (s := s) lv27 w39_41
      show Wp p e below _ _ T41 (mkF m 72 #[.val (.long f_), .second, .val (.int ln_), .val (.int cn_), .val (.long m_), .second, .val (.int k_), .val (.int i1), .val (.int i2), .val (.ref ca3), .val (.ref ca5), .val (.ref x9), .val (.ref x13), .unset, .unset, .unset, .unset, .unset] [(.ref x41)])
      refine Wk.astore X41 hx (Ls' := #[.val (.long f_), .second, .val (.int ln_), .val (.int cn_), .val (.long m_), .second, .val (.int k_), .val (.int i1), .val (.int i2), .val (.ref ca3), .val (.ref ca5), .val (.ref x9), .val (.ref x13), .val (.ref x41), .unset, .unset, .unset, .unset]) (hb hby at_72) rfl rfl rfl ?_
      refine Wk.iloadN X41 hx (hb hby at_74) rfl rfl ?_
      refine Wk.callS X41 hx hZ41 ho41 (w 204 _ rfl) (w 205 _ rfl) (w 4 _ rfl) (w 206 _ rfl) (by decide) (as' := [(.int ln_)]) (backOf (W := 0) (rm_dln l Z a0 hw [] ln_ h41 O42) hZ41 (w 206 _ rfl) (w 4 _ rfl) (by decide) (by decide)) e41 (by rw [hml]; rfl) (rest := []) (lenOf pd11 rfl) rfl (Nat.le_of_eq rfl) (hb hby at_75) rfl (by decide) (by decide) ?_
      intro T44 h44 v44 L44 X44 e44 hQ44
      obtain ⟨r44, rfl, Nq44, K44, q44_0⟩ := hQ44
      have KK45 : Keep h0 h41 [] := (KK38.trans K41 all0)
      have N44 := Fk.app N41 Nq44 KK45.1 all0
      rw [K44] at e44
      show Wp p e below _ _ T44 (mkF m 78 #[.val (.long f_), .second, .val (.int ln_), .val (.int cn_), .val (.long m_), .second, .val (.int k_), .val (.int i1), .val (.int i2), .val (.ref ca3), .val (.ref ca5), .val (.ref x9), .val (.ref x13), .val (.ref x41), .unset, .unset, .unset, .unset] [(.int r44)])
      refine Wk.istore X44 hx (Ls' := #[.val (.long f_), .second, .val (.int ln_), .val (.int cn_), .val (.long m_), .second, .val (.int k_), .val (.int i1), .val (.int i2), .val (.ref ca3), .val (.ref ca5), .val (.ref x9), .val (.ref x13), .val (.ref x41), .val (.int r44), .unset, .unset, .unset]) (hb hby at_78) rfl rfl ?_
      refine Wk.iloadN X44 hx (hb hby at_80) rfl rfl ?_
      refine Wk.callS X44 hx hZ41 ho41 (w 204 _ rfl) (w 205 _ rfl) (w 4 _ rfl) (w 206 _ rfl) (by decide) (as' := [(.int cn_)]) (backOf (W := 0) (rm_dln l Z a0 hw [] cn_ h41 O42) hZ41 (w 206 _ rfl) (w 4 _ rfl) (by decide) (by decide)) e44 (by rw [hml]; rfl) (rest := []) (lenOf pd11 rfl) rfl (Nat.le_of_eq rfl) (hb hby at_81) rfl (by decide) (by decide) ?_
      intro T46 h46 v46 L46 X46 e46 hQ46
      obtain ⟨r46, rfl, Nq46, K46, q46_0⟩ := hQ46
      have N46 := Fk.app N44 Nq46 KK45.1 all0
      rw [K46] at e46
      show Wp p e below _ _ T46 (mkF m 84 #[.val (.long f_), .second, .val (.int ln_), .val (.int cn_), .val (.long m_), .second, .val (.int k_), .val (.int i1), .val (.int i2), .val (.ref ca3), .val (.ref ca5), .val (.ref x9), .val (.ref x13), .val (.ref x41), .val (.int r44), .unset, .unset, .unset] [(.int r46)])
      refine Wk.istore X46 hx (Ls' := #[.val (.long f_), .second, .val (.int ln_), .val (.int cn_), .val (.long m_), .second, .val (.int k_), .val (.int i1), .val (.int i2), .val (.ref ca3), .val (.ref ca5), .val (.ref x9), .val (.ref x13), .val (.ref x41), .val (.int r44), .val (.int r46), .unset, .unset]) (hb hby at_84) rfl rfl ?_
      refine Wk.iload X46 hx (hb hby at_86) rfl rfl ?_
      refine Wk.iload X46 hx (hb hby at_88) rfl rfl ?_
      refine Wk.iadd X46 hx (hb hby at_90) rfl ?_
      refine Wk.iload X46 hx (hb hby at_91) rfl rfl ?_
      refine Wk.iadd X46 hx (hb hby at_93) rfl ?_
      refine Wk.iload X46 hx (hb hby at_94) rfl rfl ?_
      refine Wk.iadd X46 hx (hb hby at_96) rfl ?_
      refine Wk.iconst X46 hx (v := (4 : Int32)) (hb hby at_97) rfl rfl ?_
      refine Wk.iadd X46 hx (hb hby at_98) rfl ?_
      refine Wk.istoreA X46 hx (Ls' := fun z => #[.val (.long f_), .second, .val (.int ln_), .val (.int cn_), .val (.long m_), .second, .val (.int k_), .val (.int i1), .val (.int i2), .val (.ref ca3), .val (.ref ca5), .val (.ref x9), .val (.ref x13), .val (.ref x41), .val (.int r44), .val (.int r46), .val (.int z), .unset]) (hb hby at_99) rfl (fun _ => rfl) ?_
      intro i47 hi47
      show Wp p e below _ _ T46 (mkF m 101 #[.val (.long f_), .second, .val (.int ln_), .val (.int cn_), .val (.long m_), .second, .val (.int k_), .val (.int i1), .val (.int i2), .val (.ref ca3), .val (.ref ca5), .val (.ref x9), .val (.ref x13), .val (.ref x41), .val (.int r44), .val (.int r46), .val (.int i47), .unset] [])
      have hN : i47.toInt = ((txt (sb4 c03 c13 c23 c33 i1.toNatClampNeg) ln_ cn_ (sb4 c05 c15 c25 c35 i2.toNatClampNeg)).length : Int) := own_len hF5 hM5 q44_0 q46_0 hi47
      refine Wk.aload X46 hx (hb hby at_101) rfl rfl rfl ?_
      refine Wk.callV X46 hx hZ41 (y := (⟨"java/lang/String", "length", "()I"⟩ : MethodName)) (z := (⟨"java/lang/String", "length", "()I"⟩ : MethodName)) ho41 (w 211 _ rfl) (w 103 _ rfl) (notFace_of_selects (args := #[]) (mvT hZ41 (w 105 _ rfl))) (w 105 _ rfl) (w 104 _ rfl) (by decide) (as' := []) (backOf (W := 0) (rm_len l Z a0 hw [] x41 t41 kb41 nn41 us41 G1 h41 O42 SG1 nG1 q41_2 q41_3 q41_4 q41_5) hZ41 (w 106 _ rfl) (w 13 _ rfl) (by decide) (by decide)) e46 q41_2 (by rw [hml]; rfl) (rest := []) (lenOf pd15 rfl) rfl (Nat.le_of_eq rfl) (hb hby at_103) rfl (by decide) (by decide) ?_
      intro T48 h48 v48 L48 X48 e48 hQ48
      obtain ⟨rfl, Nq48, K48⟩ := hQ48
      have N48 := Fk.app N46 Nq48 KK45.1 all0
      rw [K48] at e48
      show Wp p e below _ _ T48 (mkF m 106 #[.val (.long f_), .second, .val (.int ln_), .val (.int cn_), .val (.long m_), .second, .val (.int k_), .val (.int i1), .val (.int i2), .val (.ref ca3), .val (.ref ca5), .val (.ref x9), .val (.ref x13), .val (.ref x41), .val (.int r44), .val (.int r46), .val (.int i47), .unset] [(.int nn41)])
      refine Wk.iload X48 hx (hb hby at_106) rfl rfl ?_
      refine Wk.icmpYes X48 hx (hb hby at_108) (by decide) (q := 113) rfl (teq (own_eqn hN q41_6.1)).1 ?_
      refine Wk.iload X48 hx (hb hby at_113) rfl rfl ?_
      refine Wk.ldcInt X48 hx hZ41 ho41 (w 212 _ rfl) (hb hby at_115) rfl ?_
      refine Wk.iand X48 hx (hb hby at_117) rfl ?_
      refine Wk.iload X48 hx (hb hby at_118) rfl rfl ?_
      refine Wk.irem X48 hx (hb hby at_120) rfl (own_nn4 hN) ?_
      refine Wk.istoreA X48 hx (Ls' := fun z => #[.val (.long f_), .second, .val (.int ln_), .val (.int cn_), .val (.long m_), .second, .val (.int k_), .val (.int i1), .val (.int i2), .val (.ref ca3), .val (.ref ca5), .val (.ref x9), .val (.ref x13), .val (.ref x41), .val (.int r44), .val (.int r46), .val (.int i47), .val (.int z)]) (hb hby at_121) rfl (fun _ => rfl) ?_
      intro i49 hi49
      show Wp p e below _ _ T48 (mkF m 123 #[.val (.long f_), .second, .val (.int ln_), .val (.int cn_), .val (.long m_), .second, .val (.int k_), .val (.int i1), .val (.int i2), .val (.ref ca3), .val (.ref ca5), .val (.ref x9), .val (.ref x13), .val (.ref x41), .val (.int r44), .val (.int r46), .val (.int i47), .val (.int i49)] [])
      obtain ⟨kk, hkp, hkk⟩ := own_p ⟨sb4_le _ _ _ _ _, sb4_le _ _ _ _ _⟩ hN hi49
      obtain ⟨cc, hLc, hcq⟩ := (latB_txt ln_ cn_ (latB_sb4 q3_2 q3_3 q3_4 q3_5 _) (latB_sb4 q5_2 q5_3 q5_4 q5_5 _)).at hkk
      refine Wk.aload X48 hx (hb hby at_123) rfl rfl rfl ?_
      refine Wk.iload X48 hx (hb hby at_125) rfl rfl ?_
      refine Wk.callV X48 hx hZ41 (y := (⟨"java/lang/String", "charAt", "(I)C"⟩ : MethodName)) (z := (⟨"java/lang/String", "charAt", "(I)C"⟩ : MethodName)) ho41 (w 213 _ rfl) (w 214 _ rfl) (notFace_of_selects (args := #[]) (mvT hZ41 (w 216 _ rfl))) (w 216 _ rfl) (w 215 _ rfl) (by decide) (as' := [(.int i49)]) (backOf (W := 0) (rm_cha l Z a0 hw [] x41 t41 G1 i49 kb41 nn41 us41 cc G3 h41 O42 SG1 nG1 rG3 SG3 q41_2 q41_3 q41_4 q41_5 (own_nn hkp) (own_ilt q41_6.1 hkp hkk) (own_hge q41_6 hkp hkk hcq) hLc) hZ41 (w 217 _ rfl) (w 13 _ rfl) (by decide) (by decide)) e48 q41_2 (by rw [hml]; rfl) (rest := []) (lenOf pd47 rfl) rfl (Nat.le_of_eq rfl) (hb hby at_127) rfl (by decide) (by decide) ?_
      intro T50 h50 v50 L50 X50 e50 hQ50
      obtain ⟨rfl, Nq50, K50⟩ := hQ50
      have N50 := Fk.app N48 Nq50 KK45.1 all0
      rw [K50] at e50
      show Wp p e below _ _ T50 (mkF m 130 #[.val (.long f_), .second, .val (.int ln_), .val (.int cn_), .val (.long m_), .second, .val (.int k_), .val (.int i1), .val (.int i2), .val (.ref ca3), .val (.ref ca5), .val (.ref x9), .val (.ref x13), .val (.ref x41), .val (.int r44), .val (.int r46), .val (.int i47), .val (.int i49)] [(.int cc)])
      refine Wk.aload X50 hx (hb hby at_130) rfl rfl rfl ?_
      refine Wk.iload X50 hx (hb hby at_132) rfl rfl ?_
      refine Wk.iloadN X50 hx (hb hby at_134) rfl rfl ?_
      refine Wk.iload X50 hx (hb hby at_135) rfl rfl ?_
      refine Wk.iloadN X50 hx (hb hby at_137) rfl rfl ?_
      refine Wk.iload X50 hx (hb hby at_138) rfl rfl ?_
      refine Wk.aload X50 hx (hb hby at_140) rfl rfl rfl ?_
      refine Wk.iload X50 hx (hb hby at_142) rfl rfl ?_
      have KK51 : Keep h3 h13 [] := ((((Keep.refl h3 []).trans K5 all0).trans K9 all0).trans K13 all0)
      have KK52 : Keep h3 h41 [] := (((((((Keep.refl h3 []).trans K5 all0).trans K9 all0).trans K13 all0).ext E16).trans K23 (allS (Or.inr (Nat.le_trans KK51.1 (Nat.le_of_eq g16))) all0)).trans K41 all0)
      have f53 := (q3_1.keep KK52 nin0)
      have KK54 : Keep h5 h13 [] := (((Keep.refl h5 []).trans K9 all0).trans K13 all0)
      have KK55 : Keep h5 h41 [] := ((((((Keep.refl h5 []).trans K9 all0).trans K13 all0).ext E16).trans K23 (allS (Or.inr (Nat.le_trans KK54.1 (Nat.le_of_eq g16))) all0)).trans K41 all0)
      have f56 := (q5_1.keep KK55 nin0)
      refine Wk.callS X50 hx hZ41 ho41 (w 235 _ rfl) (w 236 _ rfl) (w 4 _ rfl) (w 237 _ rfl) (by decide) (as' := [(.ref ca3), (.int i1), (.int ln_), (.int r44), (.int cn_), (.int r46), (.ref ca5), (.int i49)]) (backOf (W := 1) (rm_exp l Z a0 hw [] ca3 kc3 c03 c13 c23 c33 i1 ln_ r44 cn_ r46 ca5 kc5 c05 c15 c25 c35 i49 i2 kk h41 O42 f53 f56 q3_2 q3_3 q3_4 q3_5 q5_2 q5_3 q5_4 q5_5 hF5 hM5 q44_0 q46_0 hkp hkk) hZ41 (w 237 _ rfl) (w 4 _ rfl) (by decide) (by decide)) e50 (by rw [hml]; rfl) (rest := [(.int cc)]) (lenOf pd48 rfl) rfl (Nat.le_of_eq rfl) (hb hby at_144) rfl (by decide) (by decide) ?_
      intro T57 h57 v57 L57 X57 e57 hQ57
      obtain ⟨r57, rfl, Nq57, K57, q57_0, q57_1⟩ := hQ57
      have N57 := Fk.app N50 Nq57 KK45.1 all0
      have O58 : Old Z Z.heap.size h57 := O42.keep K57 all0
      show Wp p e below _ _ T57 (mkF m 147 #[.val (.long f_), .second, .val (.int ln_), .val (.int cn_), .val (.long m_), .second, .val (.int k_), .val (.int i1), .val (.int i2), .val (.ref ca3), .val (.ref ca5), .val (.ref x9), .val (.ref x13), .val (.ref x41), .val (.int r44), .val (.int r46), .val (.int i47), .val (.int i49)] [(.int r57), (.int cc)])
      refine Wk.icmpNo X57 hx (hb hby at_147) rfl (teq (b8_inj hLc q57_0 (hcq.symm.trans q57_1))).2 ?_
      refine Wk.iconst X57 hx (v := (1 : Int32)) (hb hby at_150) rfl rfl ?_
      refine Wk.goto X57 hx (hb hby at_151) (by decide) (q := 155) rfl ?_
      have KK59 : Keep h0 h57 [] := (KK45.trans K57 all0)
      have KK60 : Keep h41 h57 [] := ((Keep.refl h41 []).trans K57 all0)
      exact Wk.retZW X57 hx hS41 (Nat.le_trans (Nat.le_refl _) KK60.1) hlk hr (by simp) (hb hby at_155) (by decide) (by decide) (Qc := Q_rm_law Z f_ ln_ cn_ m_ k_ G1 G3 da kd dt kt h0) e57 (fun vm' hw' => ⟨rfl, N57, KK59⟩)
    refine Wk.aload X9 hx (hb hby at_47) rfl rfl rfl ?_
    refine Wk.iload X9 hx (hb hby at_49) rfl rfl ?_
    have KK61 : Keep h5 h9 [] := ((Keep.refl h5 []).trans K9 all0)
    have f62 := (q5_1.keep KK61 nin0)
    refine Wk.callS X9 hx hZ9 ho9 (w 8 _ rfl) (w 9 _ rfl) (w 4 _ rfl) (w 10 _ rfl) (by decide) (as' := [(.ref ca5), (.int i2)]) (backOf (W := 0) (rm_strP l Z a0 hw [] ca5 kc5 c05 c15 c25 c35 i2 G1 h9 O11 SG1 nG1 f62 q5_2 q5_3 q5_4 q5_5 hM5 hz12) hZ9 (w 10 _ rfl) (w 4 _ rfl) (by decide) (by decide)) e9 (by rw [hml]; rfl) (rest := []) (lenOf pd45 rfl) rfl (Nat.le_of_eq rfl) (hb hby at_51) rfl (by decide) (by decide) ?_
    intro T63 h63 v63 L63 X63 e63 hQ63
    obtain ⟨x63, t63, kb63, us63, rfl, Nq63, K63, q63_0, q63_1, q63_2, q63_3, q63_4, q63_5, q63_6⟩ := hQ63
    have KK64 : Keep h0 h9 [] := (KK10.trans K9 all0)
    have N63 := Fk.app N9 Nq63 KK64.1 all0
    have O65 : Old Z Z.heap.size h63 := O11.keep K63 all0
    show Wp p e below _ _ T63 (mkF m 54 #[.val (.long f_), .second, .val (.int ln_), .val (.int cn_), .val (.long m_), .second, .val (.int k_), .val (.int i1), .val (.int i2), .val (.ref ca3), .val (.ref ca5), .val (.ref x9), .unset, .unset, .unset, .unset, .unset, .unset] [(.ref x63)])
    refine Wk.astore X63 hx (Ls' := #[.val (.long f_), .second, .val (.int ln_), .val (.int cn_), .val (.long m_), .second, .val (.int k_), .val (.int i1), .val (.int i2), .val (.ref ca3), .val (.ref ca5), .val (.ref x9), .val (.ref x63), .unset, .unset, .unset, .unset, .unset]) (hb hby at_54) rfl rfl rfl ?_
    refine Wk.new X63 hx hZ9 ho9 (w 43 _ rfl) (w 44 _ rfl) (w 45 _ rfl) e63 (hb hby at_56) rfl (by decide) (by decide) ?_
    intro T66 h66 a66 g66 X66 e66 E66 A66 D66
    have O67 : Old Z Z.heap.size h66 := O65.ext E66
    have f68 : Fld Z h66 a66 "com/example/lukko/lukko/RuleProblem" "file" "Ljava/lang/String;" .null := D66 (Or.inr (w 62 _ rfl)) (ty := (.object "java/lang/String")) (by decide)
    have f69 : Fld Z h66 a66 "com/example/lukko/lukko/RuleProblem" "line" "I" (.int (0 : Int32)) := D66 (Or.inr (w 64 _ rfl)) (ty := .int) (by decide)
    have f70 : Fld Z h66 a66 "com/example/lukko/lukko/RuleProblem" "column" "I" (.int (0 : Int32)) := D66 (Or.inr (w 66 _ rfl)) (ty := .int) (by decide)
    have f71 : Fld Z h66 a66 "com/example/lukko/lukko/RuleProblem" "message" "Ljava/lang/String;" .null := D66 (Or.inr (w 68 _ rfl)) (ty := (.object "java/lang/String")) (by decide)
    refine Wk.dup X66 hx (hb hby at_59) rfl rfl ?_
    refine Wk.aload X66 hx (hb hby at_60) rfl rfl rfl ?_
    refine Wk.iloadN X66 hx (hb hby at_62) rfl rfl ?_
    refine Wk.iloadN X66 hx (hb hby at_63) rfl rfl ?_
    refine Wk.aload X66 hx (hb hby at_64) rfl rfl rfl ?_
    have KK72 : Keep h0 h63 [] := (KK64.trans K63 all0)
    have KK74 : Keep h9 h66 [] := (((Keep.refl h9 []).trans K63 all0).ext E66)
    refine Wk.callIW X66 hx hS9 (Nat.le_trans (Nat.le_refl _) KK74.1) hZ9 rfl ho9 (w 46 _ rfl) (w 47 _ rfl) (w 48 _ rfl) (by decide) (as' := [(.ref x9), (.int ln_), (.int cn_), (.ref x63)]) (payW (W := 1) (rm_rpi l Z a0 hw [] a66 x9 ln_ cn_ x63 h66 O67 hcw hheld A66 f68 f69 f70 f71 (Nat.le_trans (Nat.le_trans (Nat.le_trans (Nat.le_of_eq O0.1.symm) O0.2.1) KK72.1) (Nat.le_of_eq g66))) (s := s.setVm vm9) hZ9 (w 48 _ rfl) (w 45 _ rfl) (by decide) (by decide) (fun _ q => ibWarm y9_0 q)) e66 (by rw [hml]; rfl) (rest := [(.ref a66)]) (lenOf pd46 rfl) rfl (Nat.le_of_eq rfl) (hb hby at_66) rfl (by decide) (by decide) ?_
    intro T73 h73 v73 L73 vm73 X73 e73 hS73 hZ73 ho73 w39_73 hQ73
    obtain ⟨rfl, Nq73, K73, q73_0, q73_1, q73_2, q73_3, q73_4, y73_0⟩ := hQ73
    have KK75 : Keep h0 h66 [] := (KK72.ext E66)
    have N73 := Fk.app N63 Nq73 KK75.1 (allS (Or.inr (Nat.le_trans KK72.1 (Nat.le_of_eq g66))) all0)
    have O76 : Old Z Z.heap.size h73 := O67.keep K73 (allS (Nat.le_trans (Nat.le_trans (Nat.le_trans (Nat.le_of_eq O0.1.symm) O0.2.1) KK72.1) (Nat.le_of_eq g66)) all0)
    have lv77 : LitV Z vm73 "java/lang/String" 7 la9 := LitV.warm (s := s) y9_1 w39_73
    show Wp p e below _ _ T73 (mkF m 69 #[.val (.long f_), .second, .val (.int ln_), .val (.int cn_), .val (.long m_), .second, .val (.int k_), .val (.int i1), .val (.int i2), .val (.ref ca3), .val (.ref ca5), .val (.ref x9), .val (.ref x63), .unset, .unset, .unset, .unset, .unset] [(.ref a66)])
    have KK78 : Keep h9 h63 [] := ((Keep.refl h9 []).trans K63 all0)
    have KK79 : Keep h9 h73 [] := (KK74.trans K73 (allS (Or.inr (Nat.le_trans KK78.1 (Nat.le_of_eq g66))) all0))
    have f80 : Exa Z h73 x9 "java/lang/String" := (q9_1.keep KK79)
    have f81 : Fld Z h73 x9 "java/lang/String" "coder" "B" (.int (0 : Int32)) := (q9_2.keep KK79 nin0)
    have f82 : Fld Z h73 x9 "java/lang/String" "value" "[B" (.ref lt9) := (q9_3.keep KK79 nin0)
    have f83 := (q9_7.keep KK79 nin0)
    have KK84 : Keep h63 h73 [] := (((Keep.refl h63 []).ext E66).trans K73 (allS (Or.inr (Nat.le_of_eq g66)) all0))
    have f85 : Exa Z h73 x63 "java/lang/String" := (q63_2.keep KK84)
    have f86 : Fld Z h73 x63 "java/lang/String" "coder" "B" (.int (0 : Int32)) := (q63_3.keep KK84 nin0)
    have f87 : Fld Z h73 x63 "java/lang/String" "value" "[B" (.ref t63) := (q63_4.keep KK84 nin0)
    have f88 := (q63_5.keep KK84 nin0)
    have KK89 : Keep h0 h73 [] := (KK75.trans K73 (allS (Or.inr (Nat.le_trans KK72.1 (Nat.le_of_eq g66))) all0))
    have f90 := (pO.keep KK89 nin0)
    have f91 := (pN.keep KK89 nin0)
    refine Wk.callVW X73 hx hS73 (Nat.le_refl _) hZ73 (y := (⟨"com/example/lukko/lukko/RuleProblem", "text", "()Ljava/lang/String;"⟩ : MethodName)) (z := (⟨"com/example/lukko/lukko/RuleProblem", "text", "()Ljava/lang/String;"⟩ : MethodName)) ho73 (w 69 _ rfl) (w 70 _ rfl) (notFace_of_selects (args := #[]) (mvT hZ73 (w 72 _ rfl))) (w 72 _ rfl) (w 71 _ rfl) (by decide) (as' := []) (payW (W := 0) (rm_txt l Z a0 hw [] a66 ln_ cn_ x9 lt9 lk9 (0 : Int32) [] x63 t63 kb63 i2 us63 (sb4 c03 c13 c23 c33 i1.toNatClampNeg) (sb4 c05 c15 c25 c35 i2.toNatClampNeg) da kd dt kt G1 h73 O76 hcw hheld SG1 nG1 q73_0 q73_1 q73_2 q73_3 q73_4 f80 f81 f82 f83 f85 f86 f87 f88 sO f90 sN f91 (str_0 (c0 := c03) (c1 := c13) (c2 := c23) (c3 := c33) hz8) q63_6 (sb4_le _ _ _ _ _) (sb4_le _ _ _ _ _)) (s := s.setVm vm73) hZ73 (w 73 _ rfl) (w 45 _ rfl) (by decide) (by decide) (fun _ q => ibWarm y73_0 q)) e73 q73_0 (by rw [hml]; rfl) (rest := []) (lenOf pd43 rfl) rfl (Nat.le_of_eq rfl) (hb hby at_69) rfl (by decide) (by decide) ?_
    intro T92 h92 v92 L92 vm92 X92 e92 hS92 hZ92 ho92 w39_92 hQ92
    obtain ⟨x92, t92, kb92, nn92, us92, rfl, Nq92, K92, q92_0, q92_1, q92_2, q92_3, q92_4, q92_5, q92_6, y92_0⟩ := hQ92
    have N92 := Fk.app N73 Nq92 KK89.1 all0
    have O93 : Old Z Z.heap.size h92 := O76.keep K92 all0
    have lv94 : LitV Z vm92 "java/lang/String" 7 la9 := LitV.warm (s := s) lv77 w39_92
    show Wp p e below _ _ T92 (mkF m 72 #[.val (.long f_), .second, .val (.int ln_), .val (.int cn_), .val (.long m_), .second, .val (.int k_), .val (.int i1), .val (.int i2), .val (.ref ca3), .val (.ref ca5), .val (.ref x9), .val (.ref x63), .unset, .unset, .unset, .unset, .unset] [(.ref x92)])
    refine Wk.astore X92 hx (Ls' := #[.val (.long f_), .second, .val (.int ln_), .val (.int cn_), .val (.long m_), .second, .val (.int k_), .val (.int i1), .val (.int i2), .val (.ref ca3), .val (.ref ca5), .val (.ref x9), .val (.ref x63), .val (.ref x92), .unset, .unset, .unset, .unset]) (hb hby at_72) rfl rfl rfl ?_
    refine Wk.iloadN X92 hx (hb hby at_74) rfl rfl ?_
    refine Wk.callS X92 hx hZ92 ho92 (w 204 _ rfl) (w 205 _ rfl) (w 4 _ rfl) (w 206 _ rfl) (by decide) (as' := [(.int ln_)]) (backOf (W := 0) (rm_dln l Z a0 hw [] ln_ h92 O93) hZ92 (w 206 _ rfl) (w 4 _ rfl) (by decide) (by decide)) e92 (by rw [hml]; rfl) (rest := []) (lenOf pd11 rfl) rfl (Nat.le_of_eq rfl) (hb hby at_75) rfl (by decide) (by decide) ?_
    intro T95 h95 v95 L95 X95 e95 hQ95
    obtain ⟨r95, rfl, Nq95, K95, q95_0⟩ := hQ95
    have KK96 : Keep h0 h92 [] := (KK89.trans K92 all0)
    have N95 := Fk.app N92 Nq95 KK96.1 all0
    rw [K95] at e95
    show Wp p e below _ _ T95 (mkF m 78 #[.val (.long f_), .second, .val (.int ln_), .val (.int cn_), .val (.long m_), .second, .val (.int k_), .val (.int i1), .val (.int i2), .val (.ref ca3), .val (.ref ca5), .val (.ref x9), .val (.ref x63), .val (.ref x92), .unset, .unset, .unset, .unset] [(.int r95)])
    refine Wk.istore X95 hx (Ls' := #[.val (.long f_), .second, .val (.int ln_), .val (.int cn_), .val (.long m_), .second, .val (.int k_), .val (.int i1), .val (.int i2), .val (.ref ca3), .val (.ref ca5), .val (.ref x9), .val (.ref x63), .val (.ref x92), .val (.int r95), .unset, .unset, .unset]) (hb hby at_78) rfl rfl ?_
    refine Wk.iloadN X95 hx (hb hby at_80) rfl rfl ?_
    refine Wk.callS X95 hx hZ92 ho92 (w 204 _ rfl) (w 205 _ rfl) (w 4 _ rfl) (w 206 _ rfl) (by decide) (as' := [(.int cn_)]) (backOf (W := 0) (rm_dln l Z a0 hw [] cn_ h92 O93) hZ92 (w 206 _ rfl) (w 4 _ rfl) (by decide) (by decide)) e95 (by rw [hml]; rfl) (rest := []) (lenOf pd11 rfl) rfl (Nat.le_of_eq rfl) (hb hby at_81) rfl (by decide) (by decide) ?_
    intro T97 h97 v97 L97 X97 e97 hQ97
    obtain ⟨r97, rfl, Nq97, K97, q97_0⟩ := hQ97
    have N97 := Fk.app N95 Nq97 KK96.1 all0
    rw [K97] at e97
    show Wp p e below _ _ T97 (mkF m 84 #[.val (.long f_), .second, .val (.int ln_), .val (.int cn_), .val (.long m_), .second, .val (.int k_), .val (.int i1), .val (.int i2), .val (.ref ca3), .val (.ref ca5), .val (.ref x9), .val (.ref x63), .val (.ref x92), .val (.int r95), .unset, .unset, .unset] [(.int r97)])
    refine Wk.istore X97 hx (Ls' := #[.val (.long f_), .second, .val (.int ln_), .val (.int cn_), .val (.long m_), .second, .val (.int k_), .val (.int i1), .val (.int i2), .val (.ref ca3), .val (.ref ca5), .val (.ref x9), .val (.ref x63), .val (.ref x92), .val (.int r95), .val (.int r97), .unset, .unset]) (hb hby at_84) rfl rfl ?_
    refine Wk.iload X97 hx (hb hby at_86) rfl rfl ?_
    refine Wk.iload X97 hx (hb hby at_88) rfl rfl ?_
    refine Wk.iadd X97 hx (hb hby at_90) rfl ?_
    refine Wk.iload X97 hx (hb hby at_91) rfl rfl ?_
    refine Wk.iadd X97 hx (hb hby at_93) rfl ?_
    refine Wk.iload X97 hx (hb hby at_94) rfl rfl ?_
    refine Wk.iadd X97 hx (hb hby at_96) rfl ?_
    refine Wk.iconst X97 hx (v := (4 : Int32)) (hb hby at_97) rfl rfl ?_
    refine Wk.iadd X97 hx (hb hby at_98) rfl ?_
    refine Wk.istoreA X97 hx (Ls' := fun z => #[.val (.long f_), .second, .val (.int ln_), .val (.int cn_), .val (.long m_), .second, .val (.int k_), .val (.int i1), .val (.int i2), .val (.ref ca3), .val (.ref ca5), .val (.ref x9), .val (.ref x63), .val (.ref x92), .val (.int r95), .val (.int r97), .val (.int z), .unset]) (hb hby at_99) rfl (fun _ => rfl) ?_
    intro i98 hi98
    show Wp p e below _ _ T97 (mkF m 101 #[.val (.long f_), .second, .val (.int ln_), .val (.int cn_), .val (.long m_), .second, .val (.int k_), .val (.int i1), .val (.int i2), .val (.ref ca3), .val (.ref ca5), .val (.ref x9), .val (.ref x63), .val (.ref x92), .val (.int r95), .val (.int r97), .val (.int i98), .unset] [])
    have hN : i98.toInt = ((txt (sb4 c03 c13 c23 c33 i1.toNatClampNeg) ln_ cn_ (sb4 c05 c15 c25 c35 i2.toNatClampNeg)).length : Int) := own_len hF5 hM5 q95_0 q97_0 hi98
    refine Wk.aload X97 hx (hb hby at_101) rfl rfl rfl ?_
    refine Wk.callV X97 hx hZ92 (y := (⟨"java/lang/String", "length", "()I"⟩ : MethodName)) (z := (⟨"java/lang/String", "length", "()I"⟩ : MethodName)) ho92 (w 211 _ rfl) (w 103 _ rfl) (notFace_of_selects (args := #[]) (mvT hZ92 (w 105 _ rfl))) (w 105 _ rfl) (w 104 _ rfl) (by decide) (as' := []) (backOf (W := 0) (rm_len l Z a0 hw [] x92 t92 kb92 nn92 us92 G1 h92 O93 SG1 nG1 q92_2 q92_3 q92_4 q92_5) hZ92 (w 106 _ rfl) (w 13 _ rfl) (by decide) (by decide)) e97 q92_2 (by rw [hml]; rfl) (rest := []) (lenOf pd15 rfl) rfl (Nat.le_of_eq rfl) (hb hby at_103) rfl (by decide) (by decide) ?_
    intro T99 h99 v99 L99 X99 e99 hQ99
    obtain ⟨rfl, Nq99, K99⟩ := hQ99
    have N99 := Fk.app N97 Nq99 KK96.1 all0
    rw [K99] at e99
    show Wp p e below _ _ T99 (mkF m 106 #[.val (.long f_), .second, .val (.int ln_), .val (.int cn_), .val (.long m_), .second, .val (.int k_), .val (.int i1), .val (.int i2), .val (.ref ca3), .val (.ref ca5), .val (.ref x9), .val (.ref x63), .val (.ref x92), .val (.int r95), .val (.int r97), .val (.int i98), .unset] [(.int nn92)])
    refine Wk.iload X99 hx (hb hby at_106) rfl rfl ?_
    refine Wk.icmpYes X99 hx (hb hby at_108) (by decide) (q := 113) rfl (teq (own_eqn hN q92_6.1)).1 ?_
    refine Wk.iload X99 hx (hb hby at_113) rfl rfl ?_
    refine Wk.ldcInt X99 hx hZ92 ho92 (w 212 _ rfl) (hb hby at_115) rfl ?_
    refine Wk.iand X99 hx (hb hby at_117) rfl ?_
    refine Wk.iload X99 hx (hb hby at_118) rfl rfl ?_
    refine Wk.irem X99 hx (hb hby at_120) rfl (own_nn4 hN) ?_
    refine Wk.istoreA X99 hx (Ls' := fun z => #[.val (.long f_), .second, .val (.int ln_), .val (.int cn_), .val (.long m_), .second, .val (.int k_), .val (.int i1), .val (.int i2), .val (.ref ca3), .val (.ref ca5), .val (.ref x9), .val (.ref x63), .val (.ref x92), .val (.int r95), .val (.int r97), .val (.int i98), .val (.int z)]) (hb hby at_121) rfl (fun _ => rfl) ?_
    intro i100 hi100
    show Wp p e below _ _ T99 (mkF m 123 #[.val (.long f_), .second, .val (.int ln_), .val (.int cn_), .val (.long m_), .second, .val (.int k_), .val (.int i1), .val (.int i2), .val (.ref ca3), .val (.ref ca5), .val (.ref x9), .val (.ref x63), .val (.ref x92), .val (.int r95), .val (.int r97), .val (.int i98), .val (.int i100)] [])
    obtain ⟨kk, hkp, hkk⟩ := own_p ⟨sb4_le _ _ _ _ _, sb4_le _ _ _ _ _⟩ hN hi100
    obtain ⟨cc, hLc, hcq⟩ := (latB_txt ln_ cn_ (latB_sb4 q3_2 q3_3 q3_4 q3_5 _) (latB_sb4 q5_2 q5_3 q5_4 q5_5 _)).at hkk
    refine Wk.aload X99 hx (hb hby at_123) rfl rfl rfl ?_
    refine Wk.iload X99 hx (hb hby at_125) rfl rfl ?_
    refine Wk.callV X99 hx hZ92 (y := (⟨"java/lang/String", "charAt", "(I)C"⟩ : MethodName)) (z := (⟨"java/lang/String", "charAt", "(I)C"⟩ : MethodName)) ho92 (w 213 _ rfl) (w 214 _ rfl) (notFace_of_selects (args := #[]) (mvT hZ92 (w 216 _ rfl))) (w 216 _ rfl) (w 215 _ rfl) (by decide) (as' := [(.int i100)]) (backOf (W := 0) (rm_cha l Z a0 hw [] x92 t92 G1 i100 kb92 nn92 us92 cc G3 h92 O93 SG1 nG1 rG3 SG3 q92_2 q92_3 q92_4 q92_5 (own_nn hkp) (own_ilt q92_6.1 hkp hkk) (own_hge q92_6 hkp hkk hcq) hLc) hZ92 (w 217 _ rfl) (w 13 _ rfl) (by decide) (by decide)) e99 q92_2 (by rw [hml]; rfl) (rest := []) (lenOf pd47 rfl) rfl (Nat.le_of_eq rfl) (hb hby at_127) rfl (by decide) (by decide) ?_
    intro T101 h101 v101 L101 X101 e101 hQ101
    obtain ⟨rfl, Nq101, K101⟩ := hQ101
    have N101 := Fk.app N99 Nq101 KK96.1 all0
    rw [K101] at e101
    show Wp p e below _ _ T101 (mkF m 130 #[.val (.long f_), .second, .val (.int ln_), .val (.int cn_), .val (.long m_), .second, .val (.int k_), .val (.int i1), .val (.int i2), .val (.ref ca3), .val (.ref ca5), .val (.ref x9), .val (.ref x63), .val (.ref x92), .val (.int r95), .val (.int r97), .val (.int i98), .val (.int i100)] [(.int cc)])
    refine Wk.aload X101 hx (hb hby at_130) rfl rfl rfl ?_
    refine Wk.iload X101 hx (hb hby at_132) rfl rfl ?_
    refine Wk.iloadN X101 hx (hb hby at_134) rfl rfl ?_
    refine Wk.iload X101 hx (hb hby at_135) rfl rfl ?_
    refine Wk.iloadN X101 hx (hb hby at_137) rfl rfl ?_
    refine Wk.iload X101 hx (hb hby at_138) rfl rfl ?_
    refine Wk.aload X101 hx (hb hby at_140) rfl rfl rfl ?_
    refine Wk.iload X101 hx (hb hby at_142) rfl rfl ?_
    have KK102 : Keep h3 h63 [] := ((((Keep.refl h3 []).trans K5 all0).trans K9 all0).trans K63 all0)
    have KK103 : Keep h3 h92 [] := (((((((Keep.refl h3 []).trans K5 all0).trans K9 all0).trans K63 all0).ext E66).trans K73 (allS (Or.inr (Nat.le_trans KK102.1 (Nat.le_of_eq g66))) all0)).trans K92 all0)
    have f104 := (q3_1.keep KK103 nin0)
    have KK105 : Keep h9 h92 [] := (KK79.trans K92 all0)
    have f106 := (f62.keep KK105 nin0)
    refine Wk.callS X101 hx hZ92 ho92 (w 235 _ rfl) (w 236 _ rfl) (w 4 _ rfl) (w 237 _ rfl) (by decide) (as' := [(.ref ca3), (.int i1), (.int ln_), (.int r95), (.int cn_), (.int r97), (.ref ca5), (.int i100)]) (backOf (W := 1) (rm_exp l Z a0 hw [] ca3 kc3 c03 c13 c23 c33 i1 ln_ r95 cn_ r97 ca5 kc5 c05 c15 c25 c35 i100 i2 kk h92 O93 f104 f106 q3_2 q3_3 q3_4 q3_5 q5_2 q5_3 q5_4 q5_5 hF5 hM5 q95_0 q97_0 hkp hkk) hZ92 (w 237 _ rfl) (w 4 _ rfl) (by decide) (by decide)) e101 (by rw [hml]; rfl) (rest := [(.int cc)]) (lenOf pd48 rfl) rfl (Nat.le_of_eq rfl) (hb hby at_144) rfl (by decide) (by decide) ?_
    intro T107 h107 v107 L107 X107 e107 hQ107
    obtain ⟨r107, rfl, Nq107, K107, q107_0, q107_1⟩ := hQ107
    have N107 := Fk.app N101 Nq107 KK96.1 all0
    have O108 : Old Z Z.heap.size h107 := O93.keep K107 all0
    show Wp p e below _ _ T107 (mkF m 147 #[.val (.long f_), .second, .val (.int ln_), .val (.int cn_), .val (.long m_), .second, .val (.int k_), .val (.int i1), .val (.int i2), .val (.ref ca3), .val (.ref ca5), .val (.ref x9), .val (.ref x63), .val (.ref x92), .val (.int r95), .val (.int r97), .val (.int i98), .val (.int i100)] [(.int r107), (.int cc)])
    refine Wk.icmpNo X107 hx (hb hby at_147) rfl (teq (b8_inj hLc q107_0 (hcq.symm.trans q107_1))).2 ?_
    refine Wk.iconst X107 hx (v := (1 : Int32)) (hb hby at_150) rfl rfl ?_
    refine Wk.goto X107 hx (hb hby at_151) (by decide) (q := 155) rfl ?_
    have KK109 : Keep h0 h107 [] := (KK96.trans K107 all0)
    have KK110 : Keep h92 h107 [] := ((Keep.refl h92 []).trans K107 all0)
    exact Wk.retZW X107 hx hS92 (Nat.le_trans (Nat.le_refl _) KK110.1) hlk hr (by simp) (hb hby at_155) (by decide) (by decide) (Qc := Q_rm_law Z f_ ln_ cn_ m_ k_ G1 G3 da kd dt kt h0) e107 (fun vm' hw' => ⟨rfl, N107, KK109⟩)
  refine Wk.aload X5 hx (hb hby at_38) rfl rfl rfl ?_
  refine Wk.iload X5 hx (hb hby at_40) rfl rfl ?_
  have KK111 : Keep h3 h5 [] := ((Keep.refl h3 []).trans K5 all0)
  have f112 := (q3_1.keep KK111 nin0)
  refine Wk.callS X5 hx hZ hown (w 8 _ rfl) (w 9 _ rfl) (w 4 _ rfl) (w 10 _ rfl) (by decide) (as' := [(.ref ca3), (.int i1)]) (backOf (W := 0) (rm_strP l Z a0 hw [] ca3 kc3 c03 c13 c23 c33 i1 G1 h5 O7 SG1 nG1 f112 q3_2 q3_3 q3_4 q3_5 hF5 hz8) hZ (w 10 _ rfl) (w 4 _ rfl) (by decide) (by decide)) e5 (by rw [hml]; rfl) (rest := []) (lenOf pd45 rfl) rfl (Nat.le_of_eq rfl) (hb hby at_42) rfl (by decide) (by decide) ?_
  intro T113 h113 v113 L113 X113 e113 hQ113
  obtain ⟨x113, t113, kb113, us113, rfl, Nq113, K113, q113_0, q113_1, q113_2, q113_3, q113_4, q113_5, q113_6⟩ := hQ113
  have KK114 : Keep h0 h5 [] := (KK6.trans K5 all0)
  have N113 := Fk.app N5 Nq113 KK114.1 all0
  have O115 : Old Z Z.heap.size h113 := O7.keep K113 all0
  show Wp p e below _ _ T113 (mkF m 45 #[.val (.long f_), .second, .val (.int ln_), .val (.int cn_), .val (.long m_), .second, .val (.int k_), .val (.int i1), .val (.int i2), .val (.ref ca3), .val (.ref ca5), .unset, .unset, .unset, .unset, .unset, .unset, .unset] [(.ref x113)])
  refine Wk.astore X113 hx (Ls' := #[.val (.long f_), .second, .val (.int ln_), .val (.int cn_), .val (.long m_), .second, .val (.int k_), .val (.int i1), .val (.int i2), .val (.ref ca3), .val (.ref ca5), .val (.ref x113), .unset, .unset, .unset, .unset, .unset, .unset]) (hb hby at_45) rfl rfl rfl ?_
  by_cases hz116 : i2 = (0 : Int32)
  · skip
    refine Wk.aload X113 hx (hb hby at_47) rfl rfl rfl ?_
    refine Wk.iload X113 hx (hb hby at_49) rfl rfl ?_
    have KK118 : Keep h0 h113 [] := (KK114.trans K113 all0)
    refine Wk.callSW X113 hx hS (Nat.le_trans (Nat.le_refl _) KK118.1) hZ hown (w 8 _ rfl) (w 9 _ rfl) (w 4 _ rfl) (w 10 _ rfl) (by decide) (as' := [(.ref ca5), (.int i2)]) (payW (W := 0) (rm_strN l Z a0 hw [] ca5 i2 h113 O115 hcw hheld hz116) (s := s.setVm vm) hZ (w 10 _ rfl) (w 4 _ rfl) (by decide) (by decide) (fun _ q => ibWarm I0 q)) e113 (by rw [hml]; rfl) (rest := []) (lenOf pd45 rfl) rfl (Nat.le_of_eq rfl) (hb hby at_51) rfl (by decide) (by decide) ?_
    intro T117 h117 v117 L117 vm117 X117 e117 hS117 hZ117 ho117 w39_117 hQ117
    obtain ⟨x117, la117, lt117, lk117, rfl, Nq117, K117, q117_0, q117_1, q117_2, q117_3, q117_4, q117_5, q117_6, q117_7, y117_0, y117_1⟩ := hQ117
    have N117 := Fk.app N113 Nq117 KK118.1 all0
    have O119 : Old Z Z.heap.size h117 := O115.keep K117 all0
    show Wp p e below _ _ T117 (mkF m 54 #[.val (.long f_), .second, .val (.int ln_), .val (.int cn_), .val (.long m_), .second, .val (.int k_), .val (.int i1), .val (.int i2), .val (.ref ca3), .val (.ref ca5), .val (.ref x113), .unset, .unset, .unset, .unset, .unset, .unset] [(.ref x117)])
    refine Wk.astore X117 hx (Ls' := #[.val (.long f_), .second, .val (.int ln_), .val (.int cn_), .val (.long m_), .second, .val (.int k_), .val (.int i1), .val (.int i2), .val (.ref ca3), .val (.ref ca5), .val (.ref x113), .val (.ref x117), .unset, .unset, .unset, .unset, .unset]) (hb hby at_54) rfl rfl rfl ?_
    refine Wk.new X117 hx hZ117 ho117 (w 43 _ rfl) (w 44 _ rfl) (w 45 _ rfl) e117 (hb hby at_56) rfl (by decide) (by decide) ?_
    intro T120 h120 a120 g120 X120 e120 E120 A120 D120
    have O121 : Old Z Z.heap.size h120 := O119.ext E120
    have f122 : Fld Z h120 a120 "com/example/lukko/lukko/RuleProblem" "file" "Ljava/lang/String;" .null := D120 (Or.inr (w 62 _ rfl)) (ty := (.object "java/lang/String")) (by decide)
    have f123 : Fld Z h120 a120 "com/example/lukko/lukko/RuleProblem" "line" "I" (.int (0 : Int32)) := D120 (Or.inr (w 64 _ rfl)) (ty := .int) (by decide)
    have f124 : Fld Z h120 a120 "com/example/lukko/lukko/RuleProblem" "column" "I" (.int (0 : Int32)) := D120 (Or.inr (w 66 _ rfl)) (ty := .int) (by decide)
    have f125 : Fld Z h120 a120 "com/example/lukko/lukko/RuleProblem" "message" "Ljava/lang/String;" .null := D120 (Or.inr (w 68 _ rfl)) (ty := (.object "java/lang/String")) (by decide)
    refine Wk.dup X120 hx (hb hby at_59) rfl rfl ?_
    refine Wk.aload X120 hx (hb hby at_60) rfl rfl rfl ?_
    refine Wk.iloadN X120 hx (hb hby at_62) rfl rfl ?_
    refine Wk.iloadN X120 hx (hb hby at_63) rfl rfl ?_
    refine Wk.aload X120 hx (hb hby at_64) rfl rfl rfl ?_
    have KK126 : Keep h0 h117 [] := (KK118.trans K117 all0)
    have KK128 : Keep h117 h120 [] := ((Keep.refl h117 []).ext E120)
    refine Wk.callIW X120 hx hS117 (Nat.le_trans (Nat.le_refl _) KK128.1) hZ117 rfl ho117 (w 46 _ rfl) (w 47 _ rfl) (w 48 _ rfl) (by decide) (as' := [(.ref x113), (.int ln_), (.int cn_), (.ref x117)]) (payW (W := 1) (rm_rpi l Z a0 hw [] a120 x113 ln_ cn_ x117 h120 O121 hcw hheld A120 f122 f123 f124 f125 (Nat.le_trans (Nat.le_trans (Nat.le_trans (Nat.le_of_eq O0.1.symm) O0.2.1) KK126.1) (Nat.le_of_eq g120))) (s := s.setVm vm117) hZ117 (w 48 _ rfl) (w 45 _ rfl) (by decide) (by decide) (fun _ q => ibWarm y117_0 q)) e120 (by rw [hml]; rfl) (rest := [(.ref a120)]) (lenOf pd46 rfl) rfl (Nat.le_of_eq rfl) (hb hby at_66) rfl (by decide) (by decide) ?_
    intro T127 h127 v127 L127 vm127 X127 e127 hS127 hZ127 ho127 w39_127 hQ127
    obtain ⟨rfl, Nq127, K127, q127_0, q127_1, q127_2, q127_3, q127_4, y127_0⟩ := hQ127
    have KK129 : Keep h0 h120 [] := (KK126.ext E120)
    have N127 := Fk.app N117 Nq127 KK129.1 (allS (Or.inr (Nat.le_trans KK126.1 (Nat.le_of_eq g120))) all0)
    have O130 : Old Z Z.heap.size h127 := O121.keep K127 (allS (Nat.le_trans (Nat.le_trans (Nat.le_trans (Nat.le_of_eq O0.1.symm) O0.2.1) KK126.1) (Nat.le_of_eq g120)) all0)
    have lv131 : LitV Z vm127 "java/lang/String" 7 la117 := LitV.warm (s := s) y117_1 w39_127
    show Wp p e below _ _ T127 (mkF m 69 #[.val (.long f_), .second, .val (.int ln_), .val (.int cn_), .val (.long m_), .second, .val (.int k_), .val (.int i1), .val (.int i2), .val (.ref ca3), .val (.ref ca5), .val (.ref x113), .val (.ref x117), .unset, .unset, .unset, .unset, .unset] [(.ref a120)])
    have KK132 : Keep h113 h117 [] := ((Keep.refl h113 []).trans K117 all0)
    have KK133 : Keep h113 h127 [] := ((((Keep.refl h113 []).trans K117 all0).ext E120).trans K127 (allS (Or.inr (Nat.le_trans KK132.1 (Nat.le_of_eq g120))) all0))
    have f134 : Exa Z h127 x113 "java/lang/String" := (q113_2.keep KK133)
    have f135 : Fld Z h127 x113 "java/lang/String" "coder" "B" (.int (0 : Int32)) := (q113_3.keep KK133 nin0)
    have f136 : Fld Z h127 x113 "java/lang/String" "value" "[B" (.ref t113) := (q113_4.keep KK133 nin0)
    have f137 := (q113_5.keep KK133 nin0)
    have KK138 : Keep h117 h127 [] := (KK128.trans K127 (allS (Or.inr (Nat.le_of_eq g120)) all0))
    have f139 : Exa Z h127 x117 "java/lang/String" := (q117_1.keep KK138)
    have f140 : Fld Z h127 x117 "java/lang/String" "coder" "B" (.int (0 : Int32)) := (q117_2.keep KK138 nin0)
    have f141 : Fld Z h127 x117 "java/lang/String" "value" "[B" (.ref lt117) := (q117_3.keep KK138 nin0)
    have f142 := (q117_7.keep KK138 nin0)
    have KK143 : Keep h0 h127 [] := (KK129.trans K127 (allS (Or.inr (Nat.le_trans KK126.1 (Nat.le_of_eq g120))) all0))
    have f144 := (pO.keep KK143 nin0)
    have f145 := (pN.keep KK143 nin0)
    refine Wk.callVW X127 hx hS127 (Nat.le_refl _) hZ127 (y := (⟨"com/example/lukko/lukko/RuleProblem", "text", "()Ljava/lang/String;"⟩ : MethodName)) (z := (⟨"com/example/lukko/lukko/RuleProblem", "text", "()Ljava/lang/String;"⟩ : MethodName)) ho127 (w 69 _ rfl) (w 70 _ rfl) (notFace_of_selects (args := #[]) (mvT hZ127 (w 72 _ rfl))) (w 72 _ rfl) (w 71 _ rfl) (by decide) (as' := []) (payW (W := 0) (rm_txt l Z a0 hw [] a120 ln_ cn_ x113 t113 kb113 i1 us113 x117 lt117 lk117 (0 : Int32) [] (sb4 c03 c13 c23 c33 i1.toNatClampNeg) (sb4 c05 c15 c25 c35 i2.toNatClampNeg) da kd dt kt G1 h127 O130 hcw hheld SG1 nG1 q127_0 q127_1 q127_2 q127_3 q127_4 f134 f135 f136 f137 f139 f140 f141 f142 sO f144 sN f145 q113_6 (str_0 (c0 := c05) (c1 := c15) (c2 := c25) (c3 := c35) hz116) (sb4_le _ _ _ _ _) (sb4_le _ _ _ _ _)) (s := s.setVm vm127) hZ127 (w 73 _ rfl) (w 45 _ rfl) (by decide) (by decide) (fun _ q => ibWarm y127_0 q)) e127 q127_0 (by rw [hml]; rfl) (rest := []) (lenOf pd43 rfl) rfl (Nat.le_of_eq rfl) (hb hby at_69) rfl (by decide) (by decide) ?_
    intro T146 h146 v146 L146 vm146 X146 e146 hS146 hZ146 ho146 w39_146 hQ146
    obtain ⟨x146, t146, kb146, nn146, us146, rfl, Nq146, K146, q146_0, q146_1, q146_2, q146_3, q146_4, q146_5, q146_6, y146_0⟩ := hQ146
    have N146 := Fk.app N127 Nq146 KK143.1 all0
    have O147 : Old Z Z.heap.size h146 := O130.keep K146 all0
    have lv148 : LitV Z vm146 "java/lang/String" 7 la117 := LitV.warm (s := s) lv131 w39_146
    show Wp p e below _ _ T146 (mkF m 72 #[.val (.long f_), .second, .val (.int ln_), .val (.int cn_), .val (.long m_), .second, .val (.int k_), .val (.int i1), .val (.int i2), .val (.ref ca3), .val (.ref ca5), .val (.ref x113), .val (.ref x117), .unset, .unset, .unset, .unset, .unset] [(.ref x146)])
    refine Wk.astore X146 hx (Ls' := #[.val (.long f_), .second, .val (.int ln_), .val (.int cn_), .val (.long m_), .second, .val (.int k_), .val (.int i1), .val (.int i2), .val (.ref ca3), .val (.ref ca5), .val (.ref x113), .val (.ref x117), .val (.ref x146), .unset, .unset, .unset, .unset]) (hb hby at_72) rfl rfl rfl ?_
    refine Wk.iloadN X146 hx (hb hby at_74) rfl rfl ?_
    refine Wk.callS X146 hx hZ146 ho146 (w 204 _ rfl) (w 205 _ rfl) (w 4 _ rfl) (w 206 _ rfl) (by decide) (as' := [(.int ln_)]) (backOf (W := 0) (rm_dln l Z a0 hw [] ln_ h146 O147) hZ146 (w 206 _ rfl) (w 4 _ rfl) (by decide) (by decide)) e146 (by rw [hml]; rfl) (rest := []) (lenOf pd11 rfl) rfl (Nat.le_of_eq rfl) (hb hby at_75) rfl (by decide) (by decide) ?_
    intro T149 h149 v149 L149 X149 e149 hQ149
    obtain ⟨r149, rfl, Nq149, K149, q149_0⟩ := hQ149
    have KK150 : Keep h0 h146 [] := (KK143.trans K146 all0)
    have N149 := Fk.app N146 Nq149 KK150.1 all0
    rw [K149] at e149
    show Wp p e below _ _ T149 (mkF m 78 #[.val (.long f_), .second, .val (.int ln_), .val (.int cn_), .val (.long m_), .second, .val (.int k_), .val (.int i1), .val (.int i2), .val (.ref ca3), .val (.ref ca5), .val (.ref x113), .val (.ref x117), .val (.ref x146), .unset, .unset, .unset, .unset] [(.int r149)])
    refine Wk.istore X149 hx (Ls' := #[.val (.long f_), .second, .val (.int ln_), .val (.int cn_), .val (.long m_), .second, .val (.int k_), .val (.int i1), .val (.int i2), .val (.ref ca3), .val (.ref ca5), .val (.ref x113), .val (.ref x117), .val (.ref x146), .val (.int r149), .unset, .unset, .unset]) (hb hby at_78) rfl rfl ?_
    refine Wk.iloadN X149 hx (hb hby at_80) rfl rfl ?_
    refine Wk.callS X149 hx hZ146 ho146 (w 204 _ rfl) (w 205 _ rfl) (w 4 _ rfl) (w 206 _ rfl) (by decide) (as' := [(.int cn_)]) (backOf (W := 0) (rm_dln l Z a0 hw [] cn_ h146 O147) hZ146 (w 206 _ rfl) (w 4 _ rfl) (by decide) (by decide)) e149 (by rw [hml]; rfl) (rest := []) (lenOf pd11 rfl) rfl (Nat.le_of_eq rfl) (hb hby at_81) rfl (by decide) (by decide) ?_
    intro T151 h151 v151 L151 X151 e151 hQ151
    obtain ⟨r151, rfl, Nq151, K151, q151_0⟩ := hQ151
    have N151 := Fk.app N149 Nq151 KK150.1 all0
    rw [K151] at e151
    show Wp p e below _ _ T151 (mkF m 84 #[.val (.long f_), .second, .val (.int ln_), .val (.int cn_), .val (.long m_), .second, .val (.int k_), .val (.int i1), .val (.int i2), .val (.ref ca3), .val (.ref ca5), .val (.ref x113), .val (.ref x117), .val (.ref x146), .val (.int r149), .unset, .unset, .unset] [(.int r151)])
    refine Wk.istore X151 hx (Ls' := #[.val (.long f_), .second, .val (.int ln_), .val (.int cn_), .val (.long m_), .second, .val (.int k_), .val (.int i1), .val (.int i2), .val (.ref ca3), .val (.ref ca5), .val (.ref x113), .val (.ref x117), .val (.ref x146), .val (.int r149), .val (.int r151), .unset, .unset]) (hb hby at_84) rfl rfl ?_
    refine Wk.iload X151 hx (hb hby at_86) rfl rfl ?_
    refine Wk.iload X151 hx (hb hby at_88) rfl rfl ?_
    refine Wk.iadd X151 hx (hb hby at_90) rfl ?_
    refine Wk.iload X151 hx (hb hby at_91) rfl rfl ?_
    refine Wk.iadd X151 hx (hb hby at_93) rfl ?_
    refine Wk.iload X151 hx (hb hby at_94) rfl rfl ?_
    refine Wk.iadd X151 hx (hb hby at_96) rfl ?_
    refine Wk.iconst X151 hx (v := (4 : Int32)) (hb hby at_97) rfl rfl ?_
    refine Wk.iadd X151 hx (hb hby at_98) rfl ?_
    refine Wk.istoreA X151 hx (Ls' := fun z => #[.val (.long f_), .second, .val (.int ln_), .val (.int cn_), .val (.long m_), .second, .val (.int k_), .val (.int i1), .val (.int i2), .val (.ref ca3), .val (.ref ca5), .val (.ref x113), .val (.ref x117), .val (.ref x146), .val (.int r149), .val (.int r151), .val (.int z), .unset]) (hb hby at_99) rfl (fun _ => rfl) ?_
    intro i152 hi152
    show Wp p e below _ _ T151 (mkF m 101 #[.val (.long f_), .second, .val (.int ln_), .val (.int cn_), .val (.long m_), .second, .val (.int k_), .val (.int i1), .val (.int i2), .val (.ref ca3), .val (.ref ca5), .val (.ref x113), .val (.ref x117), .val (.ref x146), .val (.int r149), .val (.int r151), .val (.int i152), .unset] [])
    have hN : i152.toInt = ((txt (sb4 c03 c13 c23 c33 i1.toNatClampNeg) ln_ cn_ (sb4 c05 c15 c25 c35 i2.toNatClampNeg)).length : Int) := own_len hF5 hM5 q149_0 q151_0 hi152
    refine Wk.aload X151 hx (hb hby at_101) rfl rfl rfl ?_
    refine Wk.callV X151 hx hZ146 (y := (⟨"java/lang/String", "length", "()I"⟩ : MethodName)) (z := (⟨"java/lang/String", "length", "()I"⟩ : MethodName)) ho146 (w 211 _ rfl) (w 103 _ rfl) (notFace_of_selects (args := #[]) (mvT hZ146 (w 105 _ rfl))) (w 105 _ rfl) (w 104 _ rfl) (by decide) (as' := []) (backOf (W := 0) (rm_len l Z a0 hw [] x146 t146 kb146 nn146 us146 G1 h146 O147 SG1 nG1 q146_2 q146_3 q146_4 q146_5) hZ146 (w 106 _ rfl) (w 13 _ rfl) (by decide) (by decide)) e151 q146_2 (by rw [hml]; rfl) (rest := []) (lenOf pd15 rfl) rfl (Nat.le_of_eq rfl) (hb hby at_103) rfl (by decide) (by decide) ?_
    intro T153 h153 v153 L153 X153 e153 hQ153
    obtain ⟨rfl, Nq153, K153⟩ := hQ153
    have N153 := Fk.app N151 Nq153 KK150.1 all0
    rw [K153] at e153
    show Wp p e below _ _ T153 (mkF m 106 #[.val (.long f_), .second, .val (.int ln_), .val (.int cn_), .val (.long m_), .second, .val (.int k_), .val (.int i1), .val (.int i2), .val (.ref ca3), .val (.ref ca5), .val (.ref x113), .val (.ref x117), .val (.ref x146), .val (.int r149), .val (.int r151), .val (.int i152), .unset] [(.int nn146)])
    refine Wk.iload X153 hx (hb hby at_106) rfl rfl ?_
    refine Wk.icmpYes X153 hx (hb hby at_108) (by decide) (q := 113) rfl (teq (own_eqn hN q146_6.1)).1 ?_
    refine Wk.iload X153 hx (hb hby at_113) rfl rfl ?_
    refine Wk.ldcInt X153 hx hZ146 ho146 (w 212 _ rfl) (hb hby at_115) rfl ?_
    refine Wk.iand X153 hx (hb hby at_117) rfl ?_
    refine Wk.iload X153 hx (hb hby at_118) rfl rfl ?_
    refine Wk.irem X153 hx (hb hby at_120) rfl (own_nn4 hN) ?_
    refine Wk.istoreA X153 hx (Ls' := fun z => #[.val (.long f_), .second, .val (.int ln_), .val (.int cn_), .val (.long m_), .second, .val (.int k_), .val (.int i1), .val (.int i2), .val (.ref ca3), .val (.ref ca5), .val (.ref x113), .val (.ref x117), .val (.ref x146), .val (.int r149), .val (.int r151), .val (.int i152), .val (.int z)]) (hb hby at_121) rfl (fun _ => rfl) ?_
    intro i154 hi154
    show Wp p e below _ _ T153 (mkF m 123 #[.val (.long f_), .second, .val (.int ln_), .val (.int cn_), .val (.long m_), .second, .val (.int k_), .val (.int i1), .val (.int i2), .val (.ref ca3), .val (.ref ca5), .val (.ref x113), .val (.ref x117), .val (.ref x146), .val (.int r149), .val (.int r151), .val (.int i152), .val (.int i154)] [])
    obtain ⟨kk, hkp, hkk⟩ := own_p ⟨sb4_le _ _ _ _ _, sb4_le _ _ _ _ _⟩ hN hi154
    obtain ⟨cc, hLc, hcq⟩ := (latB_txt ln_ cn_ (latB_sb4 q3_2 q3_3 q3_4 q3_5 _) (latB_sb4 q5_2 q5_3 q5_4 q5_5 _)).at hkk
    refine Wk.aload X153 hx (hb hby at_123) rfl rfl rfl ?_
    refine Wk.iload X153 hx (hb hby at_125) rfl rfl ?_
    refine Wk.callV X153 hx hZ146 (y := (⟨"java/lang/String", "charAt", "(I)C"⟩ : MethodName)) (z := (⟨"java/lang/String", "charAt", "(I)C"⟩ : MethodName)) ho146 (w 213 _ rfl) (w 214 _ rfl) (notFace_of_selects (args := #[]) (mvT hZ146 (w 216 _ rfl))) (w 216 _ rfl) (w 215 _ rfl) (by decide) (as' := [(.int i154)]) (backOf (W := 0) (rm_cha l Z a0 hw [] x146 t146 G1 i154 kb146 nn146 us146 cc G3 h146 O147 SG1 nG1 rG3 SG3 q146_2 q146_3 q146_4 q146_5 (own_nn hkp) (own_ilt q146_6.1 hkp hkk) (own_hge q146_6 hkp hkk hcq) hLc) hZ146 (w 217 _ rfl) (w 13 _ rfl) (by decide) (by decide)) e153 q146_2 (by rw [hml]; rfl) (rest := []) (lenOf pd47 rfl) rfl (Nat.le_of_eq rfl) (hb hby at_127) rfl (by decide) (by decide) ?_
    intro T155 h155 v155 L155 X155 e155 hQ155
    obtain ⟨rfl, Nq155, K155⟩ := hQ155
    have N155 := Fk.app N153 Nq155 KK150.1 all0
    rw [K155] at e155
    show Wp p e below _ _ T155 (mkF m 130 #[.val (.long f_), .second, .val (.int ln_), .val (.int cn_), .val (.long m_), .second, .val (.int k_), .val (.int i1), .val (.int i2), .val (.ref ca3), .val (.ref ca5), .val (.ref x113), .val (.ref x117), .val (.ref x146), .val (.int r149), .val (.int r151), .val (.int i152), .val (.int i154)] [(.int cc)])
    refine Wk.aload X155 hx (hb hby at_130) rfl rfl rfl ?_
    refine Wk.iload X155 hx (hb hby at_132) rfl rfl ?_
    refine Wk.iloadN X155 hx (hb hby at_134) rfl rfl ?_
    refine Wk.iload X155 hx (hb hby at_135) rfl rfl ?_
    refine Wk.iloadN X155 hx (hb hby at_137) rfl rfl ?_
    refine Wk.iload X155 hx (hb hby at_138) rfl rfl ?_
    refine Wk.aload X155 hx (hb hby at_140) rfl rfl rfl ?_
    refine Wk.iload X155 hx (hb hby at_142) rfl rfl ?_
    have KK156 : Keep h5 h117 [] := (((Keep.refl h5 []).trans K113 all0).trans K117 all0)
    have KK157 : Keep h5 h146 [] := ((((((Keep.refl h5 []).trans K113 all0).trans K117 all0).ext E120).trans K127 (allS (Or.inr (Nat.le_trans KK156.1 (Nat.le_of_eq g120))) all0)).trans K146 all0)
    have f158 := (f112.keep KK157 nin0)
    have f159 := (q5_1.keep KK157 nin0)
    refine Wk.callS X155 hx hZ146 ho146 (w 235 _ rfl) (w 236 _ rfl) (w 4 _ rfl) (w 237 _ rfl) (by decide) (as' := [(.ref ca3), (.int i1), (.int ln_), (.int r149), (.int cn_), (.int r151), (.ref ca5), (.int i154)]) (backOf (W := 1) (rm_exp l Z a0 hw [] ca3 kc3 c03 c13 c23 c33 i1 ln_ r149 cn_ r151 ca5 kc5 c05 c15 c25 c35 i154 i2 kk h146 O147 f158 f159 q3_2 q3_3 q3_4 q3_5 q5_2 q5_3 q5_4 q5_5 hF5 hM5 q149_0 q151_0 hkp hkk) hZ146 (w 237 _ rfl) (w 4 _ rfl) (by decide) (by decide)) e155 (by rw [hml]; rfl) (rest := [(.int cc)]) (lenOf pd48 rfl) rfl (Nat.le_of_eq rfl) (hb hby at_144) rfl (by decide) (by decide) ?_
    intro T160 h160 v160 L160 X160 e160 hQ160
    obtain ⟨r160, rfl, Nq160, K160, q160_0, q160_1⟩ := hQ160
    have N160 := Fk.app N155 Nq160 KK150.1 all0
    have O161 : Old Z Z.heap.size h160 := O147.keep K160 all0
    show Wp p e below _ _ T160 (mkF m 147 #[.val (.long f_), .second, .val (.int ln_), .val (.int cn_), .val (.long m_), .second, .val (.int k_), .val (.int i1), .val (.int i2), .val (.ref ca3), .val (.ref ca5), .val (.ref x113), .val (.ref x117), .val (.ref x146), .val (.int r149), .val (.int r151), .val (.int i152), .val (.int i154)] [(.int r160), (.int cc)])
    refine Wk.icmpNo X160 hx (hb hby at_147) rfl (teq (b8_inj hLc q160_0 (hcq.symm.trans q160_1))).2 ?_
    refine Wk.iconst X160 hx (v := (1 : Int32)) (hb hby at_150) rfl rfl ?_
    refine Wk.goto X160 hx (hb hby at_151) (by decide) (q := 155) rfl ?_
    have KK162 : Keep h0 h160 [] := (KK150.trans K160 all0)
    have KK163 : Keep h146 h160 [] := ((Keep.refl h146 []).trans K160 all0)
    exact Wk.retZW X160 hx hS146 (Nat.le_trans (Nat.le_refl _) KK163.1) hlk hr (by simp) (hb hby at_155) (by decide) (by decide) (Qc := Q_rm_law Z f_ ln_ cn_ m_ k_ G1 G3 da kd dt kt h0) e160 (fun vm' hw' => ⟨rfl, N160, KK162⟩)
  refine Wk.aload X113 hx (hb hby at_47) rfl rfl rfl ?_
  refine Wk.iload X113 hx (hb hby at_49) rfl rfl ?_
  have KK164 : Keep h5 h113 [] := ((Keep.refl h5 []).trans K113 all0)
  have f165 := (q5_1.keep KK164 nin0)
  refine Wk.callS X113 hx hZ hown (w 8 _ rfl) (w 9 _ rfl) (w 4 _ rfl) (w 10 _ rfl) (by decide) (as' := [(.ref ca5), (.int i2)]) (backOf (W := 0) (rm_strP l Z a0 hw [] ca5 kc5 c05 c15 c25 c35 i2 G1 h113 O115 SG1 nG1 f165 q5_2 q5_3 q5_4 q5_5 hM5 hz116) hZ (w 10 _ rfl) (w 4 _ rfl) (by decide) (by decide)) e113 (by rw [hml]; rfl) (rest := []) (lenOf pd45 rfl) rfl (Nat.le_of_eq rfl) (hb hby at_51) rfl (by decide) (by decide) ?_
  intro T166 h166 v166 L166 X166 e166 hQ166
  obtain ⟨x166, t166, kb166, us166, rfl, Nq166, K166, q166_0, q166_1, q166_2, q166_3, q166_4, q166_5, q166_6⟩ := hQ166
  have KK167 : Keep h0 h113 [] := (KK114.trans K113 all0)
  have N166 := Fk.app N113 Nq166 KK167.1 all0
  have O168 : Old Z Z.heap.size h166 := O115.keep K166 all0
  show Wp p e below _ _ T166 (mkF m 54 #[.val (.long f_), .second, .val (.int ln_), .val (.int cn_), .val (.long m_), .second, .val (.int k_), .val (.int i1), .val (.int i2), .val (.ref ca3), .val (.ref ca5), .val (.ref x113), .unset, .unset, .unset, .unset, .unset, .unset] [(.ref x166)])
  refine Wk.astore X166 hx (Ls' := #[.val (.long f_), .second, .val (.int ln_), .val (.int cn_), .val (.long m_), .second, .val (.int k_), .val (.int i1), .val (.int i2), .val (.ref ca3), .val (.ref ca5), .val (.ref x113), .val (.ref x166), .unset, .unset, .unset, .unset, .unset]) (hb hby at_54) rfl rfl rfl ?_
  have Ib169 : IB Z vm ("" :: []) := ibMono I0 (by simp)
  refine Wk.new X166 hx hZ hown (w 43 _ rfl) (w 44 _ rfl) (w 45 _ rfl) e166 (hb hby at_56) rfl (by decide) (by decide) ?_
  intro T170 h170 a170 g170 X170 e170 E170 A170 D170
  have O171 : Old Z Z.heap.size h170 := O168.ext E170
  have f172 : Fld Z h170 a170 "com/example/lukko/lukko/RuleProblem" "file" "Ljava/lang/String;" .null := D170 (Or.inr (w 62 _ rfl)) (ty := (.object "java/lang/String")) (by decide)
  have f173 : Fld Z h170 a170 "com/example/lukko/lukko/RuleProblem" "line" "I" (.int (0 : Int32)) := D170 (Or.inr (w 64 _ rfl)) (ty := .int) (by decide)
  have f174 : Fld Z h170 a170 "com/example/lukko/lukko/RuleProblem" "column" "I" (.int (0 : Int32)) := D170 (Or.inr (w 66 _ rfl)) (ty := .int) (by decide)
  have f175 : Fld Z h170 a170 "com/example/lukko/lukko/RuleProblem" "message" "Ljava/lang/String;" .null := D170 (Or.inr (w 68 _ rfl)) (ty := (.object "java/lang/String")) (by decide)
  refine Wk.dup X170 hx (hb hby at_59) rfl rfl ?_
  refine Wk.aload X170 hx (hb hby at_60) rfl rfl rfl ?_
  refine Wk.iloadN X170 hx (hb hby at_62) rfl rfl ?_
  refine Wk.iloadN X170 hx (hb hby at_63) rfl rfl ?_
  refine Wk.aload X170 hx (hb hby at_64) rfl rfl rfl ?_
  have KK176 : Keep h0 h166 [] := (KK167.trans K166 all0)
  have KK178 : Keep h0 h170 [] := (KK176.ext E170)
  refine Wk.callIW X170 hx hS (Nat.le_trans (Nat.le_refl _) KK178.1) hZ rfl hown (w 46 _ rfl) (w 47 _ rfl) (w 48 _ rfl) (by decide) (as' := [(.ref x113), (.int ln_), (.int cn_), (.ref x166)]) (payW (W := 1) (rm_rpi l Z a0 hw [] a170 x113 ln_ cn_ x166 h170 O171 hcw hheld A170 f172 f173 f174 f175 (Nat.le_trans (Nat.le_trans (Nat.le_trans (Nat.le_of_eq O0.1.symm) O0.2.1) KK176.1) (Nat.le_of_eq g170))) (s := s.setVm vm) hZ (w 48 _ rfl) (w 45 _ rfl) (by decide) (by decide) (fun _ q => ibWarm Ib169 q)) e170 (by rw [hml]; rfl) (rest := [(.ref a170)]) (lenOf pd46 rfl) rfl (Nat.le_of_eq rfl) (hb hby at_66) rfl (by decide) (by decide) ?_
  intro T177 h177 v177 L177 vm177 X177 e177 hS177 hZ177 ho177 w39_177 hQ177
  obtain ⟨rfl, Nq177, K177, q177_0, q177_1, q177_2, q177_3, q177_4, y177_0⟩ := hQ177
  have N177 := Fk.app N166 Nq177 KK178.1 (allS (Or.inr (Nat.le_trans KK176.1 (Nat.le_of_eq g170))) all0)
  have O179 : Old Z Z.heap.size h177 := O171.keep K177 (allS (Nat.le_trans (Nat.le_trans (Nat.le_trans (Nat.le_of_eq O0.1.symm) O0.2.1) KK176.1) (Nat.le_of_eq g170)) all0)
  show Wp p e below _ _ T177 (mkF m 69 #[.val (.long f_), .second, .val (.int ln_), .val (.int cn_), .val (.long m_), .second, .val (.int k_), .val (.int i1), .val (.int i2), .val (.ref ca3), .val (.ref ca5), .val (.ref x113), .val (.ref x166), .unset, .unset, .unset, .unset, .unset] [(.ref a170)])
  have KK180 : Keep h113 h166 [] := ((Keep.refl h113 []).trans K166 all0)
  have KK181 : Keep h113 h177 [] := ((((Keep.refl h113 []).trans K166 all0).ext E170).trans K177 (allS (Or.inr (Nat.le_trans KK180.1 (Nat.le_of_eq g170))) all0))
  have f182 : Exa Z h177 x113 "java/lang/String" := (q113_2.keep KK181)
  have f183 : Fld Z h177 x113 "java/lang/String" "coder" "B" (.int (0 : Int32)) := (q113_3.keep KK181 nin0)
  have f184 : Fld Z h177 x113 "java/lang/String" "value" "[B" (.ref t113) := (q113_4.keep KK181 nin0)
  have f185 := (q113_5.keep KK181 nin0)
  have KK186 : Keep h166 h177 [] := (((Keep.refl h166 []).ext E170).trans K177 (allS (Or.inr (Nat.le_of_eq g170)) all0))
  have f187 : Exa Z h177 x166 "java/lang/String" := (q166_2.keep KK186)
  have f188 : Fld Z h177 x166 "java/lang/String" "coder" "B" (.int (0 : Int32)) := (q166_3.keep KK186 nin0)
  have f189 : Fld Z h177 x166 "java/lang/String" "value" "[B" (.ref t166) := (q166_4.keep KK186 nin0)
  have f190 := (q166_5.keep KK186 nin0)
  have KK191 : Keep h0 h177 [] := (KK178.trans K177 (allS (Or.inr (Nat.le_trans KK176.1 (Nat.le_of_eq g170))) all0))
  have f192 := (pO.keep KK191 nin0)
  have f193 := (pN.keep KK191 nin0)
  refine Wk.callVW X177 hx hS177 (Nat.le_refl _) hZ177 (y := (⟨"com/example/lukko/lukko/RuleProblem", "text", "()Ljava/lang/String;"⟩ : MethodName)) (z := (⟨"com/example/lukko/lukko/RuleProblem", "text", "()Ljava/lang/String;"⟩ : MethodName)) ho177 (w 69 _ rfl) (w 70 _ rfl) (notFace_of_selects (args := #[]) (mvT hZ177 (w 72 _ rfl))) (w 72 _ rfl) (w 71 _ rfl) (by decide) (as' := []) (payW (W := 0) (rm_txt l Z a0 hw [] a170 ln_ cn_ x113 t113 kb113 i1 us113 x166 t166 kb166 i2 us166 (sb4 c03 c13 c23 c33 i1.toNatClampNeg) (sb4 c05 c15 c25 c35 i2.toNatClampNeg) da kd dt kt G1 h177 O179 hcw hheld SG1 nG1 q177_0 q177_1 q177_2 q177_3 q177_4 f182 f183 f184 f185 f187 f188 f189 f190 sO f192 sN f193 q113_6 q166_6 (sb4_le _ _ _ _ _) (sb4_le _ _ _ _ _)) (s := s.setVm vm177) hZ177 (w 73 _ rfl) (w 45 _ rfl) (by decide) (by decide) (fun _ q => ibWarm y177_0 q)) e177 q177_0 (by rw [hml]; rfl) (rest := []) (lenOf pd43 rfl) rfl (Nat.le_of_eq rfl) (hb hby at_69) rfl (by decide) (by decide) ?_
  intro T194 h194 v194 L194 vm194 X194 e194 hS194 hZ194 ho194 w39_194 hQ194
  obtain ⟨x194, t194, kb194, nn194, us194, rfl, Nq194, K194, q194_0, q194_1, q194_2, q194_3, q194_4, q194_5, q194_6, y194_0⟩ := hQ194
  have N194 := Fk.app N177 Nq194 KK191.1 all0
  have O195 : Old Z Z.heap.size h194 := O179.keep K194 all0
  show Wp p e below _ _ T194 (mkF m 72 #[.val (.long f_), .second, .val (.int ln_), .val (.int cn_), .val (.long m_), .second, .val (.int k_), .val (.int i1), .val (.int i2), .val (.ref ca3), .val (.ref ca5), .val (.ref x113), .val (.ref x166), .unset, .unset, .unset, .unset, .unset] [(.ref x194)])
  refine Wk.astore X194 hx (Ls' := #[.val (.long f_), .second, .val (.int ln_), .val (.int cn_), .val (.long m_), .second, .val (.int k_), .val (.int i1), .val (.int i2), .val (.ref ca3), .val (.ref ca5), .val (.ref x113), .val (.ref x166), .val (.ref x194), .unset, .unset, .unset, .unset]) (hb hby at_72) rfl rfl rfl ?_
  refine Wk.iloadN X194 hx (hb hby at_74) rfl rfl ?_
  refine Wk.callS X194 hx hZ194 ho194 (w 204 _ rfl) (w 205 _ rfl) (w 4 _ rfl) (w 206 _ rfl) (by decide) (as' := [(.int ln_)]) (backOf (W := 0) (rm_dln l Z a0 hw [] ln_ h194 O195) hZ194 (w 206 _ rfl) (w 4 _ rfl) (by decide) (by decide)) e194 (by rw [hml]; rfl) (rest := []) (lenOf pd11 rfl) rfl (Nat.le_of_eq rfl) (hb hby at_75) rfl (by decide) (by decide) ?_
  intro T196 h196 v196 L196 X196 e196 hQ196
  obtain ⟨r196, rfl, Nq196, K196, q196_0⟩ := hQ196
  have KK197 : Keep h0 h194 [] := (KK191.trans K194 all0)
  have N196 := Fk.app N194 Nq196 KK197.1 all0
  rw [K196] at e196
  show Wp p e below _ _ T196 (mkF m 78 #[.val (.long f_), .second, .val (.int ln_), .val (.int cn_), .val (.long m_), .second, .val (.int k_), .val (.int i1), .val (.int i2), .val (.ref ca3), .val (.ref ca5), .val (.ref x113), .val (.ref x166), .val (.ref x194), .unset, .unset, .unset, .unset] [(.int r196)])
  refine Wk.istore X196 hx (Ls' := #[.val (.long f_), .second, .val (.int ln_), .val (.int cn_), .val (.long m_), .second, .val (.int k_), .val (.int i1), .val (.int i2), .val (.ref ca3), .val (.ref ca5), .val (.ref x113), .val (.ref x166), .val (.ref x194), .val (.int r196), .unset, .unset, .unset]) (hb hby at_78) rfl rfl ?_
  refine Wk.iloadN X196 hx (hb hby at_80) rfl rfl ?_
  refine Wk.callS X196 hx hZ194 ho194 (w 204 _ rfl) (w 205 _ rfl) (w 4 _ rfl) (w 206 _ rfl) (by decide) (as' := [(.int cn_)]) (backOf (W := 0) (rm_dln l Z a0 hw [] cn_ h194 O195) hZ194 (w 206 _ rfl) (w 4 _ rfl) (by decide) (by decide)) e196 (by rw [hml]; rfl) (rest := []) (lenOf pd11 rfl) rfl (Nat.le_of_eq rfl) (hb hby at_81) rfl (by decide) (by decide) ?_
  intro T198 h198 v198 L198 X198 e198 hQ198
  obtain ⟨r198, rfl, Nq198, K198, q198_0⟩ := hQ198
  have N198 := Fk.app N196 Nq198 KK197.1 all0
  rw [K198] at e198
  show Wp p e below _ _ T198 (mkF m 84 #[.val (.long f_), .second, .val (.int ln_), .val (.int cn_), .val (.long m_), .second, .val (.int k_), .val (.int i1), .val (.int i2), .val (.ref ca3), .val (.ref ca5), .val (.ref x113), .val (.ref x166), .val (.ref x194), .val (.int r196), .unset, .unset, .unset] [(.int r198)])
  refine Wk.istore X198 hx (Ls' := #[.val (.long f_), .second, .val (.int ln_), .val (.int cn_), .val (.long m_), .second, .val (.int k_), .val (.int i1), .val (.int i2), .val (.ref ca3), .val (.ref ca5), .val (.ref x113), .val (.ref x166), .val (.ref x194), .val (.int r196), .val (.int r198), .unset, .unset]) (hb hby at_84) rfl rfl ?_
  refine Wk.iload X198 hx (hb hby at_86) rfl rfl ?_
  refine Wk.iload X198 hx (hb hby at_88) rfl rfl ?_
  refine Wk.iadd X198 hx (hb hby at_90) rfl ?_
  refine Wk.iload X198 hx (hb hby at_91) rfl rfl ?_
  refine Wk.iadd X198 hx (hb hby at_93) rfl ?_
  refine Wk.iload X198 hx (hb hby at_94) rfl rfl ?_
  refine Wk.iadd X198 hx (hb hby at_96) rfl ?_
  refine Wk.iconst X198 hx (v := (4 : Int32)) (hb hby at_97) rfl rfl ?_
  refine Wk.iadd X198 hx (hb hby at_98) rfl ?_
  refine Wk.istoreA X198 hx (Ls' := fun z => #[.val (.long f_), .second, .val (.int ln_), .val (.int cn_), .val (.long m_), .second, .val (.int k_), .val (.int i1), .val (.int i2), .val (.ref ca3), .val (.ref ca5), .val (.ref x113), .val (.ref x166), .val (.ref x194), .val (.int r196), .val (.int r198), .val (.int z), .unset]) (hb hby at_99) rfl (fun _ => rfl) ?_
  intro i199 hi199
  show Wp p e below _ _ T198 (mkF m 101 #[.val (.long f_), .second, .val (.int ln_), .val (.int cn_), .val (.long m_), .second, .val (.int k_), .val (.int i1), .val (.int i2), .val (.ref ca3), .val (.ref ca5), .val (.ref x113), .val (.ref x166), .val (.ref x194), .val (.int r196), .val (.int r198), .val (.int i199), .unset] [])
  have hN : i199.toInt = ((txt (sb4 c03 c13 c23 c33 i1.toNatClampNeg) ln_ cn_ (sb4 c05 c15 c25 c35 i2.toNatClampNeg)).length : Int) := own_len hF5 hM5 q196_0 q198_0 hi199
  refine Wk.aload X198 hx (hb hby at_101) rfl rfl rfl ?_
  refine Wk.callV X198 hx hZ194 (y := (⟨"java/lang/String", "length", "()I"⟩ : MethodName)) (z := (⟨"java/lang/String", "length", "()I"⟩ : MethodName)) ho194 (w 211 _ rfl) (w 103 _ rfl) (notFace_of_selects (args := #[]) (mvT hZ194 (w 105 _ rfl))) (w 105 _ rfl) (w 104 _ rfl) (by decide) (as' := []) (backOf (W := 0) (rm_len l Z a0 hw [] x194 t194 kb194 nn194 us194 G1 h194 O195 SG1 nG1 q194_2 q194_3 q194_4 q194_5) hZ194 (w 106 _ rfl) (w 13 _ rfl) (by decide) (by decide)) e198 q194_2 (by rw [hml]; rfl) (rest := []) (lenOf pd15 rfl) rfl (Nat.le_of_eq rfl) (hb hby at_103) rfl (by decide) (by decide) ?_
  intro T200 h200 v200 L200 X200 e200 hQ200
  obtain ⟨rfl, Nq200, K200⟩ := hQ200
  have N200 := Fk.app N198 Nq200 KK197.1 all0
  rw [K200] at e200
  show Wp p e below _ _ T200 (mkF m 106 #[.val (.long f_), .second, .val (.int ln_), .val (.int cn_), .val (.long m_), .second, .val (.int k_), .val (.int i1), .val (.int i2), .val (.ref ca3), .val (.ref ca5), .val (.ref x113), .val (.ref x166), .val (.ref x194), .val (.int r196), .val (.int r198), .val (.int i199), .unset] [(.int nn194)])
  refine Wk.iload X200 hx (hb hby at_106) rfl rfl ?_
  refine Wk.icmpYes X200 hx (hb hby at_108) (by decide) (q := 113) rfl (teq (own_eqn hN q194_6.1)).1 ?_
  refine Wk.iload X200 hx (hb hby at_113) rfl rfl ?_
  refine Wk.ldcInt X200 hx hZ194 ho194 (w 212 _ rfl) (hb hby at_115) rfl ?_
  refine Wk.iand X200 hx (hb hby at_117) rfl ?_
  refine Wk.iload X200 hx (hb hby at_118) rfl rfl ?_
  refine Wk.irem X200 hx (hb hby at_120) rfl (own_nn4 hN) ?_
  refine Wk.istoreA X200 hx (Ls' := fun z => #[.val (.long f_), .second, .val (.int ln_), .val (.int cn_), .val (.long m_), .second, .val (.int k_), .val (.int i1), .val (.int i2), .val (.ref ca3), .val (.ref ca5), .val (.ref x113), .val (.ref x166), .val (.ref x194), .val (.int r196), .val (.int r198), .val (.int i199), .val (.int z)]) (hb hby at_121) rfl (fun _ => rfl) ?_
  intro i201 hi201
  show Wp p e below _ _ T200 (mkF m 123 #[.val (.long f_), .second, .val (.int ln_), .val (.int cn_), .val (.long m_), .second, .val (.int k_), .val (.int i1), .val (.int i2), .val (.ref ca3), .val (.ref ca5), .val (.ref x113), .val (.ref x166), .val (.ref x194), .val (.int r196), .val (.int r198), .val (.int i199), .val (.int i201)] [])
  obtain ⟨kk, hkp, hkk⟩ := own_p ⟨sb4_le _ _ _ _ _, sb4_le _ _ _ _ _⟩ hN hi201
  obtain ⟨cc, hLc, hcq⟩ := (latB_txt ln_ cn_ (latB_sb4 q3_2 q3_3 q3_4 q3_5 _) (latB_sb4 q5_2 q5_3 q5_4 q5_5 _)).at hkk
  refine Wk.aload X200 hx (hb hby at_123) rfl rfl rfl ?_
  refine Wk.iload X200 hx (hb hby at_125) rfl rfl ?_
  refine Wk.callV X200 hx hZ194 (y := (⟨"java/lang/String", "charAt", "(I)C"⟩ : MethodName)) (z := (⟨"java/lang/String", "charAt", "(I)C"⟩ : MethodName)) ho194 (w 213 _ rfl) (w 214 _ rfl) (notFace_of_selects (args := #[]) (mvT hZ194 (w 216 _ rfl))) (w 216 _ rfl) (w 215 _ rfl) (by decide) (as' := [(.int i201)]) (backOf (W := 0) (rm_cha l Z a0 hw [] x194 t194 G1 i201 kb194 nn194 us194 cc G3 h194 O195 SG1 nG1 rG3 SG3 q194_2 q194_3 q194_4 q194_5 (own_nn hkp) (own_ilt q194_6.1 hkp hkk) (own_hge q194_6 hkp hkk hcq) hLc) hZ194 (w 217 _ rfl) (w 13 _ rfl) (by decide) (by decide)) e200 q194_2 (by rw [hml]; rfl) (rest := []) (lenOf pd47 rfl) rfl (Nat.le_of_eq rfl) (hb hby at_127) rfl (by decide) (by decide) ?_
  intro T202 h202 v202 L202 X202 e202 hQ202
  obtain ⟨rfl, Nq202, K202⟩ := hQ202
  have N202 := Fk.app N200 Nq202 KK197.1 all0
  rw [K202] at e202
  show Wp p e below _ _ T202 (mkF m 130 #[.val (.long f_), .second, .val (.int ln_), .val (.int cn_), .val (.long m_), .second, .val (.int k_), .val (.int i1), .val (.int i2), .val (.ref ca3), .val (.ref ca5), .val (.ref x113), .val (.ref x166), .val (.ref x194), .val (.int r196), .val (.int r198), .val (.int i199), .val (.int i201)] [(.int cc)])
  refine Wk.aload X202 hx (hb hby at_130) rfl rfl rfl ?_
  refine Wk.iload X202 hx (hb hby at_132) rfl rfl ?_
  refine Wk.iloadN X202 hx (hb hby at_134) rfl rfl ?_
  refine Wk.iload X202 hx (hb hby at_135) rfl rfl ?_
  refine Wk.iloadN X202 hx (hb hby at_137) rfl rfl ?_
  refine Wk.iload X202 hx (hb hby at_138) rfl rfl ?_
  refine Wk.aload X202 hx (hb hby at_140) rfl rfl rfl ?_
  refine Wk.iload X202 hx (hb hby at_142) rfl rfl ?_
  have KK203 : Keep h5 h166 [] := (KK164.trans K166 all0)
  have KK204 : Keep h5 h194 [] := ((((KK164.trans K166 all0).ext E170).trans K177 (allS (Or.inr (Nat.le_trans KK203.1 (Nat.le_of_eq g170))) all0)).trans K194 all0)
  have f205 := (f112.keep KK204 nin0)
  have KK206 : Keep h113 h194 [] := (KK181.trans K194 all0)
  have f207 := (f165.keep KK206 nin0)
  refine Wk.callS X202 hx hZ194 ho194 (w 235 _ rfl) (w 236 _ rfl) (w 4 _ rfl) (w 237 _ rfl) (by decide) (as' := [(.ref ca3), (.int i1), (.int ln_), (.int r196), (.int cn_), (.int r198), (.ref ca5), (.int i201)]) (backOf (W := 1) (rm_exp l Z a0 hw [] ca3 kc3 c03 c13 c23 c33 i1 ln_ r196 cn_ r198 ca5 kc5 c05 c15 c25 c35 i201 i2 kk h194 O195 f205 f207 q3_2 q3_3 q3_4 q3_5 q5_2 q5_3 q5_4 q5_5 hF5 hM5 q196_0 q198_0 hkp hkk) hZ194 (w 237 _ rfl) (w 4 _ rfl) (by decide) (by decide)) e202 (by rw [hml]; rfl) (rest := [(.int cc)]) (lenOf pd48 rfl) rfl (Nat.le_of_eq rfl) (hb hby at_144) rfl (by decide) (by decide) ?_
  intro T208 h208 v208 L208 X208 e208 hQ208
  obtain ⟨r208, rfl, Nq208, K208, q208_0, q208_1⟩ := hQ208
  have N208 := Fk.app N202 Nq208 KK197.1 all0
  have O209 : Old Z Z.heap.size h208 := O195.keep K208 all0
  show Wp p e below _ _ T208 (mkF m 147 #[.val (.long f_), .second, .val (.int ln_), .val (.int cn_), .val (.long m_), .second, .val (.int k_), .val (.int i1), .val (.int i2), .val (.ref ca3), .val (.ref ca5), .val (.ref x113), .val (.ref x166), .val (.ref x194), .val (.int r196), .val (.int r198), .val (.int i199), .val (.int i201)] [(.int r208), (.int cc)])
  refine Wk.icmpNo X208 hx (hb hby at_147) rfl (teq (b8_inj hLc q208_0 (hcq.symm.trans q208_1))).2 ?_
  refine Wk.iconst X208 hx (v := (1 : Int32)) (hb hby at_150) rfl rfl ?_
  refine Wk.goto X208 hx (hb hby at_151) (by decide) (q := 155) rfl ?_
  have KK210 : Keep h0 h208 [] := (KK197.trans K208 all0)
  have KK211 : Keep h194 h208 [] := ((Keep.refl h194 []).trans K208 all0)
  exact Wk.retZW X208 hx hS194 (Nat.le_trans (Nat.le_refl _) KK211.1) hlk hr (by simp) (hb hby at_155) (by decide) (by decide) (Qc := Q_rm_law Z f_ ln_ cn_ m_ k_ G1 G3 da kd dt kt h0) e208 (fun vm' hw' => ⟨rfl, N208, KK210⟩)
theorem addF {args : Array Value} {s : State} {a b : Term} {idx : List Nat} {x y : Int32} (ha : a.eval args s none idx s = some (.int x)) (hb : b.eval args s none idx s = some (.int y)) : (Term.add a b).eval args s none idx s = some (.int (x + y)) := by simp [Term.eval, ha, hb]
theorem eqInt {args : Array Value} {s : State} {t u : Term} {idx : List Nat} {n : Int32} (h : (Cond.eq t u).value args s none s idx = some true) (hu : u.eval args s none idx s = some (.int n)) : t.eval args s none idx s = some (.int n) := by
  cases ht : t.eval args s none idx s with
  | none => simp [Cond.value, ht] at h
  | some x => cases x <;> simp [Cond.value, ht, hu] at h ⊢; exact h
theorem digStart {args a0 : Array Value} {s : State} {t E : Term} {x : Addr} {f : Nat → Int32} {vs : List Value} (hf : Fit s) (et : ∀ idx, t.eval args s none idx s = some (.ref x)) (hx : (Cond.exactly t "[B").value args s none s [] = some true) (wA : (Cond.arrayClass .byte).before a0 s = true)
    (hl : (Cond.eq (Term.length t) (.int (100 : Int32))).value args s none s [] = some true) (hall : (Cond.all t (.eq (.elem t (.index 0)) E)).value args s none s [] = some true) (hE : ∀ j : Nat, j < 100 → E.eval args s none [j] s = some (.int (f j))) (hvs : vs = (List.range 100).map fun i => Value.int (f i)) :
    ∃ k, Arv s s.heap x k .byte (100 : Int32) vs (.int (0 : Int32)) := by
  obtain ⟨cell, k, h1, h2, h3, h4, -⟩ := Exa.start (et []) hx
  obtain ⟨c, k', comp, a1, a2, a3⟩ := Cond.arrayClass_spec wA
  have en : ("[" ++ FieldType.byte.toString) = "[B" := by decide
  rw [en, h2] at a1
  cases a1
  rw [h3] at a2
  cases a2
  have hu : cell.vm ≠ .unknown := by
    intro q
    have n : s.arrayAt? x = none := by simp [State.arrayAt?, h1, h3, q]
    have e := Term.length_of_no_array (args := args) (first := s) (o := none) (idx := []) (et []) n
    simp [Cond.value, e] at hl
  have A : Arr s s.heap x cell .byte := ⟨h1, ⟨(fun q e => by rw [e] at h4; cases h4), k, h3, comp, a3⟩, hu⟩
  obtain ⟨l1, l2⟩ := lenStart A (et []) hl
  have S : cell.slots.size = (100 : Int32).toNatClampNeg := by rw [← l2]; simp only [Int32.toNatClampNeg, len_toInt l1]; rfl
  have S' : cell.slots.size = 100 := S
  have e1 : ∀ j, j < cell.slots.size → (Nat.toInt32 j).toNatClampNeg = j := fun j hj => by simp only [Int32.toNatClampNeg, len_toInt (Nat.lt_trans hj l1)]; rfl
  have H : Has cell vs (.int (0 : Int32)) := fun j hj => by
    have q := Cond.all_elim (et []) (A.fin (Vm.Alike.refl _)) hall j hj
    have v := eqInt q (hE j (by omega))
    have r := (elem_in v (et [j]) (Term.index_eval j) h1).2
    rw [e1 j hj] at r
    rw [r, hvs]
    have hj' : j < 100 := by omega
    simp [List.getD_eq_getElem?_getD, hj']
  refine ⟨cell.cls, cell, A, rfl, S, by decide, H, fun j hj => ?_⟩
  exact elem_fits (j := Nat.toInt32 j) hf A (idx_in hj l1) (by rw [e1 j hj]; exact H j hj)
theorem dig_ones {args : Array Value} {s : State} : ∀ j : Nat, j < 100 → (Term.add (.int (48 : Int32)) (.rem (.index 0) (.int (10 : Int32)))).eval args s none [j] s = some (.int (Nat.toInt32 (48 + j % 10))) := fun j hj => by
  have k : ∀ i : Fin 100, (48 : Int32) + (Nat.toInt32 i.1 % 10) = Nat.toInt32 (48 + i.1 % 10) := by decide +kernel
  rw [← k ⟨j, hj⟩]
  exact addF (Term.int_eval _) (rem_f (Term.index_eval j) (Term.int_eval _) (by decide))
theorem dig_tens {args : Array Value} {s : State} : ∀ j : Nat, j < 100 → (Term.add (.int (48 : Int32)) (.div (.index 0) (.int (10 : Int32)))).eval args s none [j] s = some (.int (Nat.toInt32 (48 + j / 10))) := fun j hj => by
  have k : ∀ i : Fin 100, (48 : Int32) + (Nat.toInt32 i.1 / 10) = Nat.toInt32 (48 + i.1 / 10) := by decide +kernel
  rw [← k ⟨j, hj⟩]
  exact addF (Term.int_eval _) (div_f (Term.index_eval j) (Term.int_eval _) (by decide))
set_option maxRecDepth 65536 in
set_option maxHeartbeats 40000000 in
theorem comes_1 {Post : Tables → Env → Array Value → State → Outcome → State → Prop} (hpost : ∀ tb e args s v u, (limb_1_1.after args s (.returned v) u = true ∧ limb_1_2.after args s (.returned v) u = true ∧ True) → ReturnedEndW s (.returned v) u (Jvm.fieldLocs frame_1_writes args s ++ Jvm.arrayLocs frame_1_arrays args s ++ Jvm.staticLocs frame_1_statics s) 48 5504 → Post tb e args s (.returned v) u) :
    ArmFor flags0 classFile x code maxLocals ret World_1 tables_1 room_1 Calls_1 rest_1 Pre_1 Post := by
  intro l hfl _ _ p e ha hc hk s m args below hf hA hF happ hP
  obtain ⟨hcalls, hrest, hpre⟩ := hP
  obtain ⟨-, -, -, hnamed, -, -, -, hat⟩ := (Spec.applies_iff hf).mp happ
  obtain ⟨hg, hn⟩ := and_e (Cond.before_iff.mp (show (Jvm.Cond.and given_1 narrow_1).before args s = true from hpre))
  obtain ⟨hcount, hk0⟩ := and_e hg
  obtain ⟨ha0, hk1⟩ := and_e hk0
  obtain ⟨ha1, hk2⟩ := and_e hk1
  obtain ⟨ha2, hk3⟩ := and_e hk2
  obtain ⟨ha3, hk4⟩ := and_e hk3
  have ha4 := hk4
  obtain ⟨w0, w1, w2, w3, w4, rfl⟩ : ∃ w0 w1 w2 w3 w4 : Value, args = #[w0, w1, w2, w3, w4] := by
    have hs : args.size = 5 := by simpa [Cond.value, given_1] using hcount
    obtain ⟨L⟩ := args
    match L, hs with
    | [w0, w1, w2, w3, w4], _ => exact ⟨w0, w1, w2, w3, w4, rfl⟩
  have hw := fun d (hd : d ∈ tables_1) => atoms_spec (ws := Jvm.Cond.code x code maxLocals ret :: tables_1) hat d (List.mem_cons_of_mem _ hd)
  have hfit : Fit s := fun {y c} hc i hi => by
    obtain ⟨ha, rfl⟩ := Array.getElem?_eq_some_iff.mp hc
    have q := List.all_eq_true.mp ((Array.all_eq_true_iff_forall_mem.mp hF) _ (Array.getElem_mem ha)) i (List.mem_range.mpr hi)
    simpa [Array.getElem?_eq_getElem hi] using q
  obtain ⟨hsets, hown0⟩ := atoms_of _ (rest_1_c_eq ▸ (show rest_1_c.before _ s = true from hrest))
  obtain ⟨i0, ei0⟩ := isL_v ha0
  obtain rfl : w0 = (.long i0) := Option.some.inj ei0
  obtain ⟨i1, ei1⟩ := is_v ha1
  obtain rfl : w1 = (.int i1) := Option.some.inj ei1
  obtain ⟨i2, ei2⟩ := is_v ha2
  obtain rfl : w2 = (.int i2) := Option.some.inj ei2
  obtain ⟨i3, ei3⟩ := isL_v ha3
  obtain rfl : w3 = (.long i3) := Option.some.inj ei3
  obtain ⟨i4, ei4⟩ := is_v ha4
  obtain rfl : w4 = (.int i4) := Option.some.inj ei4
  have n3 := not_v (Cond.before_iff.mp (hsets _ (List.mem_of_getElem? (i := 2) rfl)))
  obtain ⟨G1, eG1⟩ := is_v (Cond.before_iff.mp (hsets _ (List.mem_of_getElem? (i := 1) rfl)))
  have SG1 : Sta s s.heap "java/lang/String" "COMPACT_STRINGS" "Z" (.int G1) := Sta.start eG1 (Or.inl (hsets _ (List.mem_of_getElem? (i := 0) rfl)))
  have nG1 : ¬ (G1 = (0 : Int32)) := gotF (Cond.eq_ints eG1 (Term.int_eval (0))) n3
  obtain ⟨G3, eG3, rG3⟩ := isR_v (Cond.before_iff.mp (hsets _ (List.mem_of_getElem? (i := 8) rfl)))
  have SG3 : Sta s s.heap "jdk/internal/util/Preconditions" "SIOOBE_FORMATTER" "Ljava/util/function/BiFunction;" G3 := Sta.start eG3 (Or.inl (hsets _ (List.mem_of_getElem? (i := 7) rfl)))
  obtain ⟨da, eda⟩ := exa_v (Cond.before_iff.mp (hsets _ (List.mem_of_getElem? (i := 12) rfl)))
  have sO : Sta s s.heap "java/lang/Integer" "DigitOnes" "[B" (.ref da) := Sta.start eda (Or.inl (hsets _ (List.mem_of_getElem? (i := 11) rfl)))
  obtain ⟨kd, pO⟩ := digStart (vs := ones) hfit (fun _ => eda) (Cond.before_iff.mp (hsets _ (List.mem_of_getElem? (i := 12) rfl))) (hw _ (List.mem_of_getElem? (i := 29) rfl)) (Cond.before_iff.mp (hsets _ (List.mem_of_getElem? (i := 13) rfl))) (Cond.before_iff.mp (hsets _ (List.mem_of_getElem? (i := 14) rfl))) dig_ones rfl
  obtain ⟨dt, edt⟩ := exa_v (Cond.before_iff.mp (hsets _ (List.mem_of_getElem? (i := 17) rfl)))
  have sN : Sta s s.heap "java/lang/Integer" "DigitTens" "[B" (.ref dt) := Sta.start edt (Or.inl (hsets _ (List.mem_of_getElem? (i := 16) rfl)))
  obtain ⟨kt, pN⟩ := digStart (vs := tens) hfit (fun _ => edt) (Cond.before_iff.mp (hsets _ (List.mem_of_getElem? (i := 17) rfl))) (hw _ (List.mem_of_getElem? (i := 29) rfl)) (Cond.before_iff.mp (hsets _ (List.mem_of_getElem? (i := 18) rfl))) (Cond.before_iff.mp (hsets _ (List.mem_of_getElem? (i := 19) rfl))) dig_tens rfl
  obtain ⟨n, o, h1, h2, h3, _, L, rfl, ⟨rfl, N', -⟩, hq⟩ := rm_law l s _ hw tables_1 i0 i1 i2 i3 i4 G1 G3 da kd dt kt s.heap (Old.start s) (hsets _ (List.mem_of_getElem? (i := 2) rfl)) (fun d hd => hcalls.1 d hd) SG1 nG1 rG3 SG3 sO pO sN pN p e ha hc hk s m _ below hf ((Spec.applies_iff_loose hf).mp happ).1 ⟨rfl, State.Warmed39.refl s, rfl, IB.start⟩ trivial
  have N := Fk.fr N'
  refine ⟨n, _, h1, h2, h3, hpost _ _ _ _ _ _ ⟨Cond.after_iff.mpr rfl, Cond.after_iff.mpr (eq_i res_at (Term.int_eval (1)) rfl), trivial⟩ ⟨hq.1, hq.2.1, hq.2.2.1, (hq.2.2.2.sift fun y hy => Or.inr (N y hy)).mono (by decide) (by decide)⟩⟩
theorem main_1_1 : Claimed_1_1 := comes_1 fun _ _ _ _ _ _ h hF => ⟨h.1, hF⟩
theorem main_1_2 : Claimed_1_2 := comes_1 fun _ _ _ _ _ _ h hF => ⟨h.2.1, hF⟩
end Jvm.Pilot.@@N@@
namespace Jvm.Pilot.@@N@@
open Jvm Jvm.ClassFile Sem Op Lib Jvm.Free Jvm.Stand Jvm.Pilot.@@N@@.Jvm.D
/-! MADE BY PROGRAM (witnessworld.py) out of the Statement's table words and the real class files: 32 classes; the members and pool entries that the words name. The judged class is class 1, her method 1. -/
namespace start1
open Jvm.ClassFile
def u (s : String) : CpInfo := .utf8 (stringToUtf16 s)
/-- a pool by its gaps: so many unusable entries, then the entry; so many at the end -/
def gap : Nat → List CpInfo → List CpInfo
  | 0, r => r
  | n + 1, r => .unusable :: gap n r
def poolList (es : List (Nat × CpInfo)) (last : Nat) : List CpInfo := es.foldr (fun e r => gap e.1 (e.2 :: r)) (gap last [])
def pool (es : List (Nat × CpInfo)) (last : Nat) : Array CpInfo := ⟨poolList es last⟩
def fileOf (pool : Array CpInfo) (this : Nat) (attrs : Array Attribute := #[]) (ms : Array MethodInfo := #[]) (fl : Nat := 33) (sup : Nat := 0) (ifs : Array Nat := #[]) (fds : Array FieldInfo := #[]) : ClassFile where
  minorVersion := 0
  majorVersion := 65
  constantPool := pool
  accessFlags := fl
  thisClass := this
  superClass := sup
  interfaces := ifs
  fields := fds
  methods := ms
  attributes := attrs
def plain (name : String) (sup : Option ClassId) : Class where
  name := name
  kind := .ordinary
  loader := none
  accessFlags := 33
  super := sup
  interfaces := #[]
  cf := none
  fields := #[]
  methods := #[]
  instanceTypes := #[]
  staticTypes := #[]
  resolved := #[]
  callSites := []
  init := .initialized
  statics := none
  mirror := none

def pool0 : Array CpInfo := pool [(5, u "<init>"), (0, u "()V"), (1, .class_ 10), (1, u "java/lang/Object"), (85, u "clone"), (0, u "()Ljava/lang/Object;")] 26

def k0c0 : Code := { maxStack := 0, maxLocals := 1, code := object_method_1_code, exceptionTable := #[], attributes := #[] }
def k0m0 : Method := { name := "<init>", desc := "()V", sig := { parameters := [], returnType := none }, accessFlags := 1, code := some k0c0 }
def k0m1 : Method := { name := "clone", desc := "()Ljava/lang/Object;", sig := { parameters := [], returnType := some (.object "java/lang/Object") }, accessFlags := 260, code := none }
/-- java/lang/Object -/
def k0 : Class := { plain "java/lang/Object" none with
  accessFlags := 33
  interfaces := #[]
  cf := some (fileOf pool0 8 #[] #[{ accessFlags := 1, nameIndex := 5, descriptorIndex := 6, attributes := #[] }, { accessFlags := 260, nameIndex := 96, descriptorIndex := 97, attributes := #[] }] 33 0 #[] #[])
  fields := #[]
  methods := #[k0m0, k0m1]
  instanceTypes := #[]
  staticTypes := #[]
  resolved := Array.replicate 124 none
  statics := none }

def pool1 : Array CpInfo := pool [(2, .class_ 4), (1, u "java/lang/Object"), (0, u "<init>"), (0, u "()V"), (0, .long 7), (1, .long 5), (1, .methodref 12 13), (0, .class_ 14), (0, .nameAndType 15 16), (0, u "com/example/lukko/lukko/RuleProblemTextPinLaw"), (0, u "chars"), (0, u "(J)[C"), (0, .methodref 12 18), (0, .nameAndType 19 20), (0, u "str"), (0, u "([CI)Ljava/lang/String;"), (0, .class_ 22), (0, u "com/example/lukko/lukko/RuleProblem"), (0, .methodref 21 24), (0, .nameAndType 5 25), (0, u "(Ljava/lang/String;IILjava/lang/String;)V"), (0, .methodref 21 27), (0, .nameAndType 28 29), (0, u "text"), (0, u "()Ljava/lang/String;"), (0, .methodref 12 31), (0, .nameAndType 32 33), (0, u "decLen"), (0, u "(I)I"), (0, .methodref 35 36), (0, .class_ 37), (0, .nameAndType 38 39), (0, u "java/lang/String"), (0, u "length"), (0, u "()I"), (0, .integer 2147483647), (0, .methodref 35 42), (0, .nameAndType 43 44), (0, u "charAt"), (0, u "(I)C"), (0, .methodref 12 46), (0, .nameAndType 47 48), (0, u "expected"), (0, u "([CIIIII[CI)C"), (0, .long 255), (1, .methodref 35 52), (0, .nameAndType 5 53), (0, u "([C)V"), (0, .long 10), (1, .long 100), (1, .long 1000), (1, .long 10000), (1, .long 100000), (1, .long 1000000), (1, .long 10000000), (1, .long 100000000), (1, .long 1000000000), (1, .methodref 12 73), (0, .nameAndType 74 75), (0, u "digits"), (0, u "(J)I"), (0, .methodref 12 77), (0, .nameAndType 78 79), (0, u "decChar"), (0, u "(II)C"), (2, u "law"), (0, u "(JIIJI)Z")] 5

def k1m0 : Method := { name := "<init>", desc := "()V", sig := { parameters := [], returnType := none }, accessFlags := 1, code := none }
def k1c1 : Code := { maxStack := 9, maxLocals := 18, code := code, exceptionTable := #[], attributes := #[] }
def k1m1 : Method := { name := "law", desc := "(JIIJI)Z", sig := { parameters := [.long, .int, .int, .long, .int], returnType := some .boolean }, accessFlags := 9, code := some k1c1 }
def k1c2 : Code := { maxStack := 6, maxLocals := 3, code := method_3_code, exceptionTable := #[], attributes := #[] }
def k1m2 : Method := { name := "chars", desc := "(J)[C", sig := { parameters := [.long], returnType := some (.array .char) }, accessFlags := 10, code := some k1c2 }
def k1c3 : Code := { maxStack := 7, maxLocals := 2, code := method_4_code, exceptionTable := #[], attributes := #[] }
def k1m3 : Method := { name := "str", desc := "([CI)Ljava/lang/String;", sig := { parameters := [(.array .char), .int], returnType := some (.object "java/lang/String") }, accessFlags := 10, code := some k1c3 }
def k1c4 : Code := { maxStack := 4, maxLocals := 2, code := method_5_code, exceptionTable := #[], attributes := #[] }
def k1m4 : Method := { name := "digits", desc := "(J)I", sig := { parameters := [.long], returnType := some .int }, accessFlags := 10, code := some k1c4 }
def k1c5 : Code := { maxStack := 2, maxLocals := 4, code := method_6_code, exceptionTable := #[], attributes := #[] }
def k1m5 : Method := { name := "decLen", desc := "(I)I", sig := { parameters := [.int], returnType := some .int }, accessFlags := 10, code := some k1c5 }
def k1c6 : Code := { maxStack := 5, maxLocals := 10, code := method_7_code, exceptionTable := #[], attributes := #[] }
def k1m6 : Method := { name := "decChar", desc := "(II)C", sig := { parameters := [.int, .int], returnType := some .char }, accessFlags := 10, code := some k1c6 }
def k1c7 : Code := { maxStack := 2, maxLocals := 8, code := method_8_code, exceptionTable := #[], attributes := #[] }
def k1m7 : Method := { name := "expected", desc := "([CIIIII[CI)C", sig := { parameters := [(.array .char), .int, .int, .int, .int, .int, (.array .char), .int], returnType := some .char }, accessFlags := 10, code := some k1c7 }
/-- com/example/lukko/lukko/RuleProblemTextPinLaw -/
def k1 : Class := { plain "com/example/lukko/lukko/RuleProblemTextPinLaw" (some 0) with
  accessFlags := 49
  interfaces := #[]
  cf := some (fileOf pool1 12 #[] #[{ accessFlags := 1, nameIndex := 5, descriptorIndex := 6, attributes := #[] }, { accessFlags := 9, nameIndex := 82, descriptorIndex := 83, attributes := #[] }, { accessFlags := 10, nameIndex := 15, descriptorIndex := 16, attributes := #[] }, { accessFlags := 10, nameIndex := 19, descriptorIndex := 20, attributes := #[] }, { accessFlags := 10, nameIndex := 74, descriptorIndex := 75, attributes := #[] }, { accessFlags := 10, nameIndex := 32, descriptorIndex := 33, attributes := #[] }, { accessFlags := 10, nameIndex := 78, descriptorIndex := 79, attributes := #[] }, { accessFlags := 10, nameIndex := 47, descriptorIndex := 48, attributes := #[] }] 49 2 #[] #[])
  fields := #[]
  methods := #[k1m0, k1m1, k1m2, k1m3, k1m4, k1m5, k1m6, k1m7]
  instanceTypes := #[]
  staticTypes := #[]
  resolved := Array.replicate 89 none
  statics := none }

def pool2 : Array CpInfo := pool [(1, .class_ 2), (0, u "java/io/Serializable"), (0, .class_ 4), (0, u "java/lang/Object")] 2

/-- java/io/Serializable -/
def k2 : Class := { plain "java/io/Serializable" (some 0) with
  accessFlags := 1537
  interfaces := #[]
  cf := some (fileOf pool2 1 #[] #[] 1537 3 #[] #[])
  fields := #[]
  methods := #[]
  instanceTypes := #[]
  staticTypes := #[]
  resolved := Array.replicate 7 none
  statics := none }

def pool3 : Array CpInfo := pool [(1, .class_ 2), (0, u "java/lang/Comparable"), (0, .class_ 4), (0, u "java/lang/Object")] 7

/-- java/lang/Comparable -/
def k3 : Class := { plain "java/lang/Comparable" (some 0) with
  accessFlags := 1537
  interfaces := #[]
  cf := some (fileOf pool3 1 #[] #[] 1537 3 #[] #[])
  fields := #[]
  methods := #[]
  instanceTypes := #[]
  staticTypes := #[]
  resolved := Array.replicate 12 none
  statics := none }

def pool4 : Array CpInfo := pool [(2, .class_ 4), (1, u "java/lang/CharSequence"), (42, .class_ 48), (0, u "java/lang/CharSequence$1CodePointIterator"), (10, .class_ 60), (0, u "java/lang/CharSequence$1CharIterator"), (5, .class_ 67), (0, u "java/lang/Object")] 63

/-- java/lang/CharSequence -/
def k4 : Class := { plain "java/lang/CharSequence" (some 0) with
  accessFlags := 1537
  interfaces := #[]
  cf := some (fileOf pool4 2 #[.nestMembers #[47, 59]] #[] 1537 66 #[] #[])
  fields := #[]
  methods := #[]
  instanceTypes := #[]
  staticTypes := #[]
  resolved := Array.replicate 131 none
  statics := none }

def pool5 : Array CpInfo := pool [(1, .class_ 2), (0, u "java/lang/constant/Constable"), (0, .class_ 4), (0, u "java/lang/Object")] 6

/-- java/lang/constant/Constable -/
def k5 : Class := { plain "java/lang/constant/Constable" (some 0) with
  accessFlags := 1537
  interfaces := #[]
  cf := some (fileOf pool5 1 #[] #[] 1537 3 #[] #[])
  fields := #[]
  methods := #[]
  instanceTypes := #[]
  staticTypes := #[]
  resolved := Array.replicate 11 none
  statics := none }

def pool6 : Array CpInfo := pool [(1, .class_ 2), (0, u "java/lang/constant/ConstantDesc"), (0, .class_ 4), (0, u "java/lang/Object")] 32

/-- java/lang/constant/ConstantDesc -/
def k6 : Class := { plain "java/lang/constant/ConstantDesc" (some 0) with
  accessFlags := 1537
  interfaces := #[]
  cf := some (fileOf pool6 1 #[] #[] 1537 3 #[] #[])
  fields := #[]
  methods := #[]
  instanceTypes := #[]
  staticTypes := #[]
  resolved := Array.replicate 37 none
  statics := none }

def pool7 : Array CpInfo := pool [(1, .methodref 2 3), (0, .class_ 4), (0, .nameAndType 5 6), (0, u "java/lang/Object"), (0, u "<init>"), (0, u "()V"), (0, .string 8), (0, u ""), (0, .fieldref 10 11), (0, .class_ 12), (0, .nameAndType 13 14), (0, u "java/lang/String"), (0, u "value"), (0, u "[B"), (0, .fieldref 10 16), (0, .nameAndType 17 18), (0, u "coder"), (0, u "B"), (2, u "hash"), (0, u "I"), (2, u "hashIsZero"), (0, u "Z"), (0, .methodref 10 28), (0, .nameAndType 5 29), (0, u "([CIILjava/lang/Void;)V"), (8, .fieldref 10 39), (0, .nameAndType 40 26), (0, u "COMPACT_STRINGS"), (1, .class_ 44), (1, u "java/lang/StringUTF16"), (0, u "compress"), (1, .methodref 42 48), (0, .nameAndType 49 50), (0, u "coderFromArrayLen"), (0, u "([BI)B"), (3, .methodref 55 56), (0, .class_ 57), (0, .nameAndType 58 59), (0, u "java/util/Arrays"), (0, u "copyOfRange"), (0, u "([BII)[B"), (47, .class_ 109), (1, u "java/lang/StringLatin1"), (32, u "()Z"), (34, .methodref 42 178), (0, .nameAndType 45 179), (0, u "([CII)[B"), (13, .class_ 195), (1, u "java/lang/System"), (16, .methodref 193 213), (0, .nameAndType 214 215), (0, u "arraycopy"), (0, u "(Ljava/lang/Object;ILjava/lang/Object;II)V"), (118, u "()I"), (0, .methodref 10 336), (0, .nameAndType 17 337), (0, u "()B"), (2, u "()[B"), (22, u "([BI)C"), (27, u "(II)V"), (35, u "(I)C"), (61, .methodref 10 490), (0, .nameAndType 5 491), (0, u "(Ljava/lang/AbstractStringBuilder;Ljava/lang/Void;)V"), (0, .methodref 10 493), (0, .nameAndType 494 142), (0, u "isLatin1"), (0, .methodref 107 496), (0, .nameAndType 497 363), (0, u "charAt"), (3, u "checkIndex"), (4, .nameAndType 507 334), (0, u "length"), (24, u "getBytes"), (16, .methodref 550 506), (0, .class_ 551), (0, u "java/lang/AbstractStringBuilder"), (0, .methodref 550 553), (0, .nameAndType 554 340), (0, u "getValue"), (20, .class_ 576), (0, u "java/lang/CharSequence"), (22, u "CASE_INSENSITIVE_ORDER"), (0, u "Ljava/util/Comparator;"), (220, u "([BIB)V"), (188, u "([C)V"), (36, .methodref 550 493), (5, .fieldref 1054 1055), (0, .class_ 1056), (0, .nameAndType 1057 1058), (0, u "jdk/internal/util/Preconditions"), (0, u "SIOOBE_FORMATTER"), (0, u "Ljava/util/function/BiFunction;"), (0, .methodref 1054 1060), (0, .nameAndType 501 1061), (0, u "(IILjava/util/function/BiFunction;)I"), (39, u "serialPersistentFields"), (0, u "[Ljava/io/ObjectStreamField;"), (0, .class_ 1104), (0, u "java/lang/String$CaseInsensitiveComparator"), (1, .class_ 1107), (0, u "java/io/Serializable"), (0, .class_ 1109), (0, u "java/lang/Comparable"), (0, .class_ 1111), (0, u "java/lang/constant/Constable"), (0, .class_ 1113), (0, u "java/lang/constant/ConstantDesc"), (2, u "serialVersionUID"), (0, u "J"), (3, u "REPL"), (0, u "C"), (2, u "LATIN1"), (1, u "UTF16"), (105, u "(Ljava/lang/StringBuilder;)V")] 217

def k7m0 : Method := { name := "<init>", desc := "()V", sig := { parameters := [], returnType := none }, accessFlags := 1, code := none }
def k7c1 : Code := { maxStack := 5, maxLocals := 2, code := jdk_42_method_3_code, exceptionTable := #[], attributes := #[] }
def k7m1 : Method := { name := "<init>", desc := "([C)V", sig := { parameters := [(.array .char)], returnType := none }, accessFlags := 1, code := some k7c1 }
def k7c2 : Code := { maxStack := 3, maxLocals := 2, code := jdk_42_method_53_code, exceptionTable := #[], attributes := #[] }
def k7m2 : Method := { name := "<init>", desc := "(Ljava/lang/StringBuilder;)V", sig := { parameters := [(.object "java/lang/StringBuilder")], returnType := none }, accessFlags := 1, code := some k7c2 }
def k7c3 : Code := { maxStack := 2, maxLocals := 1, code := jdk_42_method_54_code, exceptionTable := #[], attributes := #[] }
def k7m3 : Method := { name := "length", desc := "()I", sig := { parameters := [], returnType := some .int }, accessFlags := 1, code := some k7c3 }
def k7c4 : Code := { maxStack := 2, maxLocals := 2, code := jdk_42_method_56_code, exceptionTable := #[], attributes := #[] }
def k7m4 : Method := { name := "charAt", desc := "(I)C", sig := { parameters := [.int], returnType := some .char }, accessFlags := 1, code := some k7c4 }
def k7c5 : Code := { maxStack := 5, maxLocals := 4, code := jdk_42_method_147_code, exceptionTable := #[], attributes := #[] }
def k7m5 : Method := { name := "getBytes", desc := "([BIB)V", sig := { parameters := [(.array .byte), .int, .byte], returnType := none }, accessFlags := 0, code := some k7c5 }
def k7c6 : Code := { maxStack := 4, maxLocals := 6, code := jdk_42_method_149_code, exceptionTable := #[], attributes := #[] }
def k7m6 : Method := { name := "<init>", desc := "([CIILjava/lang/Void;)V", sig := { parameters := [(.array .char), .int, .int, (.object "java/lang/Void")], returnType := none }, accessFlags := 2, code := some k7c6 }
def k7c7 : Code := { maxStack := 5, maxLocals := 5, code := jdk_42_method_150_code, exceptionTable := #[], attributes := #[] }
def k7m7 : Method := { name := "<init>", desc := "(Ljava/lang/AbstractStringBuilder;Ljava/lang/Void;)V", sig := { parameters := [(.object "java/lang/AbstractStringBuilder"), (.object "java/lang/Void")], returnType := none }, accessFlags := 0, code := some k7c7 }
def k7c8 : Code := { maxStack := 1, maxLocals := 1, code := jdk_42_method_152_code, exceptionTable := #[], attributes := #[] }
def k7m8 : Method := { name := "coder", desc := "()B", sig := { parameters := [], returnType := some .byte }, accessFlags := 0, code := some k7c8 }
def k7c9 : Code := { maxStack := 1, maxLocals := 1, code := jdk_42_method_154_code, exceptionTable := #[], attributes := #[] }
def k7m9 : Method := { name := "isLatin1", desc := "()Z", sig := { parameters := [], returnType := some .boolean }, accessFlags := 0, code := some k7c9 }
def k7c10 : Code := { maxStack := 3, maxLocals := 2, code := jdk_42_method_155_code, exceptionTable := #[], attributes := #[] }
def k7m10 : Method := { name := "checkIndex", desc := "(II)V", sig := { parameters := [.int, .int], returnType := none }, accessFlags := 8, code := some k7c10 }
/-- java/lang/String -/
def k7 : Class := { plain "java/lang/String" (some 0) with
  accessFlags := 49
  interfaces := #[2, 3, 4, 5, 6]
  cf := some (fileOf pool7 10 #[.nestMembers #[1103]] #[{ accessFlags := 1, nameIndex := 5, descriptorIndex := 6, attributes := #[] }, { accessFlags := 1, nameIndex := 5, descriptorIndex := 1010, attributes := #[] }, { accessFlags := 1, nameIndex := 5, descriptorIndex := 1233, attributes := #[] }, { accessFlags := 1, nameIndex := 507, descriptorIndex := 334, attributes := #[] }, { accessFlags := 1, nameIndex := 497, descriptorIndex := 427, attributes := #[] }, { accessFlags := 0, nameIndex := 532, descriptorIndex := 821, attributes := #[] }, { accessFlags := 2, nameIndex := 5, descriptorIndex := 29, attributes := #[] }, { accessFlags := 0, nameIndex := 5, descriptorIndex := 491, attributes := #[] }, { accessFlags := 0, nameIndex := 17, descriptorIndex := 337, attributes := #[] }, { accessFlags := 0, nameIndex := 494, descriptorIndex := 142, attributes := #[] }, { accessFlags := 8, nameIndex := 501, descriptorIndex := 391, attributes := #[] }] 49 2 #[1106, 1108, 575, 1110, 1112] #[{ accessFlags := 18, nameIndex := 13, descriptorIndex := 14, attributes := #[] }, { accessFlags := 18, nameIndex := 17, descriptorIndex := 18, attributes := #[] }, { accessFlags := 2, nameIndex := 21, descriptorIndex := 22, attributes := #[] }, { accessFlags := 2, nameIndex := 25, descriptorIndex := 26, attributes := #[] }, { accessFlags := 26, nameIndex := 1116, descriptorIndex := 1117, attributes := #[] }, { accessFlags := 24, nameIndex := 40, descriptorIndex := 26, attributes := #[] }, { accessFlags := 26, nameIndex := 1101, descriptorIndex := 1102, attributes := #[] }, { accessFlags := 26, nameIndex := 1121, descriptorIndex := 1122, attributes := #[] }, { accessFlags := 25, nameIndex := 599, descriptorIndex := 600, attributes := #[] }, { accessFlags := 24, nameIndex := 1125, descriptorIndex := 18, attributes := #[] }, { accessFlags := 24, nameIndex := 1127, descriptorIndex := 18, attributes := #[] }])
  fields := #[{ name := "value", type := (.array .byte), accessFlags := 18, slot := 0, constantValue := 0 }, { name := "coder", type := .byte, accessFlags := 18, slot := 1, constantValue := 0 }, { name := "hash", type := .int, accessFlags := 2, slot := 2, constantValue := 0 }, { name := "hashIsZero", type := .boolean, accessFlags := 2, slot := 3, constantValue := 0 }, { name := "serialVersionUID", type := .long, accessFlags := 26, slot := 0, constantValue := 0 }, { name := "COMPACT_STRINGS", type := .boolean, accessFlags := 24, slot := 1, constantValue := 0 }, { name := "serialPersistentFields", type := (.array (.object "java/io/ObjectStreamField")), accessFlags := 26, slot := 2, constantValue := 0 }, { name := "REPL", type := .char, accessFlags := 26, slot := 3, constantValue := 0 }, { name := "CASE_INSENSITIVE_ORDER", type := (.object "java/util/Comparator"), accessFlags := 25, slot := 4, constantValue := 0 }, { name := "LATIN1", type := .byte, accessFlags := 24, slot := 5, constantValue := 0 }, { name := "UTF16", type := .byte, accessFlags := 24, slot := 6, constantValue := 0 }]
  methods := #[k7m0, k7m1, k7m2, k7m3, k7m4, k7m5, k7m6, k7m7, k7m8, k7m9, k7m10]
  instanceTypes := #[(.array .byte), .byte, .int, .boolean]
  staticTypes := #[.long, .boolean, (.array (.object "java/io/ObjectStreamField")), .char, (.object "java/util/Comparator"), .byte, .byte]
  resolved := Array.replicate 1451 none
  statics := some 0 }

def pool8 : Array CpInfo := pool [(6, .class_ 8), (1, u "java/lang/Object"), (0, u "<init>"), (0, u "()V"), (1, .class_ 14), (1, u "java/lang/StringUTF16"), (31, u "$assertionsDisabled"), (0, u "Z"), (13, u "HI_BYTE_SHIFT"), (0, u "I"), (2, u "LO_BYTE_SHIFT"), (49, .methodref 12 116), (0, .nameAndType 117 118), (0, u "compress"), (0, u "([CI[BII)I"), (3, u "([CII)[B"), (138, u "coderFromArrayLen"), (0, u "([BI)B"), (106, .class_ 371), (1, u "java/lang/StringUTF16$LinesSpliterator"), (58, u "MAX_LENGTH"), (196, .class_ 628), (0, u "java/lang/StringUTF16$CodePointsSpliterator"), (0, .class_ 630), (0, u "java/lang/StringUTF16$CharsSpliterator")] 4

def k8m0 : Method := { name := "<init>", desc := "()V", sig := { parameters := [], returnType := none }, accessFlags := 0, code := none }
def k8c1 : Code := { maxStack := 2, maxLocals := 2, code := jdk_52_method_15_code, exceptionTable := #[], attributes := #[] }
def k8m1 : Method := { name := "coderFromArrayLen", desc := "([BI)B", sig := { parameters := [(.array .byte), .int], returnType := some .byte }, accessFlags := 8, code := some k8c1 }
def k8c2 : Code := { maxStack := 5, maxLocals := 6, code := jdk_52_method_16_code, exceptionTable := #[], attributes := #[] }
def k8m2 : Method := { name := "compress", desc := "([CII)[B", sig := { parameters := [(.array .char), .int, .int], returnType := some (.array .byte) }, accessFlags := 9, code := some k8c2 }
def k8c3 : Code := { maxStack := 3, maxLocals := 7, code := jdk_52_method_21_code, exceptionTable := #[], attributes := #[] }
def k8m3 : Method := { name := "compress", desc := "([CI[BII)I", sig := { parameters := [(.array .char), .int, (.array .byte), .int, .int], returnType := some .int }, accessFlags := 9, code := some k8c3 }
/-- java/lang/StringUTF16 -/
def k8 : Class := { plain "java/lang/StringUTF16" (some 0) with
  accessFlags := 48
  interfaces := #[]
  cf := some (fileOf pool8 12 #[.nestMembers #[627, 629, 369]] #[{ accessFlags := 0, nameIndex := 9, descriptorIndex := 10, attributes := #[] }, { accessFlags := 8, nameIndex := 261, descriptorIndex := 262, attributes := #[] }, { accessFlags := 9, nameIndex := 117, descriptorIndex := 122, attributes := #[] }, { accessFlags := 9, nameIndex := 117, descriptorIndex := 118, attributes := #[] }] 48 6 #[] #[{ accessFlags := 26, nameIndex := 61, descriptorIndex := 62, attributes := #[] }, { accessFlags := 26, nameIndex := 65, descriptorIndex := 62, attributes := #[] }, { accessFlags := 24, nameIndex := 430, descriptorIndex := 62, attributes := #[] }, { accessFlags := 4120, nameIndex := 46, descriptorIndex := 47, attributes := #[] }])
  fields := #[{ name := "HI_BYTE_SHIFT", type := .int, accessFlags := 26, slot := 0, constantValue := 0 }, { name := "LO_BYTE_SHIFT", type := .int, accessFlags := 26, slot := 1, constantValue := 0 }, { name := "MAX_LENGTH", type := .int, accessFlags := 24, slot := 2, constantValue := 0 }, { name := "$assertionsDisabled", type := .boolean, accessFlags := 4120, slot := 3, constantValue := 0 }]
  methods := #[k8m0, k8m1, k8m2, k8m3]
  instanceTypes := #[]
  staticTypes := #[.int, .int, .int, .boolean]
  resolved := Array.replicate 635 none
  statics := none }

def pool9 : Array CpInfo := pool [(1, .methodref 2 3), (0, .class_ 4), (0, .nameAndType 5 6), (0, u "java/lang/Object"), (0, u "<init>"), (0, u "()V"), (0, .class_ 8), (0, u "java/lang/Record")] 13

def k9c0 : Code := { maxStack := 1, maxLocals := 1, code := jdk_30_method_1_code, exceptionTable := #[], attributes := #[] }
def k9m0 : Method := { name := "<init>", desc := "()V", sig := { parameters := [], returnType := none }, accessFlags := 4, code := some k9c0 }
/-- java/lang/Record -/
def k9 : Class := { plain "java/lang/Record" (some 0) with
  accessFlags := 1057
  interfaces := #[]
  cf := some (fileOf pool9 7 #[] #[{ accessFlags := 4, nameIndex := 5, descriptorIndex := 6, attributes := #[] }] 1057 2 #[] #[])
  fields := #[]
  methods := #[k9m0]
  instanceTypes := #[]
  staticTypes := #[]
  resolved := Array.replicate 22 none
  statics := none }

def pool10 : Array CpInfo := pool [(1, .methodref 2 3), (0, .class_ 4), (0, .nameAndType 5 6), (0, u "java/lang/Record"), (0, u "<init>"), (0, u "()V"), (0, .string 8), (0, u "file"), (0, .methodref 10 11), (0, .class_ 12), (0, .nameAndType 13 14), (0, u "java/util/Objects"), (0, u "requireNonNull"), (0, u "(Ljava/lang/Object;Ljava/lang/String;)Ljava/lang/Object;"), (0, .string 16), (0, u "message"), (0, .fieldref 18 19), (0, .class_ 20), (0, .nameAndType 8 21), (0, u "com/example/lukko/lukko/RuleProblem"), (0, u "Ljava/lang/String;"), (0, .fieldref 18 23), (0, .nameAndType 24 25), (0, u "line"), (0, u "I"), (0, .fieldref 18 27), (0, .nameAndType 28 25), (0, u "column"), (0, .fieldref 18 30), (0, .nameAndType 16 21), (0, .class_ 32), (0, u "java/lang/StringBuilder"), (0, .methodref 31 3), (0, .methodref 31 35), (0, .nameAndType 36 37), (0, u "append"), (0, u "(Ljava/lang/String;)Ljava/lang/StringBuilder;"), (0, .string 39), (0, u ":"), (0, .methodref 31 41), (0, .nameAndType 36 42), (0, u "(I)Ljava/lang/StringBuilder;"), (0, .string 44), (0, u ": "), (0, .methodref 31 46), (0, .nameAndType 47 48), (0, u "toString"), (0, u "()Ljava/lang/String;"), (11, .class_ 61), (0, u "java/io/Serializable"), (0, u "serialVersionUID"), (0, u "J"), (3, u "(Ljava/lang/String;IILjava/lang/String;)V"), (3, u "text")] 25

def k10c0 : Code := { maxStack := 2, maxLocals := 5, code := prog_21_method_1_code, exceptionTable := #[], attributes := #[] }
def k10m0 : Method := { name := "<init>", desc := "(Ljava/lang/String;IILjava/lang/String;)V", sig := { parameters := [(.object "java/lang/String"), .int, .int, (.object "java/lang/String")], returnType := none }, accessFlags := 1, code := some k10c0 }
def k10c1 : Code := { maxStack := 2, maxLocals := 1, code := prog_21_method_2_code, exceptionTable := #[], attributes := #[] }
def k10m1 : Method := { name := "text", desc := "()Ljava/lang/String;", sig := { parameters := [], returnType := some (.object "java/lang/String") }, accessFlags := 1, code := some k10c1 }
/-- com/example/lukko/lukko/RuleProblem -/
def k10 : Class := { plain "com/example/lukko/lukko/RuleProblem" (some 9) with
  accessFlags := 49
  interfaces := #[2]
  cf := some (fileOf pool10 18 #[] #[{ accessFlags := 1, nameIndex := 5, descriptorIndex := 67, attributes := #[] }, { accessFlags := 1, nameIndex := 71, descriptorIndex := 48, attributes := #[] }] 49 2 #[60] #[{ accessFlags := 18, nameIndex := 8, descriptorIndex := 21, attributes := #[] }, { accessFlags := 18, nameIndex := 24, descriptorIndex := 25, attributes := #[] }, { accessFlags := 18, nameIndex := 28, descriptorIndex := 25, attributes := #[] }, { accessFlags := 18, nameIndex := 16, descriptorIndex := 21, attributes := #[] }, { accessFlags := 26, nameIndex := 62, descriptorIndex := 63, attributes := #[] }])
  fields := #[{ name := "file", type := (.object "java/lang/String"), accessFlags := 18, slot := 0, constantValue := 0 }, { name := "line", type := .int, accessFlags := 18, slot := 1, constantValue := 0 }, { name := "column", type := .int, accessFlags := 18, slot := 2, constantValue := 0 }, { name := "message", type := (.object "java/lang/String"), accessFlags := 18, slot := 3, constantValue := 0 }, { name := "serialVersionUID", type := .long, accessFlags := 26, slot := 0, constantValue := 0 }]
  methods := #[k10m0, k10m1]
  instanceTypes := #[(.object "java/lang/String"), .int, .int, (.object "java/lang/String")]
  staticTypes := #[.long]
  resolved := Array.replicate 97 none
  statics := none }

def pool11 : Array CpInfo := pool [(2, .class_ 4), (1, u "java/lang/Object"), (0, u "<init>"), (0, u "()V"), (35, .class_ 44), (1, u "java/util/Objects"), (0, u "requireNonNull"), (48, u "(Ljava/lang/Object;Ljava/lang/String;)Ljava/lang/Object;")] 89

def k11m0 : Method := { name := "<init>", desc := "()V", sig := { parameters := [], returnType := none }, accessFlags := 2, code := none }
def k11c1 : Code := { maxStack := 3, maxLocals := 2, code := jdk_31_method_11_code, exceptionTable := #[], attributes := #[] }
def k11m1 : Method := { name := "requireNonNull", desc := "(Ljava/lang/Object;Ljava/lang/String;)Ljava/lang/Object;", sig := { parameters := [(.object "java/lang/Object"), (.object "java/lang/String")], returnType := some (.object "java/lang/Object") }, accessFlags := 9, code := some k11c1 }
/-- java/util/Objects -/
def k11 : Class := { plain "java/util/Objects" (some 0) with
  accessFlags := 49
  interfaces := #[]
  cf := some (fileOf pool11 42 #[] #[{ accessFlags := 2, nameIndex := 5, descriptorIndex := 6, attributes := #[] }, { accessFlags := 9, nameIndex := 45, descriptorIndex := 94, attributes := #[] }] 49 2 #[] #[])
  fields := #[]
  methods := #[k11m0, k11m1]
  instanceTypes := #[]
  staticTypes := #[]
  resolved := Array.replicate 184 none
  statics := none }

def pool12 : Array CpInfo := pool [(1, .class_ 2), (0, u "java/lang/Appendable"), (0, .class_ 4), (0, u "java/lang/Object")] 9

/-- java/lang/Appendable -/
def k12 : Class := { plain "java/lang/Appendable" (some 0) with
  accessFlags := 1537
  interfaces := #[]
  cf := some (fileOf pool12 1 #[] #[] 1537 3 #[] #[])
  fields := #[]
  methods := #[]
  instanceTypes := #[]
  staticTypes := #[]
  resolved := Array.replicate 14 none
  statics := none }

def pool13 : Array CpInfo := pool [(1, .class_ 2), (0, u "java/lang/String"), (0, .methodref 4 5), (0, .class_ 6), (0, .nameAndType 7 8), (0, u "java/lang/Object"), (0, u "<init>"), (0, u "()V"), (1, .class_ 12), (1, u "java/lang/AbstractStringBuilder"), (0, u "EMPTYVALUE"), (0, u "[B"), (0, .fieldref 10 16), (0, .nameAndType 17 14), (0, u "value"), (0, .fieldref 1 19), (0, .nameAndType 20 21), (0, u "COMPACT_STRINGS"), (0, u "Z"), (0, .fieldref 10 23), (0, .nameAndType 24 25), (0, u "coder"), (0, u "B"), (6, .methodref 1 33), (0, .nameAndType 34 35), (0, u "length"), (0, u "()I"), (0, .class_ 37), (0, u "java/lang/Integer"), (1, .integer 2147483647), (0, .methodref 1 41), (0, .nameAndType 24 42), (0, u "()B"), (2, u "append"), (0, u "(Ljava/lang/String;)Ljava/lang/AbstractStringBuilder;"), (1, .class_ 49), (0, u "java/lang/CharSequence"), (19, u "(Ljava/lang/String;)V"), (5, u "maybeLatin1"), (3, .fieldref 10 80), (0, .nameAndType 81 82), (0, u "count"), (0, u "I"), (0, .methodref 10 84), (0, .nameAndType 85 86), (0, u "isLatin1"), (0, u "()Z"), (13, .methodref 10 101), (0, .nameAndType 102 103), (0, u "ensureCapacityInternal"), (0, u "(I)V"), (0, .methodref 10 105), (0, .nameAndType 106 107), (0, u "newCapacity"), (0, u "(I)I"), (0, .methodref 109 110), (0, .class_ 111), (0, .nameAndType 112 113), (0, u "java/util/Arrays"), (0, u "copyOf"), (0, u "([BI)[B"), (0, .methodref 115 116), (0, .class_ 117), (0, .nameAndType 118 119), (0, u "jdk/internal/util/ArraysSupport"), (0, u "newLength"), (0, u "(III)I"), (68, u "getChars"), (19, .methodref 10 209), (0, .nameAndType 210 211), (0, u "putStringAt"), (0, u "(ILjava/lang/String;)V"), (5, u "inflateIfNeededFor"), (2, .nameAndType 221 222), (0, u "getBytes"), (0, u "([BIB)V"), (22, .methodref 36 246), (0, .nameAndType 247 107), (0, u "stringSize"), (0, .methodref 36 249), (0, .nameAndType 188 250), (0, u "(II[B)I"), (146, .methodref 10 398), (0, .nameAndType 217 69), (0, .methodref 1 220), (3, u "()[B"), (40, .class_ 445), (0, u "java/lang/Appendable"), (65, u "(I)Ljava/lang/AbstractStringBuilder;"), (40, u "getValue")] 56

def k13m0 : Method := { name := "<init>", desc := "()V", sig := { parameters := [], returnType := none }, accessFlags := 0, code := none }
def k13c1 : Code := { maxStack := 2, maxLocals := 2, code := jdk_68_method_2_code, exceptionTable := #[], attributes := #[] }
def k13m1 : Method := { name := "<init>", desc := "(I)V", sig := { parameters := [.int], returnType := none }, accessFlags := 0, code := some k13c1 }
def k13c2 : Code := { maxStack := 1, maxLocals := 1, code := jdk_68_method_6_code, exceptionTable := #[], attributes := #[] }
def k13m2 : Method := { name := "length", desc := "()I", sig := { parameters := [], returnType := some .int }, accessFlags := 1, code := some k13c2 }
def k13c3 : Code := { maxStack := 4, maxLocals := 3, code := jdk_68_method_9_code, exceptionTable := #[], attributes := #[] }
def k13m3 : Method := { name := "ensureCapacityInternal", desc := "(I)V", sig := { parameters := [.int], returnType := none }, accessFlags := 2, code := some k13c3 }
def k13c4 : Code := { maxStack := 5, maxLocals := 6, code := jdk_68_method_10_code, exceptionTable := #[], attributes := #[] }
def k13m4 : Method := { name := "newCapacity", desc := "(I)I", sig := { parameters := [.int], returnType := some .int }, accessFlags := 2, code := some k13c4 }
def k13c5 : Code := { maxStack := 3, maxLocals := 3, code := jdk_68_method_22_code, exceptionTable := #[], attributes := #[] }
def k13m5 : Method := { name := "append", desc := "(Ljava/lang/String;)Ljava/lang/AbstractStringBuilder;", sig := { parameters := [(.object "java/lang/String")], returnType := some (.object "java/lang/AbstractStringBuilder") }, accessFlags := 1, code := some k13c5 }
def k13c6 : Code := { maxStack := 4, maxLocals := 4, code := jdk_68_method_32_code, exceptionTable := #[], attributes := #[] }
def k13m6 : Method := { name := "append", desc := "(I)Ljava/lang/AbstractStringBuilder;", sig := { parameters := [.int], returnType := some (.object "java/lang/AbstractStringBuilder") }, accessFlags := 1, code := some k13c6 }
def k13c7 : Code := { maxStack := 1, maxLocals := 1, code := jdk_68_method_64_code, exceptionTable := #[], attributes := #[] }
def k13m7 : Method := { name := "getValue", desc := "()[B", sig := { parameters := [], returnType := some (.array .byte) }, accessFlags := 16, code := some k13c7 }
def k13c8 : Code := { maxStack := 1, maxLocals := 1, code := jdk_68_method_68_code, exceptionTable := #[], attributes := #[] }
def k13m8 : Method := { name := "isLatin1", desc := "()Z", sig := { parameters := [], returnType := some .boolean }, accessFlags := 16, code := some k13c8 }
def k13c9 : Code := { maxStack := 2, maxLocals := 2, code := jdk_68_method_71_code, exceptionTable := #[], attributes := #[] }
def k13m9 : Method := { name := "inflateIfNeededFor", desc := "(Ljava/lang/String;)V", sig := { parameters := [(.object "java/lang/String")], returnType := none }, accessFlags := 2, code := some k13c9 }
def k13c10 : Code := { maxStack := 4, maxLocals := 3, code := jdk_68_method_73_code, exceptionTable := #[], attributes := #[] }
def k13m10 : Method := { name := "putStringAt", desc := "(ILjava/lang/String;)V", sig := { parameters := [.int, (.object "java/lang/String")], returnType := none }, accessFlags := 2, code := some k13c10 }
/-- java/lang/AbstractStringBuilder -/
def k13 : Class := { plain "java/lang/AbstractStringBuilder" (some 0) with
  accessFlags := 1056
  interfaces := #[12, 4]
  cf := some (fileOf pool13 10 #[] #[{ accessFlags := 0, nameIndex := 7, descriptorIndex := 8, attributes := #[] }, { accessFlags := 0, nameIndex := 7, descriptorIndex := 103, attributes := #[] }, { accessFlags := 1, nameIndex := 34, descriptorIndex := 35, attributes := #[] }, { accessFlags := 2, nameIndex := 102, descriptorIndex := 103, attributes := #[] }, { accessFlags := 2, nameIndex := 106, descriptorIndex := 107, attributes := #[] }, { accessFlags := 1, nameIndex := 45, descriptorIndex := 46, attributes := #[] }, { accessFlags := 1, nameIndex := 45, descriptorIndex := 511, attributes := #[] }, { accessFlags := 16, nameIndex := 552, descriptorIndex := 403, attributes := #[] }, { accessFlags := 16, nameIndex := 85, descriptorIndex := 86, attributes := #[] }, { accessFlags := 2, nameIndex := 217, descriptorIndex := 69, attributes := #[] }, { accessFlags := 2, nameIndex := 210, descriptorIndex := 211, attributes := #[] }] 1056 4 #[444, 48] #[{ accessFlags := 0, nameIndex := 17, descriptorIndex := 14, attributes := #[] }, { accessFlags := 0, nameIndex := 24, descriptorIndex := 25, attributes := #[] }, { accessFlags := 0, nameIndex := 75, descriptorIndex := 21, attributes := #[] }, { accessFlags := 0, nameIndex := 81, descriptorIndex := 82, attributes := #[] }, { accessFlags := 26, nameIndex := 13, descriptorIndex := 14, attributes := #[] }])
  fields := #[{ name := "value", type := (.array .byte), accessFlags := 0, slot := 0, constantValue := 0 }, { name := "coder", type := .byte, accessFlags := 0, slot := 1, constantValue := 0 }, { name := "maybeLatin1", type := .boolean, accessFlags := 0, slot := 2, constantValue := 0 }, { name := "count", type := .int, accessFlags := 0, slot := 3, constantValue := 0 }, { name := "EMPTYVALUE", type := (.array .byte), accessFlags := 26, slot := 0, constantValue := 0 }]
  methods := #[k13m0, k13m1, k13m2, k13m3, k13m4, k13m5, k13m6, k13m7, k13m8, k13m9, k13m10]
  instanceTypes := #[(.array .byte), .byte, .boolean, .int]
  staticTypes := #[(.array .byte)]
  resolved := Array.replicate 609 none
  statics := none }

def pool14 : Array CpInfo := pool [(1, .methodref 2 3), (0, .class_ 4), (0, .nameAndType 5 6), (0, u "java/lang/AbstractStringBuilder"), (0, u "<init>"), (0, u "(I)V"), (11, .class_ 20), (1, u "java/lang/String"), (3, .class_ 26), (1, u "java/lang/StringBuilder"), (0, u "append"), (0, u "(Ljava/lang/String;)Ljava/lang/StringBuilder;"), (0, .methodref 2 30), (0, .nameAndType 27 31), (0, u "(Ljava/lang/String;)Ljava/lang/AbstractStringBuilder;"), (21, .methodref 2 54), (0, .nameAndType 27 55), (0, u "(I)Ljava/lang/AbstractStringBuilder;"), (81, .methodref 18 138), (0, .nameAndType 5 139), (0, u "(Ljava/lang/StringBuilder;)V"), (5, u "()V"), (10, u "()I"), (111, u "(I)Ljava/lang/StringBuilder;"), (74, .methodref 2 344), (0, .nameAndType 345 156), (0, u "length"), (3, .class_ 350), (0, u "java/lang/Appendable"), (0, .class_ 352), (0, u "java/io/Serializable"), (0, .class_ 354), (0, u "java/lang/Comparable"), (0, .class_ 356), (0, u "java/lang/CharSequence"), (0, u "serialVersionUID"), (0, u "J"), (40, u "toString"), (0, u "()Ljava/lang/String;")] 21

def k14c0 : Code := { maxStack := 2, maxLocals := 1, code := jdk_67_method_1_code, exceptionTable := #[], attributes := #[] }
def k14m0 : Method := { name := "<init>", desc := "()V", sig := { parameters := [], returnType := none }, accessFlags := 1, code := some k14c0 }
def k14c1 : Code := { maxStack := 2, maxLocals := 2, code := jdk_67_method_7_code, exceptionTable := #[], attributes := #[] }
def k14m1 : Method := { name := "append", desc := "(Ljava/lang/String;)Ljava/lang/StringBuilder;", sig := { parameters := [(.object "java/lang/String")], returnType := some (.object "java/lang/StringBuilder") }, accessFlags := 1, code := some k14c1 }
def k14c2 : Code := { maxStack := 2, maxLocals := 2, code := jdk_67_method_15_code, exceptionTable := #[], attributes := #[] }
def k14m2 : Method := { name := "append", desc := "(I)Ljava/lang/StringBuilder;", sig := { parameters := [.int], returnType := some (.object "java/lang/StringBuilder") }, accessFlags := 1, code := some k14c2 }
def k14c3 : Code := { maxStack := 3, maxLocals := 1, code := jdk_67_method_42_code, exceptionTable := #[], attributes := #[] }
def k14m3 : Method := { name := "toString", desc := "()Ljava/lang/String;", sig := { parameters := [], returnType := some (.object "java/lang/String") }, accessFlags := 1, code := some k14c3 }
def k14c4 : Code := { maxStack := 1, maxLocals := 1, code := jdk_67_method_93_code, exceptionTable := #[], attributes := #[] }
def k14m4 : Method := { name := "length", desc := "()I", sig := { parameters := [], returnType := some .int }, accessFlags := 4161, code := some k14c4 }
/-- java/lang/StringBuilder -/
def k14 : Class := { plain "java/lang/StringBuilder" (some 13) with
  accessFlags := 49
  interfaces := #[12, 2, 3, 4]
  cf := some (fileOf pool14 24 #[] #[{ accessFlags := 1, nameIndex := 5, descriptorIndex := 145, attributes := #[] }, { accessFlags := 1, nameIndex := 27, descriptorIndex := 28, attributes := #[] }, { accessFlags := 1, nameIndex := 27, descriptorIndex := 268, attributes := #[] }, { accessFlags := 1, nameIndex := 399, descriptorIndex := 400, attributes := #[] }, { accessFlags := 4161, nameIndex := 345, descriptorIndex := 156, attributes := #[] }] 49 2 #[349, 351, 353, 355] #[{ accessFlags := 24, nameIndex := 357, descriptorIndex := 358, attributes := #[] }])
  fields := #[{ name := "serialVersionUID", type := .long, accessFlags := 24, slot := 0, constantValue := 0 }]
  methods := #[k14m0, k14m1, k14m2, k14m3, k14m4]
  instanceTypes := #[(.array .byte), .byte, .boolean, .int]
  staticTypes := #[.long]
  resolved := Array.replicate 422 none
  statics := none }

def pool15 : Array CpInfo := pool [(2, .class_ 4), (1, u "java/lang/Object"), (0, u "<init>"), (0, u "()V"), (1, .class_ 10), (1, u "java/lang/System"), (0, u "allowSecurityManager"), (0, u "I"), (16, u "cons"), (0, u "Ljava/io/Console;"), (77, .class_ 110), (1, u "java/lang/System$CallersHolder"), (43, u "initialErrStream"), (0, u "Ljava/io/PrintStream;"), (19, u "security"), (0, u "Ljava/lang/SecurityManager;"), (31, .class_ 209), (0, u "java/lang/System$1"), (7, u "props"), (0, u "Ljava/util/Properties;"), (2, u "lineSeparator"), (0, u "Ljava/lang/String;"), (96, .class_ 321), (1, u "java/lang/System$LoggerFinder"), (5, .class_ 328), (0, u "java/lang/System$Logger"), (67, u "err"), (2, u "out"), (91, u "notSupportedJnuEncoding"), (15, u "in"), (17, u "initialIn"), (0, u "Ljava/io/InputStream;"), (35, u "bootLayer"), (0, u "Ljava/lang/ModuleLayer;"), (99, .class_ 664), (0, u "java/lang/System$2"), (9, u "NEVER"), (2, u "MAYBE"), (49, u "arraycopy"), (0, u "(Ljava/lang/Object;ILjava/lang/Object;II)V"), (72, .class_ 802), (0, u "java/lang/System$Logger$Level")] 31

def k15m0 : Method := { name := "<init>", desc := "()V", sig := { parameters := [], returnType := none }, accessFlags := 2, code := none }
def k15m1 : Method := { name := "arraycopy", desc := "(Ljava/lang/Object;ILjava/lang/Object;II)V", sig := { parameters := [(.object "java/lang/Object"), .int, (.object "java/lang/Object"), .int, .int], returnType := none }, accessFlags := 265, code := none }
/-- java/lang/System -/
def k15 : Class := { plain "java/lang/System" (some 0) with
  accessFlags := 49
  interfaces := #[]
  cf := some (fileOf pool15 8 #[.nestMembers #[319, 327, 801, 108, 663, 208]] #[{ accessFlags := 2, nameIndex := 5, descriptorIndex := 6, attributes := #[] }, { accessFlags := 265, nameIndex := 727, descriptorIndex := 728, attributes := #[] }] 49 2 #[] #[{ accessFlags := 25, nameIndex := 507, descriptorIndex := 526, attributes := #[] }, { accessFlags := 25, nameIndex := 399, descriptorIndex := 155, attributes := #[] }, { accessFlags := 25, nameIndex := 396, descriptorIndex := 155, attributes := #[] }, { accessFlags := 10, nameIndex := 525, descriptorIndex := 526, attributes := #[] }, { accessFlags := 26, nameIndex := 674, descriptorIndex := 12, attributes := #[] }, { accessFlags := 26, nameIndex := 677, descriptorIndex := 12, attributes := #[] }, { accessFlags := 10, nameIndex := 11, descriptorIndex := 12, attributes := #[] }, { accessFlags := 74, nameIndex := 175, descriptorIndex := 176, attributes := #[] }, { accessFlags := 10, nameIndex := 491, descriptorIndex := 222, attributes := #[] }, { accessFlags := 74, nameIndex := 29, descriptorIndex := 30, attributes := #[] }, { accessFlags := 74, nameIndex := 154, descriptorIndex := 155, attributes := #[] }, { accessFlags := 10, nameIndex := 217, descriptorIndex := 218, attributes := #[] }, { accessFlags := 10, nameIndex := 221, descriptorIndex := 222, attributes := #[] }, { accessFlags := 8, nameIndex := 562, descriptorIndex := 563, attributes := #[] }])
  fields := #[{ name := "in", type := (.object "java/io/InputStream"), accessFlags := 25, slot := 0, constantValue := 0 }, { name := "out", type := (.object "java/io/PrintStream"), accessFlags := 25, slot := 1, constantValue := 0 }, { name := "err", type := (.object "java/io/PrintStream"), accessFlags := 25, slot := 2, constantValue := 0 }, { name := "initialIn", type := (.object "java/io/InputStream"), accessFlags := 10, slot := 3, constantValue := 0 }, { name := "NEVER", type := .int, accessFlags := 26, slot := 4, constantValue := 0 }, { name := "MAYBE", type := .int, accessFlags := 26, slot := 5, constantValue := 0 }, { name := "allowSecurityManager", type := .int, accessFlags := 10, slot := 6, constantValue := 0 }, { name := "security", type := (.object "java/lang/SecurityManager"), accessFlags := 74, slot := 7, constantValue := 0 }, { name := "notSupportedJnuEncoding", type := (.object "java/lang/String"), accessFlags := 10, slot := 8, constantValue := 0 }, { name := "cons", type := (.object "java/io/Console"), accessFlags := 74, slot := 9, constantValue := 0 }, { name := "initialErrStream", type := (.object "java/io/PrintStream"), accessFlags := 74, slot := 10, constantValue := 0 }, { name := "props", type := (.object "java/util/Properties"), accessFlags := 10, slot := 11, constantValue := 0 }, { name := "lineSeparator", type := (.object "java/lang/String"), accessFlags := 10, slot := 12, constantValue := 0 }, { name := "bootLayer", type := (.object "java/lang/ModuleLayer"), accessFlags := 8, slot := 13, constantValue := 0 }]
  methods := #[k15m0, k15m1]
  instanceTypes := #[]
  staticTypes := #[(.object "java/io/InputStream"), (.object "java/io/PrintStream"), (.object "java/io/PrintStream"), (.object "java/io/InputStream"), .int, .int, .int, (.object "java/lang/SecurityManager"), (.object "java/lang/String"), (.object "java/io/Console"), (.object "java/io/PrintStream"), (.object "java/util/Properties"), (.object "java/lang/String"), (.object "java/lang/ModuleLayer")]
  resolved := Array.replicate 834 none
  statics := none }

def pool16 : Array CpInfo := pool [(2, .class_ 4), (1, u "java/lang/Object"), (0, u "<init>"), (0, u "()V"), (1, .class_ 10), (1, u "java/lang/Number"), (2, .class_ 14), (0, u "java/io/Serializable"), (0, u "serialVersionUID"), (0, u "J")] 20

def k16m0 : Method := { name := "<init>", desc := "()V", sig := { parameters := [], returnType := none }, accessFlags := 1, code := none }
/-- java/lang/Number -/
def k16 : Class := { plain "java/lang/Number" (some 0) with
  accessFlags := 1057
  interfaces := #[2]
  cf := some (fileOf pool16 8 #[] #[{ accessFlags := 1, nameIndex := 5, descriptorIndex := 6, attributes := #[] }] 1057 2 #[13] #[{ accessFlags := 26, nameIndex := 15, descriptorIndex := 16, attributes := #[] }])
  fields := #[{ name := "serialVersionUID", type := .long, accessFlags := 26, slot := 0, constantValue := 0 }]
  methods := #[k16m0]
  instanceTypes := #[]
  staticTypes := #[.long]
  resolved := Array.replicate 37 none
  statics := none }

def pool17 : Array CpInfo := pool [(1, .class_ 2), (0, u "java/lang/Integer"), (16, u "digits"), (0, u "[C"), (33, u "(I)I"), (19, u "stringSize"), (2, u "getChars"), (0, u "(II[B)I"), (4, .fieldref 1 84), (0, .nameAndType 85 86), (0, u "DigitOnes"), (0, u "[B"), (0, .fieldref 1 88), (0, .nameAndType 89 86), (0, u "DigitTens"), (99, .class_ 190), (0, u "java/lang/Integer$IntegerCache"), (3, u "I"), (8, .class_ 204), (0, u "java/lang/Number"), (2, u "value"), (94, u "TYPE"), (0, u "Ljava/lang/Class;"), (0, .class_ 305), (0, u "java/lang/Comparable"), (0, .class_ 307), (0, u "java/lang/constant/Constable"), (0, .class_ 309), (0, u "java/lang/constant/ConstantDesc"), (0, u "MIN_VALUE"), (1, u "MAX_VALUE"), (3, u "SIZE"), (1, u "BYTES"), (1, u "serialVersionUID"), (0, u "J")] 131

def k17c0 : Code := { maxStack := 4, maxLocals := 7, code := jdk_33_method_12_code, exceptionTable := #[], attributes := #[] }
def k17m0 : Method := { name := "getChars", desc := "(II[B)I", sig := { parameters := [.int, .int, (.array .byte)], returnType := some .int }, accessFlags := 8, code := some k17c0 }
def k17c1 : Code := { maxStack := 2, maxLocals := 4, code := jdk_33_method_13_code, exceptionTable := #[], attributes := #[] }
def k17m1 : Method := { name := "stringSize", desc := "(I)I", sig := { parameters := [.int], returnType := some .int }, accessFlags := 8, code := some k17c1 }
/-- java/lang/Integer -/
def k17 : Class := { plain "java/lang/Integer" (some 16) with
  accessFlags := 49
  interfaces := #[3, 5, 6]
  cf := some (fileOf pool17 1 #[.nestMembers #[189]] #[{ accessFlags := 8, nameIndex := 77, descriptorIndex := 78, attributes := #[] }, { accessFlags := 8, nameIndex := 74, descriptorIndex := 54, attributes := #[] }] 49 203 #[304, 306, 308] #[{ accessFlags := 25, nameIndex := 310, descriptorIndex := 194, attributes := #[] }, { accessFlags := 25, nameIndex := 312, descriptorIndex := 194, attributes := #[] }, { accessFlags := 25, nameIndex := 302, descriptorIndex := 303, attributes := #[] }, { accessFlags := 24, nameIndex := 19, descriptorIndex := 20, attributes := #[] }, { accessFlags := 24, nameIndex := 89, descriptorIndex := 86, attributes := #[] }, { accessFlags := 24, nameIndex := 85, descriptorIndex := 86, attributes := #[] }, { accessFlags := 18, nameIndex := 207, descriptorIndex := 194, attributes := #[] }, { accessFlags := 25, nameIndex := 316, descriptorIndex := 194, attributes := #[] }, { accessFlags := 25, nameIndex := 318, descriptorIndex := 194, attributes := #[] }, { accessFlags := 26, nameIndex := 320, descriptorIndex := 321, attributes := #[] }])
  fields := #[{ name := "MIN_VALUE", type := .int, accessFlags := 25, slot := 0, constantValue := 0 }, { name := "MAX_VALUE", type := .int, accessFlags := 25, slot := 1, constantValue := 0 }, { name := "TYPE", type := (.object "java/lang/Class"), accessFlags := 25, slot := 2, constantValue := 0 }, { name := "digits", type := (.array .char), accessFlags := 24, slot := 3, constantValue := 0 }, { name := "DigitTens", type := (.array .byte), accessFlags := 24, slot := 4, constantValue := 0 }, { name := "DigitOnes", type := (.array .byte), accessFlags := 24, slot := 5, constantValue := 0 }, { name := "value", type := .int, accessFlags := 18, slot := 0, constantValue := 0 }, { name := "SIZE", type := .int, accessFlags := 25, slot := 6, constantValue := 0 }, { name := "BYTES", type := .int, accessFlags := 25, slot := 7, constantValue := 0 }, { name := "serialVersionUID", type := .long, accessFlags := 26, slot := 8, constantValue := 0 }]
  methods := #[k17m0, k17m1]
  instanceTypes := #[.int]
  staticTypes := #[.int, .int, (.object "java/lang/Class"), (.array .char), (.array .byte), (.array .byte), .int, .int, .long]
  resolved := Array.replicate 453 none
  statics := some 1 }

def pool18 : Array CpInfo := pool [(2, .class_ 4), (1, u "java/lang/Object"), (0, u "<init>"), (0, u "()V"), (7, .class_ 16), (1, u "java/util/Arrays"), (57, .class_ 76), (1, u "java/util/Arrays$NaturalOrder"), (32, u "()Ljava/lang/Object;"), (3, .class_ 115), (1, u "java/util/Arrays$LegacyMergeSort"), (1, u "Z"), (10, .nameAndType 129 109), (0, u "clone"), (9, u "copyOfRange"), (10, .methodref 151 152), (0, .class_ 153), (0, .nameAndType 154 155), (0, u "java/lang/System"), (0, u "arraycopy"), (0, u "(Ljava/lang/Object;ILjava/lang/Object;II)V"), (146, u "copyOf"), (1, .methodref 305 306), (0, .class_ 307), (0, .nameAndType 308 309), (0, u "java/lang/Math"), (0, u "min"), (0, u "(II)I"), (0, .methodref 311 128), (0, .class_ 312), (0, u "[B"), (26, .methodref 14 340), (0, .nameAndType 341 342), (0, u "copyOfRangeByte"), (0, u "([BII)[B"), (0, .methodref 14 344), (0, .nameAndType 345 346), (0, u "checkLength"), (0, u "(II)V"), (28, .class_ 376), (0, u "java/util/Arrays$ArrayList"), (68, u "$assertionsDisabled"), (269, u "MIN_ARRAY_SORT_GRAN"), (0, u "I"), (2, u "INSERTIONSORT_THRESHOLD"), (149, u "([BI)[B"), (105, .class_ 976), (0, u "java/util/Arrays$ArrayItr")] 52

def k18m0 : Method := { name := "<init>", desc := "()V", sig := { parameters := [], returnType := none }, accessFlags := 2, code := none }
def k18c1 : Code := { maxStack := 6, maxLocals := 3, code := jdk_65_method_121_code, exceptionTable := #[], attributes := #[] }
def k18m1 : Method := { name := "copyOf", desc := "([BI)[B", sig := { parameters := [(.array .byte), .int], returnType := some (.array .byte) }, accessFlags := 9, code := some k18c1 }
def k18c2 : Code := { maxStack := 4, maxLocals := 2, code := jdk_65_method_131_code, exceptionTable := #[], attributes := #[] }
def k18m2 : Method := { name := "checkLength", desc := "(II)V", sig := { parameters := [.int, .int], returnType := none }, accessFlags := 10, code := some k18c2 }
def k18c3 : Code := { maxStack := 3, maxLocals := 3, code := jdk_65_method_132_code, exceptionTable := #[], attributes := #[] }
def k18m3 : Method := { name := "copyOfRange", desc := "([BII)[B", sig := { parameters := [(.array .byte), .int, .int], returnType := some (.array .byte) }, accessFlags := 9, code := some k18c3 }
def k18c4 : Code := { maxStack := 6, maxLocals := 5, code := jdk_65_method_133_code, exceptionTable := #[], attributes := #[] }
def k18m4 : Method := { name := "copyOfRangeByte", desc := "([BII)[B", sig := { parameters := [(.array .byte), .int, .int], returnType := some (.array .byte) }, accessFlags := 10, code := some k18c4 }
/-- java/util/Arrays -/
def k18 : Class := { plain "java/util/Arrays" (some 0) with
  accessFlags := 49
  interfaces := #[]
  cf := some (fileOf pool18 14 #[.nestMembers #[975, 375, 113, 74]] #[{ accessFlags := 2, nameIndex := 5, descriptorIndex := 6, attributes := #[] }, { accessFlags := 9, nameIndex := 302, descriptorIndex := 869, attributes := #[] }, { accessFlags := 10, nameIndex := 345, descriptorIndex := 346, attributes := #[] }, { accessFlags := 9, nameIndex := 139, descriptorIndex := 342, attributes := #[] }, { accessFlags := 10, nameIndex := 341, descriptorIndex := 342, attributes := #[] }] 49 2 #[] #[{ accessFlags := 26, nameIndex := 715, descriptorIndex := 716, attributes := #[] }, { accessFlags := 26, nameIndex := 719, descriptorIndex := 716, attributes := #[] }, { accessFlags := 4120, nameIndex := 445, descriptorIndex := 117, attributes := #[] }])
  fields := #[{ name := "MIN_ARRAY_SORT_GRAN", type := .int, accessFlags := 26, slot := 0, constantValue := 0 }, { name := "INSERTIONSORT_THRESHOLD", type := .int, accessFlags := 26, slot := 1, constantValue := 0 }, { name := "$assertionsDisabled", type := .boolean, accessFlags := 4120, slot := 2, constantValue := 0 }]
  methods := #[k18m0, k18m1, k18m2, k18m3, k18m4]
  instanceTypes := #[]
  staticTypes := #[.int, .int, .boolean]
  resolved := Array.replicate 1029 none
  statics := none }

def pool19 : Array CpInfo := pool [(1, .class_ 2), (0, u "java/lang/Math"), (1, .class_ 6), (1, u "java/lang/Object"), (0, u "<init>"), (0, u "()V"), (89, .class_ 100), (1, u "java/lang/Math$RandomNumberGeneratorHolder"), (71, u "negativeZeroFloatBits"), (0, u "J"), (2, u "negativeZeroDoubleBits"), (21, u "max"), (2, u "min"), (43, u "$assertionsDisabled"), (0, u "Z"), (88, u "(II)I"), (2, u "twoToTheDoubleScaleDown"), (0, u "D"), (4, u "twoToTheDoubleScaleUp"), (9, u "E"), (3, u "PI"), (2, u "TAU"), (2, u "DEGREES_TO_RADIANS"), (0, u "RADIANS_TO_DEGREES")] 94

def k19m0 : Method := { name := "<init>", desc := "()V", sig := { parameters := [], returnType := none }, accessFlags := 2, code := none }
def k19c1 : Code := { maxStack := 2, maxLocals := 2, code := jdk_29_method_65_code, exceptionTable := #[], attributes := #[] }
def k19m1 : Method := { name := "max", desc := "(II)I", sig := { parameters := [.int, .int], returnType := some .int }, accessFlags := 9, code := some k19c1 }
def k19c2 : Code := { maxStack := 2, maxLocals := 2, code := jdk_29_method_69_code, exceptionTable := #[], attributes := #[] }
def k19m2 : Method := { name := "min", desc := "(II)I", sig := { parameters := [.int, .int], returnType := some .int }, accessFlags := 9, code := some k19c2 }
/-- java/lang/Math -/
def k19 : Class := { plain "java/lang/Math" (some 0) with
  accessFlags := 49
  interfaces := #[]
  cf := some (fileOf pool19 1 #[.nestMembers #[98]] #[{ accessFlags := 2, nameIndex := 7, descriptorIndex := 8, attributes := #[] }, { accessFlags := 9, nameIndex := 198, descriptorIndex := 335, attributes := #[] }, { accessFlags := 9, nameIndex := 201, descriptorIndex := 335, attributes := #[] }] 49 4 #[] #[{ accessFlags := 25, nameIndex := 354, descriptorIndex := 339, attributes := #[] }, { accessFlags := 25, nameIndex := 358, descriptorIndex := 339, attributes := #[] }, { accessFlags := 25, nameIndex := 361, descriptorIndex := 339, attributes := #[] }, { accessFlags := 26, nameIndex := 364, descriptorIndex := 339, attributes := #[] }, { accessFlags := 26, nameIndex := 365, descriptorIndex := 339, attributes := #[] }, { accessFlags := 26, nameIndex := 172, descriptorIndex := 173, attributes := #[] }, { accessFlags := 26, nameIndex := 176, descriptorIndex := 173, attributes := #[] }, { accessFlags := 8, nameIndex := 344, descriptorIndex := 339, attributes := #[] }, { accessFlags := 8, nameIndex := 338, descriptorIndex := 339, attributes := #[] }, { accessFlags := 4120, nameIndex := 245, descriptorIndex := 246, attributes := #[] }])
  fields := #[{ name := "E", type := .double, accessFlags := 25, slot := 0, constantValue := 0 }, { name := "PI", type := .double, accessFlags := 25, slot := 1, constantValue := 0 }, { name := "TAU", type := .double, accessFlags := 25, slot := 2, constantValue := 0 }, { name := "DEGREES_TO_RADIANS", type := .double, accessFlags := 26, slot := 3, constantValue := 0 }, { name := "RADIANS_TO_DEGREES", type := .double, accessFlags := 26, slot := 4, constantValue := 0 }, { name := "negativeZeroFloatBits", type := .long, accessFlags := 26, slot := 5, constantValue := 0 }, { name := "negativeZeroDoubleBits", type := .long, accessFlags := 26, slot := 6, constantValue := 0 }, { name := "twoToTheDoubleScaleUp", type := .double, accessFlags := 8, slot := 7, constantValue := 0 }, { name := "twoToTheDoubleScaleDown", type := .double, accessFlags := 8, slot := 8, constantValue := 0 }, { name := "$assertionsDisabled", type := .boolean, accessFlags := 4120, slot := 9, constantValue := 0 }]
  methods := #[k19m0, k19m1, k19m2]
  instanceTypes := #[]
  staticTypes := #[.double, .double, .double, .double, .double, .long, .long, .double, .double, .boolean]
  resolved := Array.replicate 460 none
  statics := none }

def pool20 : Array CpInfo := pool [(1, .class_ 2), (0, u "java/lang/String"), (1, .class_ 6), (1, u "java/lang/Object"), (0, u "<init>"), (0, u "()V"), (0, .methodref 1 10), (0, .nameAndType 11 12), (0, u "checkIndex"), (0, u "(II)V"), (1, .class_ 16), (1, u "java/lang/StringLatin1"), (36, u "([BI)C"), (67, u "$assertionsDisabled"), (0, u "Z"), (98, .class_ 223), (1, u "java/lang/StringLatin1$LinesSpliterator"), (28, u "charAt"), (137, .class_ 391), (0, u "java/lang/StringLatin1$CharsSpliterator")] 3

def k20m0 : Method := { name := "<init>", desc := "()V", sig := { parameters := [], returnType := none }, accessFlags := 0, code := none }
def k20c1 : Code := { maxStack := 2, maxLocals := 2, code := jdk_43_method_2_code, exceptionTable := #[], attributes := #[] }
def k20m1 : Method := { name := "charAt", desc := "([BI)C", sig := { parameters := [(.array .byte), .int], returnType := some .char }, accessFlags := 9, code := some k20c1 }
/-- java/lang/StringLatin1 -/
def k20 : Class := { plain "java/lang/StringLatin1" (some 0) with
  accessFlags := 48
  interfaces := #[]
  cf := some (fileOf pool20 14 #[.nestMembers #[390, 221]] #[{ accessFlags := 0, nameIndex := 7, descriptorIndex := 8, attributes := #[] }, { accessFlags := 9, nameIndex := 252, descriptorIndex := 53, attributes := #[] }] 48 4 #[] #[{ accessFlags := 4120, nameIndex := 121, descriptorIndex := 122, attributes := #[] }])
  fields := #[{ name := "$assertionsDisabled", type := .boolean, accessFlags := 4120, slot := 0, constantValue := 0 }]
  methods := #[k20m0, k20m1]
  instanceTypes := #[]
  staticTypes := #[.boolean]
  resolved := Array.replicate 395 none
  statics := none }

def pool21 : Array CpInfo := pool [(2, .class_ 4), (1, u "java/lang/Object"), (0, u "<init>"), (0, u "()V"), (17, .class_ 26), (1, u "jdk/internal/util/Preconditions"), (6, u "checkIndex"), (21, .class_ 56), (0, u "jdk/internal/util/Preconditions$4"), (57, .class_ 115), (0, u "jdk/internal/util/Preconditions$1"), (7, u "SIOOBE_FORMATTER"), (0, u "Ljava/util/function/BiFunction;"), (0, .class_ 126), (0, u "jdk/internal/util/Preconditions$2"), (3, u "AIOOBE_FORMATTER"), (0, .class_ 132), (0, u "jdk/internal/util/Preconditions$3"), (3, u "IOOBE_FORMATTER"), (41, u "(IILjava/util/function/BiFunction;)I")] 15

def k21m0 : Method := { name := "<init>", desc := "()V", sig := { parameters := [], returnType := none }, accessFlags := 1, code := none }
def k21c1 : Code := { maxStack := 3, maxLocals := 3, code := jdk_41_method_11_code, exceptionTable := #[], attributes := #[] }
def k21m1 : Method := { name := "checkIndex", desc := "(IILjava/util/function/BiFunction;)I", sig := { parameters := [.int, .int, (.object "java/util/function/BiFunction")], returnType := some .int }, accessFlags := 9, code := some k21c1 }
/-- jdk/internal/util/Preconditions -/
def k21 : Class := { plain "jdk/internal/util/Preconditions" (some 0) with
  accessFlags := 33
  interfaces := #[]
  cf := some (fileOf pool21 24 #[.nestMembers #[55, 131, 125, 114]] #[{ accessFlags := 1, nameIndex := 5, descriptorIndex := 6, attributes := #[] }, { accessFlags := 9, nameIndex := 33, descriptorIndex := 178, attributes := #[] }] 33 2 #[] #[{ accessFlags := 25, nameIndex := 123, descriptorIndex := 124, attributes := #[] }, { accessFlags := 25, nameIndex := 130, descriptorIndex := 124, attributes := #[] }, { accessFlags := 25, nameIndex := 136, descriptorIndex := 124, attributes := #[] }])
  fields := #[{ name := "SIOOBE_FORMATTER", type := (.object "java/util/function/BiFunction"), accessFlags := 25, slot := 0, constantValue := 0 }, { name := "AIOOBE_FORMATTER", type := (.object "java/util/function/BiFunction"), accessFlags := 25, slot := 1, constantValue := 0 }, { name := "IOOBE_FORMATTER", type := (.object "java/util/function/BiFunction"), accessFlags := 25, slot := 2, constantValue := 0 }]
  methods := #[k21m0, k21m1]
  instanceTypes := #[]
  staticTypes := #[(.object "java/util/function/BiFunction"), (.object "java/util/function/BiFunction"), (.object "java/util/function/BiFunction")]
  resolved := Array.replicate 194 none
  statics := some 2 }

def pool22 : Array CpInfo := pool [(9, u "<init>"), (6, .class_ 18), (1, u "java/lang/Object"), (0, u "()V"), (1, .class_ 23), (1, u "jdk/internal/util/ArraysSupport"), (0, u "LOG2_ARRAY_LONG_INDEX_SCALE"), (0, u "I"), (2, u "U"), (0, u "Ljdk/internal/misc/Unsafe;"), (8, u "BIG_ENDIAN"), (0, u "Z"), (8, u "LOG2_BYTE_BIT_SIZE"), (4, u "LOG2_ARRAY_INT_INDEX_SCALE"), (54, u "JLA"), (0, u "Ljdk/internal/access/JavaLangAccess;"), (11, u "LOG2_ARRAY_BOOLEAN_INDEX_SCALE"), (9, u "LOG2_ARRAY_BYTE_INDEX_SCALE"), (5, u "LOG2_ARRAY_CHAR_INDEX_SCALE"), (5, u "LOG2_ARRAY_SHORT_INDEX_SCALE"), (18, u "LOG2_ARRAY_FLOAT_INDEX_SCALE"), (24, u "LOG2_ARRAY_DOUBLE_INDEX_SCALE"), (6, .methodref 195 196), (0, .class_ 197), (0, .nameAndType 198 199), (0, u "java/lang/Math"), (0, u "max"), (0, u "(II)I"), (0, .integer 2147483639), (76, u "T_BOOLEAN"), (2, u "T_CHAR"), (1, u "T_FLOAT"), (1, u "T_DOUBLE"), (1, u "T_BYTE"), (1, u "T_SHORT"), (1, u "T_INT"), (1, u "T_LONG"), (1, u "SOFT_MAX_ARRAY_LENGTH"), (56, u "newLength"), (0, u "(III)I")] 25

def k22m0 : Method := { name := "<init>", desc := "()V", sig := { parameters := [], returnType := none }, accessFlags := 2, code := none }
def k22c1 : Code := { maxStack := 3, maxLocals := 4, code := jdk_48_method_27_code, exceptionTable := #[], attributes := #[] }
def k22m1 : Method := { name := "newLength", desc := "(III)I", sig := { parameters := [.int, .int, .int], returnType := some .int }, accessFlags := 9, code := some k22c1 }
/-- jdk/internal/util/ArraysSupport -/
def k22 : Class := { plain "jdk/internal/util/ArraysSupport" (some 0) with
  accessFlags := 33
  interfaces := #[]
  cf := some (fileOf pool22 21 #[] #[{ accessFlags := 2, nameIndex := 9, descriptorIndex := 19, attributes := #[] }, { accessFlags := 9, nameIndex := 351, descriptorIndex := 352, attributes := #[] }] 33 16 #[] #[{ accessFlags := 24, nameIndex := 28, descriptorIndex := 29, attributes := #[] }, { accessFlags := 26, nameIndex := 38, descriptorIndex := 39, attributes := #[] }, { accessFlags := 25, nameIndex := 121, descriptorIndex := 25, attributes := #[] }, { accessFlags := 25, nameIndex := 131, descriptorIndex := 25, attributes := #[] }, { accessFlags := 25, nameIndex := 137, descriptorIndex := 25, attributes := #[] }, { accessFlags := 25, nameIndex := 143, descriptorIndex := 25, attributes := #[] }, { accessFlags := 25, nameIndex := 53, descriptorIndex := 25, attributes := #[] }, { accessFlags := 25, nameIndex := 24, descriptorIndex := 25, attributes := #[] }, { accessFlags := 25, nameIndex := 162, descriptorIndex := 25, attributes := #[] }, { accessFlags := 25, nameIndex := 187, descriptorIndex := 25, attributes := #[] }, { accessFlags := 26, nameIndex := 48, descriptorIndex := 25, attributes := #[] }, { accessFlags := 25, nameIndex := 277, descriptorIndex := 25, attributes := #[] }, { accessFlags := 25, nameIndex := 280, descriptorIndex := 25, attributes := #[] }, { accessFlags := 25, nameIndex := 282, descriptorIndex := 25, attributes := #[] }, { accessFlags := 25, nameIndex := 284, descriptorIndex := 25, attributes := #[] }, { accessFlags := 25, nameIndex := 286, descriptorIndex := 25, attributes := #[] }, { accessFlags := 25, nameIndex := 288, descriptorIndex := 25, attributes := #[] }, { accessFlags := 25, nameIndex := 290, descriptorIndex := 25, attributes := #[] }, { accessFlags := 25, nameIndex := 292, descriptorIndex := 25, attributes := #[] }, { accessFlags := 26, nameIndex := 108, descriptorIndex := 109, attributes := #[] }, { accessFlags := 25, nameIndex := 294, descriptorIndex := 25, attributes := #[] }])
  fields := #[{ name := "U", type := (.object "jdk/internal/misc/Unsafe"), accessFlags := 24, slot := 0, constantValue := 0 }, { name := "BIG_ENDIAN", type := .boolean, accessFlags := 26, slot := 1, constantValue := 0 }, { name := "LOG2_ARRAY_BOOLEAN_INDEX_SCALE", type := .int, accessFlags := 25, slot := 2, constantValue := 0 }, { name := "LOG2_ARRAY_BYTE_INDEX_SCALE", type := .int, accessFlags := 25, slot := 3, constantValue := 0 }, { name := "LOG2_ARRAY_CHAR_INDEX_SCALE", type := .int, accessFlags := 25, slot := 4, constantValue := 0 }, { name := "LOG2_ARRAY_SHORT_INDEX_SCALE", type := .int, accessFlags := 25, slot := 5, constantValue := 0 }, { name := "LOG2_ARRAY_INT_INDEX_SCALE", type := .int, accessFlags := 25, slot := 6, constantValue := 0 }, { name := "LOG2_ARRAY_LONG_INDEX_SCALE", type := .int, accessFlags := 25, slot := 7, constantValue := 0 }, { name := "LOG2_ARRAY_FLOAT_INDEX_SCALE", type := .int, accessFlags := 25, slot := 8, constantValue := 0 }, { name := "LOG2_ARRAY_DOUBLE_INDEX_SCALE", type := .int, accessFlags := 25, slot := 9, constantValue := 0 }, { name := "LOG2_BYTE_BIT_SIZE", type := .int, accessFlags := 26, slot := 10, constantValue := 0 }, { name := "T_BOOLEAN", type := .int, accessFlags := 25, slot := 11, constantValue := 0 }, { name := "T_CHAR", type := .int, accessFlags := 25, slot := 12, constantValue := 0 }, { name := "T_FLOAT", type := .int, accessFlags := 25, slot := 13, constantValue := 0 }, { name := "T_DOUBLE", type := .int, accessFlags := 25, slot := 14, constantValue := 0 }, { name := "T_BYTE", type := .int, accessFlags := 25, slot := 15, constantValue := 0 }, { name := "T_SHORT", type := .int, accessFlags := 25, slot := 16, constantValue := 0 }, { name := "T_INT", type := .int, accessFlags := 25, slot := 17, constantValue := 0 }, { name := "T_LONG", type := .int, accessFlags := 25, slot := 18, constantValue := 0 }, { name := "JLA", type := (.object "jdk/internal/access/JavaLangAccess"), accessFlags := 26, slot := 19, constantValue := 0 }, { name := "SOFT_MAX_ARRAY_LENGTH", type := .int, accessFlags := 25, slot := 20, constantValue := 0 }]
  methods := #[k22m0, k22m1]
  instanceTypes := #[]
  staticTypes := #[(.object "jdk/internal/misc/Unsafe"), .boolean, .int, .int, .int, .int, .int, .int, .int, .int, .int, .int, .int, .int, .int, .int, .int, .int, .int, (.object "jdk/internal/access/JavaLangAccess"), .int]
  resolved := Array.replicate 378 none
  statics := none }

def pool23 : Array CpInfo := pool [(1, .class_ 2), (0, u "java/lang/Cloneable"), (0, .class_ 4), (0, u "java/lang/Object")] 2

/-- java/lang/Cloneable -/
def k23 : Class := { plain "java/lang/Cloneable" (some 0) with
  accessFlags := 1537
  interfaces := #[]
  cf := some (fileOf pool23 1 #[] #[] 1537 3 #[] #[])
  fields := #[]
  methods := #[]
  instanceTypes := #[]
  staticTypes := #[]
  resolved := Array.replicate 7 none
  statics := none }

/-- the primitive byte -/
def k24 : Class := { plain "byte" none with kind := .primitive 'B', accessFlags := 0x411 }
/-- [B -/
def k25 : Class := { plain "[B" (some 0) with kind := .array 24 .byte, interfaces := #[23, 2], accessFlags := 1041 }

/-- the primitive char -/
def k26 : Class := { plain "char" none with kind := .primitive 'C', accessFlags := 0x411 }
/-- [C -/
def k27 : Class := { plain "[C" (some 0) with kind := .array 26 .char, interfaces := #[23, 2], accessFlags := 1041 }

/-- the primitive int -/
def k28 : Class := { plain "int" none with kind := .primitive 'I', accessFlags := 0x411 }
/-- [I -/
def k29 : Class := { plain "[I" (some 0) with kind := .array 28 .int, interfaces := #[23, 2], accessFlags := 1041 }

/-- the primitive long -/
def k30 : Class := { plain "long" none with kind := .primitive 'J', accessFlags := 0x411 }
/-- [J -/
def k31 : Class := { plain "[J" (some 0) with kind := .array 30 .long, interfaces := #[23, 2], accessFlags := 1041 }

def heap : Heap := #[{ cls := 7, slots := #[.long 0, .int 1, .null, .int 0, .null, .int 0, .int 0], vm := .statics 7 },
  { cls := 17, slots := #[.int 0, .int 0, .null, .null, .ref 4, .ref 3, .int 0, .int 0, .long 0], vm := .statics 17 },
  { cls := 21, slots := #[.null, .null, .null], vm := .statics 21 },
  { cls := 25, slots := #[.int 48, .int 49, .int 50, .int 51, .int 52, .int 53, .int 54, .int 55, .int 56, .int 57, .int 48, .int 49, .int 50, .int 51, .int 52, .int 53, .int 54, .int 55, .int 56, .int 57, .int 48, .int 49, .int 50, .int 51, .int 52, .int 53, .int 54, .int 55, .int 56, .int 57, .int 48, .int 49, .int 50, .int 51, .int 52, .int 53, .int 54, .int 55, .int 56, .int 57, .int 48, .int 49, .int 50, .int 51, .int 52, .int 53, .int 54, .int 55, .int 56, .int 57, .int 48, .int 49, .int 50, .int 51, .int 52, .int 53, .int 54, .int 55, .int 56, .int 57, .int 48, .int 49, .int 50, .int 51, .int 52, .int 53, .int 54, .int 55, .int 56, .int 57, .int 48, .int 49, .int 50, .int 51, .int 52, .int 53, .int 54, .int 55, .int 56, .int 57, .int 48, .int 49, .int 50, .int 51, .int 52, .int 53, .int 54, .int 55, .int 56, .int 57, .int 48, .int 49, .int 50, .int 51, .int 52, .int 53, .int 54, .int 55, .int 56, .int 57], vm := .none },
  { cls := 25, slots := #[.int 48, .int 48, .int 48, .int 48, .int 48, .int 48, .int 48, .int 48, .int 48, .int 48, .int 49, .int 49, .int 49, .int 49, .int 49, .int 49, .int 49, .int 49, .int 49, .int 49, .int 50, .int 50, .int 50, .int 50, .int 50, .int 50, .int 50, .int 50, .int 50, .int 50, .int 51, .int 51, .int 51, .int 51, .int 51, .int 51, .int 51, .int 51, .int 51, .int 51, .int 52, .int 52, .int 52, .int 52, .int 52, .int 52, .int 52, .int 52, .int 52, .int 52, .int 53, .int 53, .int 53, .int 53, .int 53, .int 53, .int 53, .int 53, .int 53, .int 53, .int 54, .int 54, .int 54, .int 54, .int 54, .int 54, .int 54, .int 54, .int 54, .int 54, .int 55, .int 55, .int 55, .int 55, .int 55, .int 55, .int 55, .int 55, .int 55, .int 55, .int 56, .int 56, .int 56, .int 56, .int 56, .int 56, .int 56, .int 56, .int 56, .int 56, .int 57, .int 57, .int 57, .int 57, .int 57, .int 57, .int 57, .int 57, .int 57, .int 57], vm := .none }]
def classes : Array Class := #[k0, k1, k2, k3, k4, k5, k6, k7, k8, k9, k10, k11, k12, k13, k14, k15, k16, k17, k18, k19, k20, k21, k22, k23, k24, k25, k26, k27, k28, k29, k30, k31]
def interned : List (Array UInt16 × Addr) := []
def slotsUsed : Nat := 219
def theMethod : MethodId := ⟨1, 1⟩
def args0 : Array Value := #[.long 1, .int 7, .int 8, .long 2, .int 3]
def aboutOver (below : List Frame) : State where
  vm := { classes := classes, interned := interned.toArray }
  heap := heap
  slotsUsed := slotsUsed
  threads := #[{ frames := .invoking theMethod args0 :: below }]
def below0 : List Frame := [.native { method := ⟨0, 0⟩, args := #[] }]
def about1 : State := aboutOver below0
def p0 : Program := .bare "" "" ""
def e0 : Env := launch0.env 0 0 0
theorem w_frames : about1.frames = Frame.invoking theMethod args0 :: below0 := rfl
set_option maxRecDepth 65536 in
theorem w_args : argsFit about1.vm theMethod args0 = true := by decide +kernel
set_option maxRecDepth 65536 in
theorem w_heap : heapFits about1 = true := by decide +kernel
set_option maxRecDepth 65536 in
theorem w_runnable : about1.curStatus? = some .runnable := by decide +kernel
set_option maxRecDepth 65536 in
theorem w_alone : about1.alone = true := by decide +kernel
set_option maxRecDepth 65536 in
theorem w_named : about1.methodNamed? x = some theMethod := by decide +kernel
set_option maxRecDepth 65536 in
theorem w_hears : about1.hears theMethod below0 = true := by decide +kernel
set_option maxRecDepth 65536 in
theorem w_ripe : about1.ripe theMethod args0 below0 = true := by decide +kernel
theorem w_running : about1.status = .running := rfl
set_option maxRecDepth 65536 in
theorem w_room : about1.hasRoom e0.platform room_1 = true :=
  launch0.hasRoom_least _ room_1 (by decide +kernel) (by decide +kernel) (by decide +kernel) (by decide +kernel) (by decide +kernel) (by decide +kernel)
theorem allAtoms_all (ts : List Jvm.Cond) (a : Array Jvm.Value) (st : Jvm.State) : (allAtoms ts).before a st = ts.all (fun c => c.before a st) := by
  induction ts with
  | nil => rfl
  | cons c t ih =>
    show (Jvm.Cond.and c (allAtoms t)).before a st = _
    rw [Jvm.Cond.before_and, ih, List.all_cons]
def words1 : List Jvm.Cond := Jvm.Cond.code x code maxLocals ret :: tables_1
/-- a 'code' word, met by the world's own term for the bytes: nothing is compared byte by byte -/
theorem code_word {y : MethodName} {bytes : ByteArray} {mx : Nat} {rt : Option FieldType} {a : Array Value} {s : State} {m : MethodId} {meth : Method} {c : Code} (h1 : s.methodNamed? y = some m) (h2 : s.vm.method? m = some meth) (h3 : meth.code = some c) (h4 : c.code = bytes)
    (h5 : (c.maxLocals == mx && c.exceptionTable.isEmpty && decide (c.maxStack ≤ mostOperands) && decide (meth.sig.returnType = rt) && !meth.locks && decide (parseMethodDescriptor y.desc = some meth.sig)) = true) : (Jvm.Cond.code y bytes mx rt).before a s = true := by
  simp only [Bool.and_eq_true, beq_iff_eq, Bool.not_eq_true', decide_eq_true_eq] at h5
  obtain ⟨⟨⟨⟨⟨g1, g2⟩, g3⟩, g4⟩, g5⟩, g6⟩ := h5
  simp [Cond.before, Cond.holds, Cond.value, h1, h2, h3, h4, g1, g2, g3, g4, g5, g6]
def isCode : Jvm.Cond → Bool
  | .code _ _ _ _ => true
  | _ => false
theorem all_split {L : List Jvm.Cond} {P : Jvm.Cond → Bool} (h1 : L.all (fun c => isCode c || P c) = true) (h2 : ∀ c ∈ L.filter isCode, P c = true) : L.all P = true := by
  refine List.all_eq_true.mpr fun c hc => ?_
  have h := List.all_eq_true.mp h1 c hc
  rcases Bool.eq_false_or_eq_true (isCode c) with hi | hi
  · exact h2 c (List.mem_filter.mpr ⟨hc, hi⟩)
  · simpa [hi] using h
set_option maxRecDepth 65536 in
theorem w_c0 : (Jvm.Cond.code x code maxLocals ret).before args0 about1 = true := code_word (m := ⟨1, 1⟩) (meth := k1m1) (c := k1c1) (by decide +kernel) rfl rfl rfl (by decide +kernel)
set_option maxRecDepth 65536 in
theorem w_c1 : (Jvm.Cond.code ({ cls := "com/example/lukko/lukko/RuleProblemTextPinLaw", name := "chars", desc := "(J)[C" } : Jvm.MethodName) method_3_code (3 : Nat) (Option.some (Jvm.ClassFile.FieldType.array Jvm.ClassFile.FieldType.char))).before args0 about1 = true := code_word (m := ⟨1, 2⟩) (meth := k1m2) (c := k1c2) (by decide +kernel) rfl rfl rfl (by decide +kernel)
set_option maxRecDepth 65536 in
theorem w_c2 : (Jvm.Cond.code ({ cls := "com/example/lukko/lukko/RuleProblemTextPinLaw", name := "str", desc := "([CI)Ljava/lang/String;" } : Jvm.MethodName) method_4_code (2 : Nat) (Option.some (Jvm.ClassFile.FieldType.object "java/lang/String"))).before args0 about1 = true := code_word (m := ⟨1, 3⟩) (meth := k1m3) (c := k1c3) (by decide +kernel) rfl rfl rfl (by decide +kernel)
set_option maxRecDepth 65536 in
theorem w_c3 : (Jvm.Cond.code ({ cls := "java/lang/String", name := "<init>", desc := "([C)V" } : Jvm.MethodName) jdk_42_method_3_code (2 : Nat) (Option.none : Option Jvm.ClassFile.FieldType)).before args0 about1 = true := code_word (m := ⟨7, 1⟩) (meth := k7m1) (c := k7c1) (by decide +kernel) rfl rfl rfl (by decide +kernel)
set_option maxRecDepth 65536 in
theorem w_c4 : (Jvm.Cond.code ({ cls := "java/lang/String", name := "<init>", desc := "([CIILjava/lang/Void;)V" } : Jvm.MethodName) jdk_42_method_149_code (6 : Nat) (Option.none : Option Jvm.ClassFile.FieldType)).before args0 about1 = true := code_word (m := ⟨7, 6⟩) (meth := k7m6) (c := k7c6) (by decide +kernel) rfl rfl rfl (by decide +kernel)
set_option maxRecDepth 65536 in
theorem w_c5 : (Jvm.Cond.code ({ cls := "java/lang/Object", name := "<init>", desc := "()V" } : Jvm.MethodName) object_method_1_code (1 : Nat) (Option.none : Option Jvm.ClassFile.FieldType)).before args0 about1 = true := code_word (m := ⟨0, 0⟩) (meth := k0m0) (c := k0c0) (by decide +kernel) rfl rfl rfl (by decide +kernel)
set_option maxRecDepth 65536 in
theorem w_c6 : (Jvm.Cond.code ({ cls := "java/lang/StringUTF16", name := "compress", desc := "([CII)[B" } : Jvm.MethodName) jdk_52_method_16_code (6 : Nat) (Option.some (Jvm.ClassFile.FieldType.array Jvm.ClassFile.FieldType.byte))).before args0 about1 = true := code_word (m := ⟨8, 2⟩) (meth := k8m2) (c := k8c2) (by decide +kernel) rfl rfl rfl (by decide +kernel)
set_option maxRecDepth 65536 in
theorem w_c7 : (Jvm.Cond.code ({ cls := "java/lang/StringUTF16", name := "compress", desc := "([CI[BII)I" } : Jvm.MethodName) jdk_52_method_21_code (7 : Nat) (Option.some Jvm.ClassFile.FieldType.int)).before args0 about1 = true := code_word (m := ⟨8, 3⟩) (meth := k8m3) (c := k8c3) (by decide +kernel) rfl rfl rfl (by decide +kernel)
set_option maxRecDepth 65536 in
theorem w_c8 : (Jvm.Cond.code ({ cls := "java/lang/StringUTF16", name := "coderFromArrayLen", desc := "([BI)B" } : Jvm.MethodName) jdk_52_method_15_code (2 : Nat) (Option.some Jvm.ClassFile.FieldType.byte)).before args0 about1 = true := code_word (m := ⟨8, 1⟩) (meth := k8m1) (c := k8c1) (by decide +kernel) rfl rfl rfl (by decide +kernel)
set_option maxRecDepth 65536 in
theorem w_c9 : (Jvm.Cond.code ({ cls := "com/example/lukko/lukko/RuleProblem", name := "<init>", desc := "(Ljava/lang/String;IILjava/lang/String;)V" } : Jvm.MethodName) prog_21_method_1_code (5 : Nat) (Option.none : Option Jvm.ClassFile.FieldType)).before args0 about1 = true := code_word (m := ⟨10, 0⟩) (meth := k10m0) (c := k10c0) (by decide +kernel) rfl rfl rfl (by decide +kernel)
set_option maxRecDepth 65536 in
theorem w_c10 : (Jvm.Cond.code ({ cls := "java/lang/Record", name := "<init>", desc := "()V" } : Jvm.MethodName) jdk_30_method_1_code (1 : Nat) (Option.none : Option Jvm.ClassFile.FieldType)).before args0 about1 = true := code_word (m := ⟨9, 0⟩) (meth := k9m0) (c := k9c0) (by decide +kernel) rfl rfl rfl (by decide +kernel)
set_option maxRecDepth 65536 in
theorem w_c11 : (Jvm.Cond.code ({ cls := "java/util/Objects", name := "requireNonNull", desc := "(Ljava/lang/Object;Ljava/lang/String;)Ljava/lang/Object;" } : Jvm.MethodName) jdk_31_method_11_code (2 : Nat) (Option.some (Jvm.ClassFile.FieldType.object "java/lang/Object"))).before args0 about1 = true := code_word (m := ⟨11, 1⟩) (meth := k11m1) (c := k11c1) (by decide +kernel) rfl rfl rfl (by decide +kernel)
set_option maxRecDepth 65536 in
theorem w_c12 : (Jvm.Cond.code ({ cls := "com/example/lukko/lukko/RuleProblem", name := "text", desc := "()Ljava/lang/String;" } : Jvm.MethodName) prog_21_method_2_code (1 : Nat) (Option.some (Jvm.ClassFile.FieldType.object "java/lang/String"))).before args0 about1 = true := code_word (m := ⟨10, 1⟩) (meth := k10m1) (c := k10c1) (by decide +kernel) rfl rfl rfl (by decide +kernel)
set_option maxRecDepth 65536 in
theorem w_c13 : (Jvm.Cond.code ({ cls := "java/lang/StringBuilder", name := "<init>", desc := "()V" } : Jvm.MethodName) jdk_67_method_1_code (1 : Nat) (Option.none : Option Jvm.ClassFile.FieldType)).before args0 about1 = true := code_word (m := ⟨14, 0⟩) (meth := k14m0) (c := k14c0) (by decide +kernel) rfl rfl rfl (by decide +kernel)
set_option maxRecDepth 65536 in
theorem w_c14 : (Jvm.Cond.code ({ cls := "java/lang/AbstractStringBuilder", name := "<init>", desc := "(I)V" } : Jvm.MethodName) jdk_68_method_2_code (2 : Nat) (Option.none : Option Jvm.ClassFile.FieldType)).before args0 about1 = true := code_word (m := ⟨13, 1⟩) (meth := k13m1) (c := k13c1) (by decide +kernel) rfl rfl rfl (by decide +kernel)
set_option maxRecDepth 65536 in
theorem w_c15 : (Jvm.Cond.code ({ cls := "java/lang/StringBuilder", name := "append", desc := "(Ljava/lang/String;)Ljava/lang/StringBuilder;" } : Jvm.MethodName) jdk_67_method_7_code (2 : Nat) (Option.some (Jvm.ClassFile.FieldType.object "java/lang/StringBuilder"))).before args0 about1 = true := code_word (m := ⟨14, 1⟩) (meth := k14m1) (c := k14c1) (by decide +kernel) rfl rfl rfl (by decide +kernel)
set_option maxRecDepth 65536 in
theorem w_c16 : (Jvm.Cond.code ({ cls := "java/lang/AbstractStringBuilder", name := "append", desc := "(Ljava/lang/String;)Ljava/lang/AbstractStringBuilder;" } : Jvm.MethodName) jdk_68_method_22_code (3 : Nat) (Option.some (Jvm.ClassFile.FieldType.object "java/lang/AbstractStringBuilder"))).before args0 about1 = true := code_word (m := ⟨13, 5⟩) (meth := k13m5) (c := k13c5) (by decide +kernel) rfl rfl rfl (by decide +kernel)
set_option maxRecDepth 65536 in
theorem w_c17 : (Jvm.Cond.code ({ cls := "java/lang/String", name := "length", desc := "()I" } : Jvm.MethodName) jdk_42_method_54_code (1 : Nat) (Option.some Jvm.ClassFile.FieldType.int)).before args0 about1 = true := code_word (m := ⟨7, 3⟩) (meth := k7m3) (c := k7c3) (by decide +kernel) rfl rfl rfl (by decide +kernel)
set_option maxRecDepth 65536 in
theorem w_c18 : (Jvm.Cond.code ({ cls := "java/lang/String", name := "coder", desc := "()B" } : Jvm.MethodName) jdk_42_method_152_code (1 : Nat) (Option.some Jvm.ClassFile.FieldType.byte)).before args0 about1 = true := code_word (m := ⟨7, 8⟩) (meth := k7m8) (c := k7c8) (by decide +kernel) rfl rfl rfl (by decide +kernel)
set_option maxRecDepth 65536 in
theorem w_c19 : (Jvm.Cond.code ({ cls := "java/lang/AbstractStringBuilder", name := "ensureCapacityInternal", desc := "(I)V" } : Jvm.MethodName) jdk_68_method_9_code (3 : Nat) (Option.none : Option Jvm.ClassFile.FieldType)).before args0 about1 = true := code_word (m := ⟨13, 3⟩) (meth := k13m3) (c := k13c3) (by decide +kernel) rfl rfl rfl (by decide +kernel)
set_option maxRecDepth 65536 in
theorem w_c20 : (Jvm.Cond.code ({ cls := "java/lang/AbstractStringBuilder", name := "putStringAt", desc := "(ILjava/lang/String;)V" } : Jvm.MethodName) jdk_68_method_73_code (3 : Nat) (Option.none : Option Jvm.ClassFile.FieldType)).before args0 about1 = true := code_word (m := ⟨13, 10⟩) (meth := k13m10) (c := k13c10) (by decide +kernel) rfl rfl rfl (by decide +kernel)
set_option maxRecDepth 65536 in
theorem w_c21 : (Jvm.Cond.code ({ cls := "java/lang/AbstractStringBuilder", name := "inflateIfNeededFor", desc := "(Ljava/lang/String;)V" } : Jvm.MethodName) jdk_68_method_71_code (2 : Nat) (Option.none : Option Jvm.ClassFile.FieldType)).before args0 about1 = true := code_word (m := ⟨13, 9⟩) (meth := k13m9) (c := k13c9) (by decide +kernel) rfl rfl rfl (by decide +kernel)
set_option maxRecDepth 65536 in
theorem w_c22 : (Jvm.Cond.code ({ cls := "java/lang/String", name := "getBytes", desc := "([BIB)V" } : Jvm.MethodName) jdk_42_method_147_code (4 : Nat) (Option.none : Option Jvm.ClassFile.FieldType)).before args0 about1 = true := code_word (m := ⟨7, 5⟩) (meth := k7m5) (c := k7c5) (by decide +kernel) rfl rfl rfl (by decide +kernel)
set_option maxRecDepth 65536 in
theorem w_c23 : (Jvm.Cond.code ({ cls := "java/lang/StringBuilder", name := "append", desc := "(I)Ljava/lang/StringBuilder;" } : Jvm.MethodName) jdk_67_method_15_code (2 : Nat) (Option.some (Jvm.ClassFile.FieldType.object "java/lang/StringBuilder"))).before args0 about1 = true := code_word (m := ⟨14, 2⟩) (meth := k14m2) (c := k14c2) (by decide +kernel) rfl rfl rfl (by decide +kernel)
set_option maxRecDepth 65536 in
theorem w_c24 : (Jvm.Cond.code ({ cls := "java/lang/AbstractStringBuilder", name := "append", desc := "(I)Ljava/lang/AbstractStringBuilder;" } : Jvm.MethodName) jdk_68_method_32_code (4 : Nat) (Option.some (Jvm.ClassFile.FieldType.object "java/lang/AbstractStringBuilder"))).before args0 about1 = true := code_word (m := ⟨13, 6⟩) (meth := k13m6) (c := k13c6) (by decide +kernel) rfl rfl rfl (by decide +kernel)
set_option maxRecDepth 65536 in
theorem w_c25 : (Jvm.Cond.code ({ cls := "java/lang/Integer", name := "stringSize", desc := "(I)I" } : Jvm.MethodName) jdk_33_method_13_code (4 : Nat) (Option.some Jvm.ClassFile.FieldType.int)).before args0 about1 = true := code_word (m := ⟨17, 1⟩) (meth := k17m1) (c := k17c1) (by decide +kernel) rfl rfl rfl (by decide +kernel)
set_option maxRecDepth 65536 in
theorem w_c26 : (Jvm.Cond.code ({ cls := "java/lang/AbstractStringBuilder", name := "isLatin1", desc := "()Z" } : Jvm.MethodName) jdk_68_method_68_code (1 : Nat) (Option.some Jvm.ClassFile.FieldType.boolean)).before args0 about1 = true := code_word (m := ⟨13, 8⟩) (meth := k13m8) (c := k13c8) (by decide +kernel) rfl rfl rfl (by decide +kernel)
set_option maxRecDepth 65536 in
theorem w_c27 : (Jvm.Cond.code ({ cls := "java/lang/Integer", name := "getChars", desc := "(II[B)I" } : Jvm.MethodName) jdk_33_method_12_code (7 : Nat) (Option.some Jvm.ClassFile.FieldType.int)).before args0 about1 = true := code_word (m := ⟨17, 0⟩) (meth := k17m0) (c := k17c0) (by decide +kernel) rfl rfl rfl (by decide +kernel)
set_option maxRecDepth 65536 in
theorem w_c28 : (Jvm.Cond.code ({ cls := "java/lang/StringBuilder", name := "toString", desc := "()Ljava/lang/String;" } : Jvm.MethodName) jdk_67_method_42_code (1 : Nat) (Option.some (Jvm.ClassFile.FieldType.object "java/lang/String"))).before args0 about1 = true := code_word (m := ⟨14, 3⟩) (meth := k14m3) (c := k14c3) (by decide +kernel) rfl rfl rfl (by decide +kernel)
set_option maxRecDepth 65536 in
theorem w_c29 : (Jvm.Cond.code ({ cls := "java/lang/String", name := "<init>", desc := "(Ljava/lang/StringBuilder;)V" } : Jvm.MethodName) jdk_42_method_53_code (2 : Nat) (Option.none : Option Jvm.ClassFile.FieldType)).before args0 about1 = true := code_word (m := ⟨7, 2⟩) (meth := k7m2) (c := k7c2) (by decide +kernel) rfl rfl rfl (by decide +kernel)
set_option maxRecDepth 65536 in
theorem w_c30 : (Jvm.Cond.code ({ cls := "java/lang/String", name := "<init>", desc := "(Ljava/lang/AbstractStringBuilder;Ljava/lang/Void;)V" } : Jvm.MethodName) jdk_42_method_150_code (5 : Nat) (Option.none : Option Jvm.ClassFile.FieldType)).before args0 about1 = true := code_word (m := ⟨7, 7⟩) (meth := k7m7) (c := k7c7) (by decide +kernel) rfl rfl rfl (by decide +kernel)
set_option maxRecDepth 65536 in
theorem w_c31 : (Jvm.Cond.code ({ cls := "java/lang/AbstractStringBuilder", name := "getValue", desc := "()[B" } : Jvm.MethodName) jdk_68_method_64_code (1 : Nat) (Option.some (Jvm.ClassFile.FieldType.array Jvm.ClassFile.FieldType.byte))).before args0 about1 = true := code_word (m := ⟨13, 7⟩) (meth := k13m7) (c := k13c7) (by decide +kernel) rfl rfl rfl (by decide +kernel)
set_option maxRecDepth 65536 in
theorem w_c32 : (Jvm.Cond.code ({ cls := "java/lang/StringBuilder", name := "length", desc := "()I" } : Jvm.MethodName) jdk_67_method_93_code (1 : Nat) (Option.some Jvm.ClassFile.FieldType.int)).before args0 about1 = true := code_word (m := ⟨14, 4⟩) (meth := k14m4) (c := k14c4) (by decide +kernel) rfl rfl rfl (by decide +kernel)
set_option maxRecDepth 65536 in
theorem w_c33 : (Jvm.Cond.code ({ cls := "java/lang/AbstractStringBuilder", name := "length", desc := "()I" } : Jvm.MethodName) jdk_68_method_6_code (1 : Nat) (Option.some Jvm.ClassFile.FieldType.int)).before args0 about1 = true := code_word (m := ⟨13, 2⟩) (meth := k13m2) (c := k13c2) (by decide +kernel) rfl rfl rfl (by decide +kernel)
set_option maxRecDepth 65536 in
theorem w_c34 : (Jvm.Cond.code ({ cls := "java/util/Arrays", name := "copyOfRange", desc := "([BII)[B" } : Jvm.MethodName) jdk_65_method_132_code (3 : Nat) (Option.some (Jvm.ClassFile.FieldType.array Jvm.ClassFile.FieldType.byte))).before args0 about1 = true := code_word (m := ⟨18, 3⟩) (meth := k18m3) (c := k18c3) (by decide +kernel) rfl rfl rfl (by decide +kernel)
set_option maxRecDepth 65536 in
theorem w_c35 : (Jvm.Cond.code ({ cls := "java/util/Arrays", name := "copyOfRangeByte", desc := "([BII)[B" } : Jvm.MethodName) jdk_65_method_133_code (5 : Nat) (Option.some (Jvm.ClassFile.FieldType.array Jvm.ClassFile.FieldType.byte))).before args0 about1 = true := code_word (m := ⟨18, 4⟩) (meth := k18m4) (c := k18c4) (by decide +kernel) rfl rfl rfl (by decide +kernel)
set_option maxRecDepth 65536 in
theorem w_c36 : (Jvm.Cond.code ({ cls := "java/util/Arrays", name := "checkLength", desc := "(II)V" } : Jvm.MethodName) jdk_65_method_131_code (2 : Nat) (Option.none : Option Jvm.ClassFile.FieldType)).before args0 about1 = true := code_word (m := ⟨18, 2⟩) (meth := k18m2) (c := k18c2) (by decide +kernel) rfl rfl rfl (by decide +kernel)
set_option maxRecDepth 65536 in
theorem w_c37 : (Jvm.Cond.code ({ cls := "java/lang/Math", name := "min", desc := "(II)I" } : Jvm.MethodName) jdk_29_method_69_code (2 : Nat) (Option.some Jvm.ClassFile.FieldType.int)).before args0 about1 = true := code_word (m := ⟨19, 2⟩) (meth := k19m2) (c := k19c2) (by decide +kernel) rfl rfl rfl (by decide +kernel)
set_option maxRecDepth 65536 in
theorem w_c38 : (Jvm.Cond.code ({ cls := "com/example/lukko/lukko/RuleProblemTextPinLaw", name := "decLen", desc := "(I)I" } : Jvm.MethodName) method_6_code (4 : Nat) (Option.some Jvm.ClassFile.FieldType.int)).before args0 about1 = true := code_word (m := ⟨1, 5⟩) (meth := k1m5) (c := k1c5) (by decide +kernel) rfl rfl rfl (by decide +kernel)
set_option maxRecDepth 65536 in
theorem w_c39 : (Jvm.Cond.code ({ cls := "com/example/lukko/lukko/RuleProblemTextPinLaw", name := "digits", desc := "(J)I" } : Jvm.MethodName) method_5_code (2 : Nat) (Option.some Jvm.ClassFile.FieldType.int)).before args0 about1 = true := code_word (m := ⟨1, 4⟩) (meth := k1m4) (c := k1c4) (by decide +kernel) rfl rfl rfl (by decide +kernel)
set_option maxRecDepth 65536 in
theorem w_c40 : (Jvm.Cond.code ({ cls := "java/lang/String", name := "charAt", desc := "(I)C" } : Jvm.MethodName) jdk_42_method_56_code (2 : Nat) (Option.some Jvm.ClassFile.FieldType.char)).before args0 about1 = true := code_word (m := ⟨7, 4⟩) (meth := k7m4) (c := k7c4) (by decide +kernel) rfl rfl rfl (by decide +kernel)
set_option maxRecDepth 65536 in
theorem w_c41 : (Jvm.Cond.code ({ cls := "java/lang/String", name := "isLatin1", desc := "()Z" } : Jvm.MethodName) jdk_42_method_154_code (1 : Nat) (Option.some Jvm.ClassFile.FieldType.boolean)).before args0 about1 = true := code_word (m := ⟨7, 9⟩) (meth := k7m9) (c := k7c9) (by decide +kernel) rfl rfl rfl (by decide +kernel)
set_option maxRecDepth 65536 in
theorem w_c42 : (Jvm.Cond.code ({ cls := "java/lang/StringLatin1", name := "charAt", desc := "([BI)C" } : Jvm.MethodName) jdk_43_method_2_code (2 : Nat) (Option.some Jvm.ClassFile.FieldType.char)).before args0 about1 = true := code_word (m := ⟨20, 1⟩) (meth := k20m1) (c := k20c1) (by decide +kernel) rfl rfl rfl (by decide +kernel)
set_option maxRecDepth 65536 in
theorem w_c43 : (Jvm.Cond.code ({ cls := "java/lang/String", name := "checkIndex", desc := "(II)V" } : Jvm.MethodName) jdk_42_method_155_code (2 : Nat) (Option.none : Option Jvm.ClassFile.FieldType)).before args0 about1 = true := code_word (m := ⟨7, 10⟩) (meth := k7m10) (c := k7c10) (by decide +kernel) rfl rfl rfl (by decide +kernel)
set_option maxRecDepth 65536 in
theorem w_c44 : (Jvm.Cond.code ({ cls := "jdk/internal/util/Preconditions", name := "checkIndex", desc := "(IILjava/util/function/BiFunction;)I" } : Jvm.MethodName) jdk_41_method_11_code (3 : Nat) (Option.some Jvm.ClassFile.FieldType.int)).before args0 about1 = true := code_word (m := ⟨21, 1⟩) (meth := k21m1) (c := k21c1) (by decide +kernel) rfl rfl rfl (by decide +kernel)
set_option maxRecDepth 65536 in
theorem w_c45 : (Jvm.Cond.code ({ cls := "com/example/lukko/lukko/RuleProblemTextPinLaw", name := "expected", desc := "([CIIIII[CI)C" } : Jvm.MethodName) method_8_code (8 : Nat) (Option.some Jvm.ClassFile.FieldType.char)).before args0 about1 = true := code_word (m := ⟨1, 7⟩) (meth := k1m7) (c := k1c7) (by decide +kernel) rfl rfl rfl (by decide +kernel)
set_option maxRecDepth 65536 in
theorem w_c46 : (Jvm.Cond.code ({ cls := "java/lang/AbstractStringBuilder", name := "newCapacity", desc := "(I)I" } : Jvm.MethodName) jdk_68_method_10_code (6 : Nat) (Option.some Jvm.ClassFile.FieldType.int)).before args0 about1 = true := code_word (m := ⟨13, 4⟩) (meth := k13m4) (c := k13c4) (by decide +kernel) rfl rfl rfl (by decide +kernel)
set_option maxRecDepth 65536 in
theorem w_c47 : (Jvm.Cond.code ({ cls := "jdk/internal/util/ArraysSupport", name := "newLength", desc := "(III)I" } : Jvm.MethodName) jdk_48_method_27_code (4 : Nat) (Option.some Jvm.ClassFile.FieldType.int)).before args0 about1 = true := code_word (m := ⟨22, 1⟩) (meth := k22m1) (c := k22c1) (by decide +kernel) rfl rfl rfl (by decide +kernel)
set_option maxRecDepth 65536 in
theorem w_c48 : (Jvm.Cond.code ({ cls := "java/lang/Math", name := "max", desc := "(II)I" } : Jvm.MethodName) jdk_29_method_65_code (2 : Nat) (Option.some Jvm.ClassFile.FieldType.int)).before args0 about1 = true := code_word (m := ⟨19, 1⟩) (meth := k19m1) (c := k19c1) (by decide +kernel) rfl rfl rfl (by decide +kernel)
set_option maxRecDepth 65536 in
theorem w_c49 : (Jvm.Cond.code ({ cls := "java/util/Arrays", name := "copyOf", desc := "([BI)[B" } : Jvm.MethodName) jdk_65_method_121_code (3 : Nat) (Option.some (Jvm.ClassFile.FieldType.array Jvm.ClassFile.FieldType.byte))).before args0 about1 = true := code_word (m := ⟨18, 1⟩) (meth := k18m1) (c := k18c1) (by decide +kernel) rfl rfl rfl (by decide +kernel)
set_option maxRecDepth 65536 in
theorem w_c50 : (Jvm.Cond.code ({ cls := "com/example/lukko/lukko/RuleProblemTextPinLaw", name := "decChar", desc := "(II)C" } : Jvm.MethodName) method_7_code (10 : Nat) (Option.some Jvm.ClassFile.FieldType.char)).before args0 about1 = true := code_word (m := ⟨1, 6⟩) (meth := k1m6) (c := k1c6) (by decide +kernel) rfl rfl rfl (by decide +kernel)
def codes1 : List Jvm.Cond := [Jvm.Cond.code x code maxLocals ret, Jvm.Cond.code ({ cls := "com/example/lukko/lukko/RuleProblemTextPinLaw", name := "chars", desc := "(J)[C" } : Jvm.MethodName) method_3_code (3 : Nat) (Option.some (Jvm.ClassFile.FieldType.array Jvm.ClassFile.FieldType.char)), Jvm.Cond.code ({ cls := "com/example/lukko/lukko/RuleProblemTextPinLaw", name := "str", desc := "([CI)Ljava/lang/String;" } : Jvm.MethodName) method_4_code (2 : Nat) (Option.some (Jvm.ClassFile.FieldType.object "java/lang/String")), Jvm.Cond.code ({ cls := "java/lang/String", name := "<init>", desc := "([C)V" } : Jvm.MethodName) jdk_42_method_3_code (2 : Nat) (Option.none : Option Jvm.ClassFile.FieldType), Jvm.Cond.code ({ cls := "java/lang/String", name := "<init>", desc := "([CIILjava/lang/Void;)V" } : Jvm.MethodName) jdk_42_method_149_code (6 : Nat) (Option.none : Option Jvm.ClassFile.FieldType), Jvm.Cond.code ({ cls := "java/lang/Object", name := "<init>", desc := "()V" } : Jvm.MethodName) object_method_1_code (1 : Nat) (Option.none : Option Jvm.ClassFile.FieldType), Jvm.Cond.code ({ cls := "java/lang/StringUTF16", name := "compress", desc := "([CII)[B" } : Jvm.MethodName) jdk_52_method_16_code (6 : Nat) (Option.some (Jvm.ClassFile.FieldType.array Jvm.ClassFile.FieldType.byte)), Jvm.Cond.code ({ cls := "java/lang/StringUTF16", name := "compress", desc := "([CI[BII)I" } : Jvm.MethodName) jdk_52_method_21_code (7 : Nat) (Option.some Jvm.ClassFile.FieldType.int), Jvm.Cond.code ({ cls := "java/lang/StringUTF16", name := "coderFromArrayLen", desc := "([BI)B" } : Jvm.MethodName) jdk_52_method_15_code (2 : Nat) (Option.some Jvm.ClassFile.FieldType.byte), Jvm.Cond.code ({ cls := "com/example/lukko/lukko/RuleProblem", name := "<init>", desc := "(Ljava/lang/String;IILjava/lang/String;)V" } : Jvm.MethodName) prog_21_method_1_code (5 : Nat) (Option.none : Option Jvm.ClassFile.FieldType), Jvm.Cond.code ({ cls := "java/lang/Record", name := "<init>", desc := "()V" } : Jvm.MethodName) jdk_30_method_1_code (1 : Nat) (Option.none : Option Jvm.ClassFile.FieldType), Jvm.Cond.code ({ cls := "java/util/Objects", name := "requireNonNull", desc := "(Ljava/lang/Object;Ljava/lang/String;)Ljava/lang/Object;" } : Jvm.MethodName) jdk_31_method_11_code (2 : Nat) (Option.some (Jvm.ClassFile.FieldType.object "java/lang/Object")), Jvm.Cond.code ({ cls := "com/example/lukko/lukko/RuleProblem", name := "text", desc := "()Ljava/lang/String;" } : Jvm.MethodName) prog_21_method_2_code (1 : Nat) (Option.some (Jvm.ClassFile.FieldType.object "java/lang/String")), Jvm.Cond.code ({ cls := "java/lang/StringBuilder", name := "<init>", desc := "()V" } : Jvm.MethodName) jdk_67_method_1_code (1 : Nat) (Option.none : Option Jvm.ClassFile.FieldType), Jvm.Cond.code ({ cls := "java/lang/AbstractStringBuilder", name := "<init>", desc := "(I)V" } : Jvm.MethodName) jdk_68_method_2_code (2 : Nat) (Option.none : Option Jvm.ClassFile.FieldType), Jvm.Cond.code ({ cls := "java/lang/StringBuilder", name := "append", desc := "(Ljava/lang/String;)Ljava/lang/StringBuilder;" } : Jvm.MethodName) jdk_67_method_7_code (2 : Nat) (Option.some (Jvm.ClassFile.FieldType.object "java/lang/StringBuilder")), Jvm.Cond.code ({ cls := "java/lang/AbstractStringBuilder", name := "append", desc := "(Ljava/lang/String;)Ljava/lang/AbstractStringBuilder;" } : Jvm.MethodName) jdk_68_method_22_code (3 : Nat) (Option.some (Jvm.ClassFile.FieldType.object "java/lang/AbstractStringBuilder")), Jvm.Cond.code ({ cls := "java/lang/String", name := "length", desc := "()I" } : Jvm.MethodName) jdk_42_method_54_code (1 : Nat) (Option.some Jvm.ClassFile.FieldType.int), Jvm.Cond.code ({ cls := "java/lang/String", name := "coder", desc := "()B" } : Jvm.MethodName) jdk_42_method_152_code (1 : Nat) (Option.some Jvm.ClassFile.FieldType.byte), Jvm.Cond.code ({ cls := "java/lang/AbstractStringBuilder", name := "ensureCapacityInternal", desc := "(I)V" } : Jvm.MethodName) jdk_68_method_9_code (3 : Nat) (Option.none : Option Jvm.ClassFile.FieldType), Jvm.Cond.code ({ cls := "java/lang/AbstractStringBuilder", name := "putStringAt", desc := "(ILjava/lang/String;)V" } : Jvm.MethodName) jdk_68_method_73_code (3 : Nat) (Option.none : Option Jvm.ClassFile.FieldType), Jvm.Cond.code ({ cls := "java/lang/AbstractStringBuilder", name := "inflateIfNeededFor", desc := "(Ljava/lang/String;)V" } : Jvm.MethodName) jdk_68_method_71_code (2 : Nat) (Option.none : Option Jvm.ClassFile.FieldType), Jvm.Cond.code ({ cls := "java/lang/String", name := "getBytes", desc := "([BIB)V" } : Jvm.MethodName) jdk_42_method_147_code (4 : Nat) (Option.none : Option Jvm.ClassFile.FieldType), Jvm.Cond.code ({ cls := "java/lang/StringBuilder", name := "append", desc := "(I)Ljava/lang/StringBuilder;" } : Jvm.MethodName) jdk_67_method_15_code (2 : Nat) (Option.some (Jvm.ClassFile.FieldType.object "java/lang/StringBuilder")), Jvm.Cond.code ({ cls := "java/lang/AbstractStringBuilder", name := "append", desc := "(I)Ljava/lang/AbstractStringBuilder;" } : Jvm.MethodName) jdk_68_method_32_code (4 : Nat) (Option.some (Jvm.ClassFile.FieldType.object "java/lang/AbstractStringBuilder")), Jvm.Cond.code ({ cls := "java/lang/Integer", name := "stringSize", desc := "(I)I" } : Jvm.MethodName) jdk_33_method_13_code (4 : Nat) (Option.some Jvm.ClassFile.FieldType.int), Jvm.Cond.code ({ cls := "java/lang/AbstractStringBuilder", name := "isLatin1", desc := "()Z" } : Jvm.MethodName) jdk_68_method_68_code (1 : Nat) (Option.some Jvm.ClassFile.FieldType.boolean), Jvm.Cond.code ({ cls := "java/lang/Integer", name := "getChars", desc := "(II[B)I" } : Jvm.MethodName) jdk_33_method_12_code (7 : Nat) (Option.some Jvm.ClassFile.FieldType.int), Jvm.Cond.code ({ cls := "java/lang/StringBuilder", name := "toString", desc := "()Ljava/lang/String;" } : Jvm.MethodName) jdk_67_method_42_code (1 : Nat) (Option.some (Jvm.ClassFile.FieldType.object "java/lang/String")), Jvm.Cond.code ({ cls := "java/lang/String", name := "<init>", desc := "(Ljava/lang/StringBuilder;)V" } : Jvm.MethodName) jdk_42_method_53_code (2 : Nat) (Option.none : Option Jvm.ClassFile.FieldType), Jvm.Cond.code ({ cls := "java/lang/String", name := "<init>", desc := "(Ljava/lang/AbstractStringBuilder;Ljava/lang/Void;)V" } : Jvm.MethodName) jdk_42_method_150_code (5 : Nat) (Option.none : Option Jvm.ClassFile.FieldType), Jvm.Cond.code ({ cls := "java/lang/AbstractStringBuilder", name := "getValue", desc := "()[B" } : Jvm.MethodName) jdk_68_method_64_code (1 : Nat) (Option.some (Jvm.ClassFile.FieldType.array Jvm.ClassFile.FieldType.byte)), Jvm.Cond.code ({ cls := "java/lang/StringBuilder", name := "length", desc := "()I" } : Jvm.MethodName) jdk_67_method_93_code (1 : Nat) (Option.some Jvm.ClassFile.FieldType.int), Jvm.Cond.code ({ cls := "java/lang/AbstractStringBuilder", name := "length", desc := "()I" } : Jvm.MethodName) jdk_68_method_6_code (1 : Nat) (Option.some Jvm.ClassFile.FieldType.int), Jvm.Cond.code ({ cls := "java/util/Arrays", name := "copyOfRange", desc := "([BII)[B" } : Jvm.MethodName) jdk_65_method_132_code (3 : Nat) (Option.some (Jvm.ClassFile.FieldType.array Jvm.ClassFile.FieldType.byte)), Jvm.Cond.code ({ cls := "java/util/Arrays", name := "copyOfRangeByte", desc := "([BII)[B" } : Jvm.MethodName) jdk_65_method_133_code (5 : Nat) (Option.some (Jvm.ClassFile.FieldType.array Jvm.ClassFile.FieldType.byte)), Jvm.Cond.code ({ cls := "java/util/Arrays", name := "checkLength", desc := "(II)V" } : Jvm.MethodName) jdk_65_method_131_code (2 : Nat) (Option.none : Option Jvm.ClassFile.FieldType), Jvm.Cond.code ({ cls := "java/lang/Math", name := "min", desc := "(II)I" } : Jvm.MethodName) jdk_29_method_69_code (2 : Nat) (Option.some Jvm.ClassFile.FieldType.int), Jvm.Cond.code ({ cls := "com/example/lukko/lukko/RuleProblemTextPinLaw", name := "decLen", desc := "(I)I" } : Jvm.MethodName) method_6_code (4 : Nat) (Option.some Jvm.ClassFile.FieldType.int), Jvm.Cond.code ({ cls := "com/example/lukko/lukko/RuleProblemTextPinLaw", name := "digits", desc := "(J)I" } : Jvm.MethodName) method_5_code (2 : Nat) (Option.some Jvm.ClassFile.FieldType.int), Jvm.Cond.code ({ cls := "java/lang/String", name := "charAt", desc := "(I)C" } : Jvm.MethodName) jdk_42_method_56_code (2 : Nat) (Option.some Jvm.ClassFile.FieldType.char), Jvm.Cond.code ({ cls := "java/lang/String", name := "isLatin1", desc := "()Z" } : Jvm.MethodName) jdk_42_method_154_code (1 : Nat) (Option.some Jvm.ClassFile.FieldType.boolean), Jvm.Cond.code ({ cls := "java/lang/StringLatin1", name := "charAt", desc := "([BI)C" } : Jvm.MethodName) jdk_43_method_2_code (2 : Nat) (Option.some Jvm.ClassFile.FieldType.char), Jvm.Cond.code ({ cls := "java/lang/String", name := "checkIndex", desc := "(II)V" } : Jvm.MethodName) jdk_42_method_155_code (2 : Nat) (Option.none : Option Jvm.ClassFile.FieldType), Jvm.Cond.code ({ cls := "jdk/internal/util/Preconditions", name := "checkIndex", desc := "(IILjava/util/function/BiFunction;)I" } : Jvm.MethodName) jdk_41_method_11_code (3 : Nat) (Option.some Jvm.ClassFile.FieldType.int), Jvm.Cond.code ({ cls := "com/example/lukko/lukko/RuleProblemTextPinLaw", name := "expected", desc := "([CIIIII[CI)C" } : Jvm.MethodName) method_8_code (8 : Nat) (Option.some Jvm.ClassFile.FieldType.char), Jvm.Cond.code ({ cls := "java/lang/AbstractStringBuilder", name := "newCapacity", desc := "(I)I" } : Jvm.MethodName) jdk_68_method_10_code (6 : Nat) (Option.some Jvm.ClassFile.FieldType.int), Jvm.Cond.code ({ cls := "jdk/internal/util/ArraysSupport", name := "newLength", desc := "(III)I" } : Jvm.MethodName) jdk_48_method_27_code (4 : Nat) (Option.some Jvm.ClassFile.FieldType.int), Jvm.Cond.code ({ cls := "java/lang/Math", name := "max", desc := "(II)I" } : Jvm.MethodName) jdk_29_method_65_code (2 : Nat) (Option.some Jvm.ClassFile.FieldType.int), Jvm.Cond.code ({ cls := "java/util/Arrays", name := "copyOf", desc := "([BI)[B" } : Jvm.MethodName) jdk_65_method_121_code (3 : Nat) (Option.some (Jvm.ClassFile.FieldType.array Jvm.ClassFile.FieldType.byte)), Jvm.Cond.code ({ cls := "com/example/lukko/lukko/RuleProblemTextPinLaw", name := "decChar", desc := "(II)C" } : Jvm.MethodName) method_7_code (10 : Nat) (Option.some Jvm.ClassFile.FieldType.char)]
set_option maxRecDepth 65536 in
theorem codes_eq : words1.filter isCode = codes1 := rfl
theorem w_codes : ∀ c ∈ words1.filter isCode, c.before args0 about1 = true := by
  rw [codes_eq]
  intro c hc
  simp only [codes1, List.mem_cons, List.not_mem_nil, or_false] at hc
  rcases hc with rfl | rfl | rfl | rfl | rfl | rfl | rfl | rfl | rfl | rfl | rfl | rfl | rfl | rfl | rfl | rfl | rfl | rfl | rfl | rfl | rfl | rfl | rfl | rfl | rfl | rfl | rfl | rfl | rfl | rfl | rfl | rfl | rfl | rfl | rfl | rfl | rfl | rfl | rfl | rfl | rfl | rfl | rfl | rfl | rfl | rfl | rfl | rfl | rfl | rfl | rfl
  · exact w_c0
  · exact w_c1
  · exact w_c2
  · exact w_c3
  · exact w_c4
  · exact w_c5
  · exact w_c6
  · exact w_c7
  · exact w_c8
  · exact w_c9
  · exact w_c10
  · exact w_c11
  · exact w_c12
  · exact w_c13
  · exact w_c14
  · exact w_c15
  · exact w_c16
  · exact w_c17
  · exact w_c18
  · exact w_c19
  · exact w_c20
  · exact w_c21
  · exact w_c22
  · exact w_c23
  · exact w_c24
  · exact w_c25
  · exact w_c26
  · exact w_c27
  · exact w_c28
  · exact w_c29
  · exact w_c30
  · exact w_c31
  · exact w_c32
  · exact w_c33
  · exact w_c34
  · exact w_c35
  · exact w_c36
  · exact w_c37
  · exact w_c38
  · exact w_c39
  · exact w_c40
  · exact w_c41
  · exact w_c42
  · exact w_c43
  · exact w_c44
  · exact w_c45
  · exact w_c46
  · exact w_c47
  · exact w_c48
  · exact w_c49
  · exact w_c50
set_option maxRecDepth 65536 in
theorem w_t1 : (words1.take 24).all (fun c => isCode c || c.before args0 about1) = true := by decide +kernel
set_option maxRecDepth 65536 in
theorem w_t2 : ((words1.drop 24).take 24).all (fun c => isCode c || c.before args0 about1) = true := by decide +kernel
set_option maxRecDepth 65536 in
theorem w_t3 : (((words1.drop 24).drop 24).take 24).all (fun c => isCode c || c.before args0 about1) = true := by decide +kernel
set_option maxRecDepth 65536 in
theorem w_t4 : ((((words1.drop 24).drop 24).drop 24).take 24).all (fun c => isCode c || c.before args0 about1) = true := by decide +kernel
set_option maxRecDepth 65536 in
theorem w_t5 : (((((words1.drop 24).drop 24).drop 24).drop 24).take 24).all (fun c => isCode c || c.before args0 about1) = true := by decide +kernel
set_option maxRecDepth 65536 in
theorem w_t6 : ((((((words1.drop 24).drop 24).drop 24).drop 24).drop 24).take 24).all (fun c => isCode c || c.before args0 about1) = true := by decide +kernel
set_option maxRecDepth 65536 in
theorem w_t7 : (((((((words1.drop 24).drop 24).drop 24).drop 24).drop 24).drop 24).take 24).all (fun c => isCode c || c.before args0 about1) = true := by decide +kernel
set_option maxRecDepth 65536 in
theorem w_t8 : ((((((((words1.drop 24).drop 24).drop 24).drop 24).drop 24).drop 24).drop 24).take 24).all (fun c => isCode c || c.before args0 about1) = true := by decide +kernel
set_option maxRecDepth 65536 in
theorem w_t9 : (((((((((words1.drop 24).drop 24).drop 24).drop 24).drop 24).drop 24).drop 24).drop 24).take 24).all (fun c => isCode c || c.before args0 about1) = true := by decide +kernel
set_option maxRecDepth 65536 in
theorem w_t10 : ((((((((((words1.drop 24).drop 24).drop 24).drop 24).drop 24).drop 24).drop 24).drop 24).drop 24).take 24).all (fun c => isCode c || c.before args0 about1) = true := by decide +kernel
set_option maxRecDepth 65536 in
theorem w_t11 : (((((((((((words1.drop 24).drop 24).drop 24).drop 24).drop 24).drop 24).drop 24).drop 24).drop 24).drop 24).take 24).all (fun c => isCode c || c.before args0 about1) = true := by decide +kernel
set_option maxRecDepth 65536 in
theorem w_t12 : (((((((((((words1.drop 24).drop 24).drop 24).drop 24).drop 24).drop 24).drop 24).drop 24).drop 24).drop 24).drop 24).all (fun c => isCode c || c.before args0 about1) = true := by decide +kernel
theorem w_tables : (allAtoms (Jvm.Cond.code x code maxLocals ret :: tables_1)).before args0 about1 = true := by
  rw [allAtoms_all]
  show words1.all (fun c => c.before args0 about1) = true
  refine all_split ?_ w_codes
  rw [← List.take_append_drop 24 words1, List.all_append, w_t1, ← List.take_append_drop 24 (words1.drop 24), List.all_append, w_t2, ← List.take_append_drop 24 ((words1.drop 24).drop 24), List.all_append, w_t3, ← List.take_append_drop 24 (((words1.drop 24).drop 24).drop 24), List.all_append, w_t4, ← List.take_append_drop 24 ((((words1.drop 24).drop 24).drop 24).drop 24), List.all_append, w_t5, ← List.take_append_drop 24 (((((words1.drop 24).drop 24).drop 24).drop 24).drop 24), List.all_append, w_t6, ← List.take_append_drop 24 ((((((words1.drop 24).drop 24).drop 24).drop 24).drop 24).drop 24), List.all_append, w_t7, ← List.take_append_drop 24 (((((((words1.drop 24).drop 24).drop 24).drop 24).drop 24).drop 24).drop 24), List.all_append, w_t8, ← List.take_append_drop 24 ((((((((words1.drop 24).drop 24).drop 24).drop 24).drop 24).drop 24).drop 24).drop 24), List.all_append, w_t9, ← List.take_append_drop 24 (((((((((words1.drop 24).drop 24).drop 24).drop 24).drop 24).drop 24).drop 24).drop 24).drop 24), List.all_append, w_t10, ← List.take_append_drop 24 ((((((((((words1.drop 24).drop 24).drop 24).drop 24).drop 24).drop 24).drop 24).drop 24).drop 24).drop 24), List.all_append, w_t11, w_t12]
  rfl
set_option maxRecDepth 65536 in
theorem w_rest : rest_1_c.before args0 about1 = true := by decide +kernel
set_option maxRecDepth 65536 in
theorem w_case : (Jvm.Cond.and given_1 narrow_1).before args0 about1 = true := by decide +kernel
set_option maxRecDepth 65536 in
theorem w_consts : constsHeld consts_1 about1 := Jvm.Lit.constsHeldB_iff.mp (by decide +kernel)
theorem w_applies : (headSpec (Jvm.Cond.code x code maxLocals ret :: tables_1) room_1).applies x e0.platform about1 = true :=
  (Spec.applies_iff w_frames).mpr ⟨w_running, w_runnable, w_alone, w_named, w_hears, w_ripe, w_room, w_tables⟩
theorem atStart : AtStart classFile x code maxLocals ret World_1 tables_1 room_1 Calls_1 rest_1 Pre_1 launch0 p0 e0 about1 theMethod args0 below0 :=
  ⟨lists_1, trivial, launch0.admits_env _ _ _, launch0.least_env, fairChoices_fair.cas, fairChoices_fair.clock, w_frames, w_args, w_heap, w_applies, ⟨w_consts, trivial⟩, w_rest, w_case⟩
end start1
theorem witness_1 : WitnessClaimed_1 := ⟨start1.p0, start1.e0, start1.about1, start1.theMethod, start1.args0, start1.below0, start1.atStart⟩
end Jvm.Pilot.@@N@@
