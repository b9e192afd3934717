import JvmDerived
import JvmDerived.Pilot.@@N@@Statement
import JvmDerived.Pilot.@@N@@Code
set_option linter.unusedVariables false
set_option linter.unusedSimpArgs false
namespace Jvm.Pilot.@@N@@
open Jvm Jvm.ClassFile Sem Op Lib Jvm.Free Jvm.Stand Jvm.LawKit Jvm.RoadKit Bundle Jvm.Pilot.@@N@@.Jvm.D
section OwnKit
variable {p : Program} {l : Launch} {e : Env} {R : Room} {s : State} {m : MethodId} {args : Array Value} {below : List Frame} {meth : Method} {c : Code} {T T' : State} {locs : List Loc} {cells slots : Nat} {Z : State} {a0 : Array Value} {h : Heap} {CC SS : Nat} {QQ : Option Value → Heap → List Loc → Prop} {pc : Nat} {Ls : Array Slot} {rest : List Value}
/-- the run from the frame g on comes back, with what QQ says -/
def Go (p : Program) (e : Env) (below : List Frame) (s : State) (CC SS : Nat) (QQ : Option Value → Heap → List Loc → Prop) (T : State) (g : JFrame) : Prop :=
  ∃ s₂ o, Steps p.tables e below (T.setTop g) s₂ ∧ s₂.status = .running ∧ Ended s₂ below o ∧ ∃ v L, o = .returned v ∧ QQ v s₂.heap L ∧ FrameEnd s o s₂ L CC SS
/-- a callee's contract -/
def Met (l : Launch) (Z : State) (y : MethodName) (bytes : ByteArray) (maxL : Nat) (ret : Option FieldType) (ws : List Jvm.Cond) (rm : Room) (as' : Array Value) (h0 : Heap) (QQ : Option Value → Heap → List Loc → Prop) : Prop :=
  MetFree l y (head1 (Jvm.Cond.code y bytes maxL ret :: ws) rm) (fun a U => a = as' ∧ Z.Warmed39 U.vm ∧ U.heap = h0) (fun _ _ _ _ _ => True) (fun _ U o U' => ∃ v L, o = .returned v ∧ QQ v U'.heap L ∧ FrameEnd U o U' L rm.cells rm.slots)
theorem met_of {y : MethodName} {bytes : ByteArray} {maxL : Nat} {ret : Option FieldType} {ws : List Jvm.Cond} {rm : Room} {as' : Array Value} {h0 : Heap} (hx : plainFor y = true) (hef : ∀ m, entryFrame m as' maxL = mkF m 0 Ls [])
    (body : ∀ (p : Program) (e : Env) (s : State) (m : MethodId) (below : List Frame) (meth : Method) (c : Code) (s₁ : State), p.tables.exec = Jvm.exec → c.code = bytes → c.maxLocals = maxL → s.vm.findClass y.cls = some m.cls → meth.name = y.name → meth.sig.returnType = ret → meth.locks = false → Z.Warmed39 s.vm →
      Stand p l e rm s m as' below meth c s₁ [] 0 0 → s₁.heap = h0 → Go p e below s rm.cells rm.slots QQ s₁ (mkF m 0 Ls [])) : Met l Z y bytes maxL ret ws rm as' h0 QQ := by
  refine MetFree.of_bodySF hx hisR ?_
  intro p e s m args below meth c s₁ Bd hml0 hP hK
  obtain ⟨rfl, hZ, hh⟩ := hP
  have e0 : s₁.heap = h0 := by rw [← hh, Bd.state]; rfl
  have k := body p e s m below meth c s₁ Bd.exec Bd.bytes hml0 (findClass_of_methodNamed Bd.named) (name_of_methodNamed Bd.named Bd.method).1 Bd.returns Bd.notSynchronized hZ (Stand.of_body Bd) e0
  rw [hef m]
  exact k
theorem Go.st {g g' : JFrame} (st : ∀ t, Steps p.tables e below (T'.setTop g') t → Steps p.tables e below (T.setTop g) t) (k : Go p e below s CC SS QQ T' g') : Go p e below s CC SS QQ T g := by
  obtain ⟨s₂, o, h1, h2⟩ := k
  exact ⟨s₂, o, st _ h1, h2⟩
theorem Go.tr {g g' : JFrame} (st : Steps p.tables e below (T.setTop g) (T'.setTop g')) (k : Go p e below s CC SS QQ T' g') : Go p e below s CC SS QQ T g := by
  obtain ⟨s₂, o, h1, h2⟩ := k
  exact ⟨s₂, o, st.trans h1, h2⟩
-- the returns
theorem gRetZ (X : Stand p l e R s m args below meth c T locs cells slots) (hx : p.tables.exec = Jvm.exec) (hlk : meth.locks = false) {z z' : Int32} {t : FieldType} (hret : meth.sig.returnType = some t) (ht : t = .boolean ∨ t = .byte ∨ t = .char ∨ t = .short) (hd : decode c.code pc = .ok (.ireturn, 1)) (hz : nar t z = z')
    (hc : cells ≤ CC) (hs : slots ≤ SS) (hQ : QQ (some (.int z')) T.heap locs) : Go p e below s CC SS QQ T (mkF m pc Ls (.int z :: rest)) := by
  obtain ⟨fs, hr, hrun, hended, hW, hsame⟩ := X.leave (v := some (.int z')) (fun h => by rw [hret] at h; cases h) hlk
  exact ⟨_, _, retN X hx hret ht hd (by rw [hz]; exact hr), hrun, hended, _, _, rfl, hQ, ⟨_, rfl⟩, hW, hsame.mono hc hs⟩
theorem gRetI (X : Stand p l e R s m args below meth c T locs cells slots) (hx : p.tables.exec = Jvm.exec) (hlk : meth.locks = false) {z : Int32} (hret : meth.sig.returnType = some .int) (hd : decode c.code pc = .ok (.ireturn, 1))
    (hc : cells ≤ CC) (hs : slots ≤ SS) (hQ : QQ (some (.int z)) T.heap locs) : Go p e below s CC SS QQ T (mkF m pc Ls (.int z :: rest)) := by
  obtain ⟨fs, hr, hrun, hended, hW, hsame⟩ := X.leave (v := some (.int z)) (fun h => by rw [hret] at h; cases h) hlk
  exact ⟨_, _, retOut X hx hret rfl (Or.inl ⟨rfl, Or.inl rfl, z, rfl⟩) hd hr, hrun, hended, _, _, rfl, hQ, ⟨_, rfl⟩, hW, hsame.mono hc hs⟩
theorem gRetA (X : Stand p l e R s m args below meth c T locs cells slots) (hx : p.tables.exec = Jvm.exec) (hlk : meth.locks = false) {w : Value} {t : FieldType} (hret : meth.sig.returnType = some t) (ht : t.isReference = true) (hn : narrow t w = w) (hw : w.isRef = true) (hd : decode c.code pc = .ok (.areturn, 1))
    (hc : cells ≤ CC) (hs : slots ≤ SS) (hQ : QQ (some w) T.heap locs) : Go p e below s CC SS QQ T (mkF m pc Ls (w :: rest)) := by
  obtain ⟨fs, hr, hrun, hended, hW, hsame⟩ := X.leave (v := some w) (fun h => by rw [hret] at h; cases h) hlk
  exact ⟨_, _, retOut X hx hret hn (Or.inr (Or.inr (Or.inr (Or.inr ⟨rfl, ht, hw⟩)))) hd hr, hrun, hended, _, _, rfl, hQ, ⟨_, rfl⟩, hW, hsame.mono hc hs⟩
theorem gRetV (X : Stand p l e R s m args below meth c T locs cells slots) (hx : p.tables.exec = Jvm.exec) (hlk : meth.locks = false) (hret : meth.sig.returnType = none) (hd : decode c.code pc = .ok (.return_, 1))
    (hc : cells ≤ CC) (hs : slots ≤ SS) (hQ : QQ none T.heap locs) : Go p e below s CC SS QQ T (mkF m pc Ls []) := by
  obtain ⟨fs, hr, hrun, hended, hW, hsame⟩ := X.leave (v := none) (fun _ => rfl) hlk
  exact ⟨_, _, X.returnOut hx hret hd hr, hrun, hended, _, _, rfl, hQ, ⟨_, rfl⟩, hW, hsame.mono hc hs⟩
-- the plain steps
theorem gAloadN (X : Stand p l e R s m args below meth c T locs cells slots) (hx : p.tables.exec = Jvm.exec) {k : Fin 4} {v : Value} (hd : decode c.code pc = .ok (.aload_n k, 1)) (hl : Ls[k.val]? = some (.val v)) (hv : v.isRef = true)
    (kk : Go p e below s CC SS QQ T (mkF m (pc + 1) Ls (v :: rest))) : Go p e below s CC SS QQ T (mkF m pc Ls rest) := Go.st (fun _ => XS.aloadN X.here hx rfl hd hl hv) kk
theorem gAload (X : Stand p l e R s m args below meth c T locs cells slots) (hx : p.tables.exec = Jvm.exec) {k : Nat} {v : Value} (hd : decode c.code pc = .ok (.aload k, 2)) (hl : Ls[k]? = some (.val v)) (hv : v.isRef = true)
    (kk : Go p e below s CC SS QQ T (mkF m (pc + 2) Ls (v :: rest))) : Go p e below s CC SS QQ T (mkF m pc Ls rest) := Go.st (fun _ => XS.aload X.here hx rfl hd hl hv) kk
theorem gIloadN (X : Stand p l e R s m args below meth c T locs cells slots) (hx : p.tables.exec = Jvm.exec) {k : Fin 4} {v : Int32} (hd : decode c.code pc = .ok (.iload_n k, 1)) (hl : Ls[k.val]? = some (.val (.int v)))
    (kk : Go p e below s CC SS QQ T (mkF m (pc + 1) Ls (.int v :: rest))) : Go p e below s CC SS QQ T (mkF m pc Ls rest) := Go.st (fun _ => XS.iloadN X.here hx rfl hd hl) kk
theorem gIload (X : Stand p l e R s m args below meth c T locs cells slots) (hx : p.tables.exec = Jvm.exec) {k : Nat} {v : Int32} (hd : decode c.code pc = .ok (.iload k, 2)) (hl : Ls[k]? = some (.val (.int v)))
    (kk : Go p e below s CC SS QQ T (mkF m (pc + 2) Ls (.int v :: rest))) : Go p e below s CC SS QQ T (mkF m pc Ls rest) := Go.st (fun _ => XS.iload X.here hx rfl hd hl) kk
theorem gIconst (X : Stand p l e R s m args below meth c T locs cells slots) (hx : p.tables.exec = Jvm.exec) {i : Int} (v : Int32) (hd : decode c.code pc = .ok (.iconst i, 1)) (hv : Int32.ofInt i = v)
    (kk : Go p e below s CC SS QQ T (mkF m (pc + 1) Ls (.int v :: rest))) : Go p e below s CC SS QQ T (mkF m pc Ls rest) := by subst hv; exact Go.st (fun _ => XS.iconst X.here hx rfl hd) kk
theorem gBipush (X : Stand p l e R s m args below meth c T locs cells slots) (hx : p.tables.exec = Jvm.exec) {i : Int} (v : Int32) (hd : decode c.code pc = .ok (.bipush i, 2)) (hv : (Int8.ofInt i).toInt32 = v)
    (kk : Go p e below s CC SS QQ T (mkF m (pc + 2) Ls (.int v :: rest))) : Go p e below s CC SS QQ T (mkF m pc Ls rest) := by subst hv; exact Go.st (fun _ => XS.bipush X.here hx rfl hd) kk
theorem gSipush (X : Stand p l e R s m args below meth c T locs cells slots) (hx : p.tables.exec = Jvm.exec) {i : Int} (v : Int32) (hd : decode c.code pc = .ok (.sipush i, 3)) (hv : (Int16.ofInt i).toInt32 = v)
    (kk : Go p e below s CC SS QQ T (mkF m (pc + 3) Ls (.int v :: rest))) : Go p e below s CC SS QQ T (mkF m pc Ls rest) := by subst hv; exact Go.st (fun _ => XS.sipush X.here hx rfl hd) kk
theorem gNull (X : Stand p l e R s m args below meth c T locs cells slots) (hx : p.tables.exec = Jvm.exec) (hd : decode c.code pc = .ok (.aconst_null, 1))
    (kk : Go p e below s CC SS QQ T (mkF m (pc + 1) Ls (.null :: rest))) : Go p e below s CC SS QQ T (mkF m pc Ls rest) := Go.st (fun _ => XS.aconstNull X.here hx rfl hd) kk
theorem gLdc (X : Stand p l e R s m args below meth c T locs cells slots) (hx : p.tables.exec = Jvm.exec) (hZ : Z.Warmed39 s.vm) {own : String} {index : Nat} (v : Int32) (hown : s.vm.findClass own = some m.cls) (w : (Cond.constant own index v).before a0 Z = true) (hd : decode c.code pc = .ok (.ldc index, 2))
    (kk : Go p e below s CC SS QQ T (mkF m (pc + 2) Ls (.int v :: rest))) : Go p e below s CC SS QQ T (mkF m pc Ls rest) := Go.st (X.ldcInt hx hown (mvT hZ w) rfl hd) kk
theorem gIadd (X : Stand p l e R s m args below meth c T locs cells slots) (hx : p.tables.exec = Jvm.exec) {x y : Int32} (hd : decode c.code pc = .ok (.iadd, 1))
    (kk : Go p e below s CC SS QQ T (mkF m (pc + 1) Ls (.int (x + y) :: rest))) : Go p e below s CC SS QQ T (mkF m pc Ls (.int y :: .int x :: rest)) := Go.st (fun _ => XS.iadd X.here hx rfl hd rfl) kk
theorem gIsub (X : Stand p l e R s m args below meth c T locs cells slots) (hx : p.tables.exec = Jvm.exec) {x y : Int32} (hd : decode c.code pc = .ok (.isub, 1))
    (kk : Go p e below s CC SS QQ T (mkF m (pc + 1) Ls (.int (x - y) :: rest))) : Go p e below s CC SS QQ T (mkF m pc Ls (.int y :: .int x :: rest)) := Go.st (fun _ => XS.isub X.here hx rfl hd rfl) kk
theorem gIand (X : Stand p l e R s m args below meth c T locs cells slots) (hx : p.tables.exec = Jvm.exec) {x y : Int32} (hd : decode c.code pc = .ok (.iand, 1))
    (kk : Go p e below s CC SS QQ T (mkF m (pc + 1) Ls (.int (x &&& y) :: rest))) : Go p e below s CC SS QQ T (mkF m pc Ls (.int y :: .int x :: rest)) := Go.st (fun _ => XS.iand X.here hx rfl hd rfl) kk
theorem gImul (X : Stand p l e R s m args below meth c T locs cells slots) (hx : p.tables.exec = Jvm.exec) {x y : Int32} (hd : decode c.code pc = .ok (.imul, 1))
    (kk : Go p e below s CC SS QQ T (mkF m (pc + 1) Ls (.int (x * y) :: rest))) : Go p e below s CC SS QQ T (mkF m pc Ls (.int y :: .int x :: rest)) := Go.st (fun _ => XS.imul X.here hx rfl hd rfl) kk
theorem gIxor (X : Stand p l e R s m args below meth c T locs cells slots) (hx : p.tables.exec = Jvm.exec) {x y : Int32} (hd : decode c.code pc = .ok (.ixor, 1))
    (kk : Go p e below s CC SS QQ T (mkF m (pc + 1) Ls (.int (x ^^^ y) :: rest))) : Go p e below s CC SS QQ T (mkF m pc Ls (.int y :: .int x :: rest)) := Go.st (fun _ => XT.ixor X.here hx rfl hd rfl) kk
theorem gIshl (X : Stand p l e R s m args below meth c T locs cells slots) (hx : p.tables.exec = Jvm.exec) {x y : Int32} (hd : decode c.code pc = .ok (.ishl, 1))
    (kk : Go p e below s CC SS QQ T (mkF m (pc + 1) Ls (.int (x <<< (y &&& 31)) :: rest))) : Go p e below s CC SS QQ T (mkF m pc Ls (.int y :: .int x :: rest)) := Go.st (fun _ => XT.ishl X.here hx rfl hd rfl) kk
theorem gIshr (X : Stand p l e R s m args below meth c T locs cells slots) (hx : p.tables.exec = Jvm.exec) {x y : Int32} (hd : decode c.code pc = .ok (.ishr, 1))
    (kk : Go p e below s CC SS QQ T (mkF m (pc + 1) Ls (.int (x >>> (y &&& 31)) :: rest))) : Go p e below s CC SS QQ T (mkF m pc Ls (.int y :: .int x :: rest)) := Go.st (fun _ => XT.ishr X.here hx rfl hd rfl) kk
theorem gIushr (X : Stand p l e R s m args below meth c T locs cells slots) (hx : p.tables.exec = Jvm.exec) {x y : Int32} (hd : decode c.code pc = .ok (.iushr, 1))
    (kk : Go p e below s CC SS QQ T (mkF m (pc + 1) Ls (.int (XT.ushr x y) :: rest))) : Go p e below s CC SS QQ T (mkF m pc Ls (.int y :: .int x :: rest)) := Go.st (fun _ => XT.iushr X.here hx rfl hd rfl) kk
theorem gIrem (X : Stand p l e R s m args below meth c T locs cells slots) (hx : p.tables.exec = Jvm.exec) {x y : Int32} (hd : decode c.code pc = .ok (.irem, 1)) (hy : y ≠ 0)
    (kk : Go p e below s CC SS QQ T (mkF m (pc + 1) Ls (.int (x % y) :: rest))) : Go p e below s CC SS QQ T (mkF m pc Ls (.int y :: .int x :: rest)) := Go.st (fun _ => iremM X hx rfl hd rfl hy) kk
theorem gI2b (X : Stand p l e R s m args below meth c T locs cells slots) (hx : p.tables.exec = Jvm.exec) {x : Int32} (hd : decode c.code pc = .ok (.i2b, 1))
    (kk : Go p e below s CC SS QQ T (mkF m (pc + 1) Ls (.int x.toInt8.toInt32 :: rest))) : Go p e below s CC SS QQ T (mkF m pc Ls (.int x :: rest)) := Go.st (fun _ => XT.i2b X.here hx rfl hd rfl) kk
theorem gI2c (X : Stand p l e R s m args below meth c T locs cells slots) (hx : p.tables.exec = Jvm.exec) {x : Int32} (hd : decode c.code pc = .ok (.i2c, 1))
    (kk : Go p e below s CC SS QQ T (mkF m (pc + 1) Ls (.int x.toUInt32.toUInt16.toUInt32.toInt32 :: rest))) : Go p e below s CC SS QQ T (mkF m pc Ls (.int x :: rest)) := Go.st (fun _ => XT.i2c X.here hx rfl hd rfl) kk
theorem gDup (X : Stand p l e R s m args below meth c T locs cells slots) (hx : p.tables.exec = Jvm.exec) {x : Value} (hd : decode c.code pc = .ok (.dup, 1)) (hc : x.category = 1)
    (kk : Go p e below s CC SS QQ T (mkF m (pc + 1) Ls (x :: x :: rest))) : Go p e below s CC SS QQ T (mkF m pc Ls (x :: rest)) := Go.st (fun _ => XS.dup X.here hx rfl hd rfl hc) kk
theorem gPop (X : Stand p l e R s m args below meth c T locs cells slots) (hx : p.tables.exec = Jvm.exec) {x : Value} (hd : decode c.code pc = .ok (.pop, 1)) (hc : x.category = 1)
    (kk : Go p e below s CC SS QQ T (mkF m (pc + 1) Ls rest)) : Go p e below s CC SS QQ T (mkF m pc Ls (x :: rest)) := Go.st (fun _ => XT.pop X.here hx rfl hd rfl hc) kk
theorem gIstoreN (X : Stand p l e R s m args below meth c T locs cells slots) (hx : p.tables.exec = Jvm.exec) {k : Fin 4} {x : Int32} (l' : Array Slot) (hd : decode c.code pc = .ok (.istore_n k, 1)) (hl : storeLocals Ls k.val (.int x) = some l')
    (kk : Go p e below s CC SS QQ T (mkF m (pc + 1) l' rest)) : Go p e below s CC SS QQ T (mkF m pc Ls (.int x :: rest)) := Go.st (fun _ => XS.istoreN X.here hx rfl hd rfl hl) kk
theorem gIstore (X : Stand p l e R s m args below meth c T locs cells slots) (hx : p.tables.exec = Jvm.exec) {k : Nat} {x : Int32} (l' : Array Slot) (hd : decode c.code pc = .ok (.istore k, 2)) (hl : storeLocals Ls k (.int x) = some l')
    (kk : Go p e below s CC SS QQ T (mkF m (pc + 2) l' rest)) : Go p e below s CC SS QQ T (mkF m pc Ls (.int x :: rest)) := Go.st (fun _ => XS.istore X.here hx rfl hd rfl hl) kk
theorem gAstoreN (X : Stand p l e R s m args below meth c T locs cells slots) (hx : p.tables.exec = Jvm.exec) {k : Fin 4} {x : Value} (l' : Array Slot) (hd : decode c.code pc = .ok (.astore_n k, 1)) (hv : x.isRef = true) (hl : storeLocals Ls k.val x = some l')
    (kk : Go p e below s CC SS QQ T (mkF m (pc + 1) l' rest)) : Go p e below s CC SS QQ T (mkF m pc Ls (x :: rest)) := Go.st (fun _ => XS.astoreN X.here hx rfl hd rfl hv hl) kk
theorem gAstore (X : Stand p l e R s m args below meth c T locs cells slots) (hx : p.tables.exec = Jvm.exec) {k : Nat} {x : Value} (l' : Array Slot) (hd : decode c.code pc = .ok (.astore k, 2)) (hv : x.isRef = true) (hl : storeLocals Ls k x = some l')
    (kk : Go p e below s CC SS QQ T (mkF m (pc + 2) l' rest)) : Go p e below s CC SS QQ T (mkF m pc Ls (x :: rest)) := Go.st (fun _ => XS.astore X.here hx rfl hd rfl hv hl) kk
theorem gIinc (X : Stand p l e R s m args below meth c T locs cells slots) (hx : p.tables.exec = Jvm.exec) {k : Nat} {cst : Int} {x : Int32} (v : Int32) (l' : Array Slot) (hd : decode c.code pc = .ok (.iinc k cst, 3)) (hv : Int32.ofInt cst = v) (hl : Ls[k]? = some (.val (.int x))) (hl' : storeLocals Ls k (.int (x + v)) = some l')
    (kk : Go p e below s CC SS QQ T (mkF m (pc + 3) l' rest)) : Go p e below s CC SS QQ T (mkF m pc Ls rest) := by subst hv; exact Go.st (fun _ => XS.iinc X.here hx rfl hd hl hl') kk
theorem gGoto (X : Stand p l e R s m args below meth c T locs cells slots) (hx : p.tables.exec = Jvm.exec) {o : Int} (pc' : Nat) (hd : decode c.code pc = .ok (.goto o, 3)) (ho : 0 ≤ (pc : Int) + o) (hp : ((pc : Int) + o).toNat = pc')
    (kk : Go p e below s CC SS QQ T (mkF m pc' Ls rest)) : Go p e below s CC SS QQ T (mkF m pc Ls rest) := Go.st (fun _ => XS.goto X.here hx rfl (pc0 := pc) rfl hd ho hp) kk
-- the branches: both roads
theorem gIcmp (X : Stand p l e R s m args below meth c T locs cells slots) (hx : p.tables.exec = Jvm.exec) {cd : ClassFile.Cond} {x y : Int32} {o : Int} (pc' : Nat) (hd : decode c.code pc = .ok (.if_icmp cd o, 3)) (ho : 0 ≤ (pc : Int) + o) (hp : ((pc : Int) + o).toNat = pc')
    (kt : if_icmp.holds cd x y = true → Go p e below s CC SS QQ T (mkF m pc' Ls rest)) (kf : if_icmp.holds cd x y = false → Go p e below s CC SS QQ T (mkF m (pc + 3) Ls rest)) : Go p e below s CC SS QQ T (mkF m pc Ls (.int y :: .int x :: rest)) := by
  cases hq : if_icmp.holds cd x y
  · exact Go.st (fun _ => XS.icmpNo X.here hx rfl hd rfl hq) (kf hq)
  · exact Go.st (fun _ => XS.icmpYes X.here hx rfl (pc0 := pc) rfl hd rfl hq ho hp) (kt hq)
theorem gIf (X : Stand p l e R s m args below meth c T locs cells slots) (hx : p.tables.exec = Jvm.exec) {cd : ClassFile.Cond} {x : Int32} {o : Int} (pc' : Nat) (hd : decode c.code pc = .ok (.ifCond cd o, 3)) (ho : 0 ≤ (pc : Int) + o) (hp : ((pc : Int) + o).toNat = pc')
    (kt : if_icmp.holds cd x 0 = true → Go p e below s CC SS QQ T (mkF m pc' Ls rest)) (kf : if_icmp.holds cd x 0 = false → Go p e below s CC SS QQ T (mkF m (pc + 3) Ls rest)) : Go p e below s CC SS QQ T (mkF m pc Ls (.int x :: rest)) := by
  cases hq : if_icmp.holds cd x 0
  · exact Go.st (fun _ => XS.ifNo X.here hx rfl hd rfl ((if0 _ _).trans hq)) (kf hq)
  · exact Go.st (fun _ => XS.ifYes X.here hx rfl (pc0 := pc) rfl hd rfl ((if0 _ _).trans hq) ho hp) (kt hq)
theorem o_eqT {x y : Int32} (h : if_icmp.holds .eq x y = true) : x = y := Decidable.byContradiction fun q => by rw [(feq q).1] at h; cases h
theorem o_eqF {x y : Int32} (h : if_icmp.holds .eq x y = false) : ¬ x = y := fun q => by rw [(teq q).1] at h; cases h
theorem o_neT {x y : Int32} (h : if_icmp.holds .ne x y = true) : ¬ x = y := fun q => by rw [(teq q).2] at h; cases h
theorem o_neF {x y : Int32} (h : if_icmp.holds .ne x y = false) : x = y := Decidable.byContradiction fun q => by rw [(feq q).2] at h; cases h
theorem o_ltT {x y : Int32} (h : if_icmp.holds .lt x y = true) : x < y := Decidable.byContradiction fun q => by rw [(flt q).1] at h; cases h
theorem o_ltF {x y : Int32} (h : if_icmp.holds .lt x y = false) : ¬ x < y := fun q => by rw [(tlt q).1] at h; cases h
theorem o_geT {x y : Int32} (h : if_icmp.holds .ge x y = true) : ¬ x < y := fun q => by rw [(tlt q).2.1] at h; cases h
theorem o_geF {x y : Int32} (h : if_icmp.holds .ge x y = false) : x < y := Decidable.byContradiction fun q => by rw [(flt q).2.1] at h; cases h
theorem o_gtT {x y : Int32} (h : if_icmp.holds .gt x y = true) : y < x := Decidable.byContradiction fun q => by rw [(flt q).2.2.1] at h; cases h
theorem o_gtF {x y : Int32} (h : if_icmp.holds .gt x y = false) : ¬ y < x := fun q => by rw [(tlt q).2.2.1] at h; cases h
theorem o_leT {x y : Int32} (h : if_icmp.holds .le x y = true) : ¬ y < x := fun q => by rw [(tlt q).2.2.2] at h; cases h
theorem o_leF {x y : Int32} (h : if_icmp.holds .le x y = false) : y < x := Decidable.byContradiction fun q => by rw [(flt q).2.2.2] at h; cases h
-- calls, by the callee's contract
theorem gStatic (X : Stand p l e R s m args below meth c T locs cells slots) (hx : p.tables.exec = Jvm.exec) (hZ : Z.Warmed39 s.vm) {own : String} {index : Nat} {y : MethodName} {bytes : ByteArray} {maxL : Nat} {ret : Option FieldType} {rm : Room} {Q' : Option Value → Heap → List Loc → Prop} {argsL rest : List Value} {W : Nat}
    (hown : s.vm.findClass own = some m.cls) (hy : y.cls ≠ "java/lang/invoke/MethodHandle" ∧ y.cls ≠ "java/lang/invoke/VarHandle") (w1 : (Cond.methodLink own index y).before a0 Z = true) (w2 : (Cond.static y).before a0 Z = true) (w3 : (Cond.initialized y.cls).before a0 Z = true) (w4 : (Cond.code y bytes maxL ret).before a0 Z = true)
    (hM : Met l Z y bytes maxL ret [] rm argsL.toArray h Q') (eT : T.heap = h) (hsize : Ls.size = c.maxLocals) (hlen : ∀ sig, parseMethodDescriptor y.desc = some sig → argsL.length = sig.parameters.length) {st : List Value} (hst : st = argsL.reverse ++ rest) (hW : (rest.map fun v => v.category).sum ≤ W)
    (hf : rm.frames + 1 ≤ R.frames) (hl : W + (maxL + 11) + rm.locals ≤ R.locals) (hc : cells + rm.cells ≤ R.cells) (hs : slots + rm.slots ≤ R.slots) (hd : decode c.code pc = .ok (.invokestatic index, 3))
    (kk : ∀ (v : Option Value) (T' : State) (L : List Loc), Stand p l e R s m args below meth c T' (locs ++ L) (cells + rm.cells) (slots + rm.slots) → Q' v T'.heap L → Go p e below s CC SS QQ T' (mkF m (pc + 3) Ls (v.toList ++ rest))) : Go p e below s CC SS QQ T (mkF m pc Ls st) := by
  subst hst
  obtain ⟨v, vm₁, ⟨T', L', k', n'⟩, -, X', ⟨Lc, hQ, l1, y1, z1⟩, st⟩ := Jvm.LawKit.callS X hx (y := y) hown (mvT hZ w1) (mvT hZ w2) (mvT hZ w3) (mvT hZ w4) hy (backOf (W := W) hM hZ w4 w3 hf hl) (g := mkF m pc Ls (argsL.reverse ++ rest)) rfl hsize (argsL := argsL) (rest := rest) hlen rfl (by show 2 * 0 + _ ≤ _; omega) hd (fun _ _ => ⟨rfl, eT, hc, hs⟩)
  dsimp only [Pt.U, Pt.locs, Pt.cells, Pt.slots] at X' l1 y1 z1 st hQ
  subst l1 y1 z1
  exact Go.st st (kk v T' Lc X' hQ)
theorem gInit (X : Stand p l e R s m args below meth c T locs cells slots) (hx : p.tables.exec = Jvm.exec) (hZ : Z.Warmed39 s.vm) {own : String} {index : Nat} {y : MethodName} {bytes : ByteArray} {maxL : Nat} {rm : Room} {Q' : Option Value → Heap → List Loc → Prop} {a : Addr} {argsL rest : List Value} {W : Nat}
    (hown : s.vm.findClass own = some m.cls) (hy1 : y.name = "<init>") (hy : y.cls ≠ "java/lang/invoke/MethodHandle" ∧ y.cls ≠ "java/lang/invoke/VarHandle") (w1 : (Cond.methodLink own index y).before a0 Z = true) (w2 : (Cond.instanceMethod y).before a0 Z = true) (w3 : (Cond.initialized y.cls).before a0 Z = true) (w4 : (Cond.code y bytes maxL none).before a0 Z = true)
    (hM : Met l Z y bytes maxL none [] rm (.ref a :: argsL).toArray h Q') (eT : T.heap = h) (hsize : Ls.size = c.maxLocals) (hlen : ∀ sig, parseMethodDescriptor y.desc = some sig → argsL.length = sig.parameters.length) {st : List Value} (hst : st = argsL.reverse ++ .ref a :: rest) (hW : (rest.map fun v => v.category).sum ≤ W)
    (hf : rm.frames + 1 ≤ R.frames) (hl : W + (maxL + 11) + rm.locals ≤ R.locals) (hc : cells + rm.cells ≤ R.cells) (hs : slots + rm.slots ≤ R.slots) (hd : decode c.code pc = .ok (.invokespecial index, 3))
    (kk : ∀ (v : Option Value) (T' : State) (L : List Loc), Stand p l e R s m args below meth c T' (locs ++ L) (cells + rm.cells) (slots + rm.slots) → Q' v T'.heap L → Go p e below s CC SS QQ T' (mkF m (pc + 3) Ls (v.toList ++ rest))) : Go p e below s CC SS QQ T (mkF m pc Ls st) := by
  subst hst
  obtain ⟨v, vm₁, ⟨T', L', k', n'⟩, -, X', ⟨Lc, hQ, l1, y1, z1⟩, st⟩ := X.specialBack hx (y := y) hy1 hown (mvT hZ w1) (mvT hZ w2) (mvT hZ w4) hy (backOf (W := W) hM hZ w4 w3 hf hl) (g := mkF m pc Ls (argsL.reverse ++ .ref a :: rest)) rfl hsize (Steps.refl _) (a := a) (argsL := argsL) (rest := rest) hlen rfl (by show 2 * 0 + _ ≤ _; omega) hd (fun _ _ => ⟨rfl, eT, hc, hs⟩)
  dsimp only [Pt.U, Pt.locs, Pt.cells, Pt.slots] at X' l1 y1 z1 st hQ
  subst l1 y1 z1
  exact Go.tr st (kk v T' Lc X' hQ)
theorem gVirtual (X : Stand p l e R s m args below meth c T locs cells slots) (hx : p.tables.exec = Jvm.exec) (hZ : Z.Warmed39 s.vm) {own : String} {index : Nat} {y : MethodName} {bytes : ByteArray} {maxL : Nat} {ret : Option FieldType} {rm : Room} {Q' : Option Value → Heap → List Loc → Prop} {a : Addr} {argsL rest : List Value} {W : Nat}
    (hown : s.vm.findClass own = some m.cls) (hy : y.cls ≠ "java/lang/invoke/MethodHandle" ∧ y.cls ≠ "java/lang/invoke/VarHandle") (w1 : (Cond.methodLink own index y).before a0 Z = true) (w2 : (Cond.declares y).before a0 Z = true) (w5 : (Cond.instanceMethod y).before a0 Z = true) (w6 : (Cond.selects y.cls y y).before a0 Z = true) (w3 : (Cond.initialized y.cls).before a0 Z = true) (w4 : (Cond.code y bytes maxL ret).before a0 Z = true)
    (E : Exa Z h a y.cls) (hM : Met l Z y bytes maxL ret [] rm (.ref a :: argsL).toArray h Q') (eT : T.heap = h) (hsize : Ls.size = c.maxLocals) (hlen : ∀ sig, parseMethodDescriptor y.desc = some sig → argsL.length = sig.parameters.length) {st : List Value} (hst : st = argsL.reverse ++ .ref a :: rest) (hW : (rest.map fun v => v.category).sum ≤ W)
    (hf : rm.frames + 1 ≤ R.frames) (hl : W + (maxL + 11) + rm.locals ≤ R.locals) (hc : cells + rm.cells ≤ R.cells) (hs : slots + rm.slots ≤ R.slots) (hd : decode c.code pc = .ok (.invokevirtual index, 3))
    (kk : ∀ (v : Option Value) (T' : State) (L : List Loc), Stand p l e R s m args below meth c T' (locs ++ L) (cells + rm.cells) (slots + rm.slots) → Q' v T'.heap L → Go p e below s CC SS QQ T' (mkF m (pc + 3) Ls (v.toList ++ rest))) : Go p e below s CC SS QQ T (mkF m pc Ls st) := by
  subst hst
  obtain ⟨cq, kq, qa, qb, qc⟩ := isOf hZ eT E
  obtain ⟨v, vm₁, ⟨T', L', k', n'⟩, -, X', ⟨Lc, hQ, l1, y1, z1⟩, st⟩ := X.virtualBack hx (y := y) (z := y) hown (mvT hZ w1) (mvT hZ w2) (notFace_of_selects (args := #[]) (mvT hZ w6)) (mvT hZ w6) (mvT hZ w5) hy (backOf (W := W) hM hZ w4 w3 hf hl) qa qc (g := mkF m pc Ls (argsL.reverse ++ .ref a :: rest)) rfl hsize (Steps.refl _) (argsL := argsL) (rest := rest) hlen rfl (by show 2 * 0 + _ ≤ _; omega) hd (fun _ _ => ⟨rfl, eT, hc, hs⟩)
  dsimp only [Pt.U, Pt.locs, Pt.cells, Pt.slots] at X' l1 y1 z1 st hQ
  subst l1 y1 z1
  exact Go.tr st (kk v T' Lc X' hQ)
theorem gPrivate (X : Stand p l e R s m args below meth c T locs cells slots) (hx : p.tables.exec = Jvm.exec) (hZ : Z.Warmed39 s.vm) {own : String} {index : Nat} {y : MethodName} {bytes : ByteArray} {maxL : Nat} {ret : Option FieldType} {rm : Room} {Q' : Option Value → Heap → List Loc → Prop} {a : Addr} {C : String} {argsL rest : List Value} {W : Nat}
    (hown : s.vm.findClass own = some m.cls) (hy : y.cls ≠ "java/lang/invoke/MethodHandle" ∧ y.cls ≠ "java/lang/invoke/VarHandle") (w1 : (Cond.methodLink own index y).before a0 Z = true) (w2 : (Cond.instanceMethod y).before a0 Z = true) {kq : Nat} (w6 : (Cond.instantiable y.cls kq).before a0 Z = true) (w5 : (Cond.privateMethod y).before a0 Z = true) (w3 : (Cond.initialized y.cls).before a0 Z = true) (w4 : (Cond.code y bytes maxL ret).before a0 Z = true)
    (E : Exa Z h a C) (hM : Met l Z y bytes maxL ret [] rm (.ref a :: argsL).toArray h Q') (eT : T.heap = h) (hsize : Ls.size = c.maxLocals) (hlen : ∀ sig, parseMethodDescriptor y.desc = some sig → argsL.length = sig.parameters.length) {st : List Value} (hst : st = argsL.reverse ++ .ref a :: rest) (hW : (rest.map fun v => v.category).sum ≤ W)
    (hf : rm.frames + 1 ≤ R.frames) (hl : W + (maxL + 11) + rm.locals ≤ R.locals) (hc : cells + rm.cells ≤ R.cells) (hs : slots + rm.slots ≤ R.slots) (hd : decode c.code pc = .ok (.invokevirtual index, 3))
    (kk : ∀ (v : Option Value) (T' : State) (L : List Loc), Stand p l e R s m args below meth c T' (locs ++ L) (cells + rm.cells) (slots + rm.slots) → Q' v T'.heap L → Go p e below s CC SS QQ T' (mkF m (pc + 3) Ls (v.toList ++ rest))) : Go p e below s CC SS QQ T (mkF m pc Ls st) := by
  subst hst
  obtain ⟨cq, q1, q2⟩ := E.cell
  obtain ⟨ci, ki, hi1, hi2, -, hi3, -⟩ := Cond.instantiable_spec (mvT (args := #[]) hZ w6)
  have hsel : (Cond.selects y.cls y y).before args s = true := selects_self_of_private hi1 hi2 (by simpa using (Bool.or_eq_false_iff.mp hi3).1) (Cond.privateMethod_at (mvP hZ w5 (args := #[]))) (mvT hZ w2) hy
  obtain ⟨v, vm₁, ⟨T', L', k', n'⟩, -, X', ⟨Lc, hQ, l1, y1, z1⟩, st⟩ := X.privateBack hx (y := y) hown (mvT hZ w1) (mvT hZ w2) hsel (Cond.privateMethod_at (mvP hZ w5 (args := #[]))) (mvT hZ w4) hy (backOf (W := W) hM hZ w4 w3 hf hl) (g := mkF m pc Ls (argsL.reverse ++ .ref a :: rest)) rfl hsize (Steps.refl _) (a := a) (by rw [eT]; exact q1) q2 (argsL := argsL) (rest := rest) hlen rfl (by show 2 * 0 + _ ≤ _; omega) hd (fun _ _ => ⟨rfl, eT, hc, hs⟩)
  dsimp only [Pt.U, Pt.locs, Pt.cells, Pt.slots] at X' l1 y1 z1 st hQ
  subst l1 y1 z1
  exact Go.tr st (kk v T' Lc X' hQ)
-- fields, new objects, arrays
theorem gGetF (X : Stand p l e R s m args below meth c T locs cells slots) (hx : p.tables.exec = Jvm.exec) (hZ : Z.Warmed39 s.vm) {own O n d : String} {index : Nat} (hown : s.vm.findClass own = some m.cls) (w : (Cond.fieldLink own index O n d).before a0 Z = true) (eT : T.heap = h) {a : Addr} {v : Value} (F : Fld Z h a O n d v) (hd : decode c.code pc = .ok (.getfield index, 3))
    (kk : ∀ T', Stand p l e R s m args below meth c T' locs cells slots → T'.heap = h → Go p e below s CC SS QQ T' (mkF m (pc + 3) Ls (v :: rest))) : Go p e below s CC SS QQ T (mkF m pc Ls (.ref a :: rest)) := by
  obtain ⟨T', X', e', st⟩ := getF X hx hZ hown (host := "") (Or.inl w) Via.refl eT F (g := mkF m pc Ls (.ref a :: rest)) rfl rfl hd
  exact Go.st st (kk T' X' e')
theorem gPutF (X : Stand p l e R s m args below meth c T locs cells slots) (hx : p.tables.exec = Jvm.exec) (hZ : Z.Warmed39 s.vm) {own O n d C : String} {index kq : Nat} {ty : FieldType} (hown : s.vm.findClass own = some m.cls) (w : (Cond.fieldLink own index O n d).before a0 Z = true) (eT : T.heap = h) {a : Addr} {v old : Value} (F : Fld Z h a O n d old) (E : Exa Z h a C)
    (L : (Cond.lays C O n d).before a0 Z = true ∨ ((Cond.laysFinal C O n d).before a0 Z = true ∧ own = O ∧ meth.name = "<init>")) (wi : (Cond.instantiable C kq).before a0 Z = true) (hty : parseFieldDescriptor d = some ty) (hn : narrow ty v = v) (hf : fits ty v = true) (hd : decode c.code pc = .ok (.putfield index, 3))
    (kk : ∀ T' h', Stand p l e R s m args below meth c T' (locs ++ [⟨a, Jvm.RoadKit.slotOf Z O n d⟩]) cells slots → T'.heap = h' → Wr h h' a (Jvm.RoadKit.slotOf Z O n d) v → Go p e below s CC SS QQ T' (mkF m (pc + 3) Ls rest)) : Go p e below s CC SS QQ T (mkF m pc Ls (v :: .ref a :: rest)) := by
  obtain ⟨T', h', X', e', W', st⟩ := putF X hx hZ hown (host := "") (Or.inl w) Via.refl eT F E L wi hty hn hf (g := mkF m pc Ls (v :: .ref a :: rest)) rfl rfl hd
  exact Go.st st (kk T' h' X' e' W')
theorem gPutFN (X : Stand p l e R s m args below meth c T locs cells slots) (hx : p.tables.exec = Jvm.exec) (hZ : Z.Warmed39 s.vm) {own O n d C : String} {index kq : Nat} {ty : FieldType} (hown : s.vm.findClass own = some m.cls) (w : (Cond.fieldLink own index O n d).before a0 Z = true) (eT : T.heap = h) {a : Addr} {v old : Value} (v' : Value) (F : Fld Z h a O n d old) (E : Exa Z h a C)
    (L : (Cond.lays C O n d).before a0 Z = true ∨ ((Cond.laysFinal C O n d).before a0 Z = true ∧ own = O ∧ meth.name = "<init>")) (wi : (Cond.instantiable C kq).before a0 Z = true) (hty : parseFieldDescriptor d = some ty) (hn : narrow ty v = v') (hf : fits ty v' = true) (hd : decode c.code pc = .ok (.putfield index, 3))
    (kk : ∀ T' h', Stand p l e R s m args below meth c T' (locs ++ [⟨a, Jvm.RoadKit.slotOf Z O n d⟩]) cells slots → T'.heap = h' → Wr h h' a (Jvm.RoadKit.slotOf Z O n d) v' → Go p e below s CC SS QQ T' (mkF m (pc + 3) Ls rest)) : Go p e below s CC SS QQ T (mkF m pc Ls (v :: .ref a :: rest)) := by
  obtain ⟨T', h', X', e', W', st⟩ := putFN X hx hZ hown w Via.refl eT F E L wi hty hn hf (g := mkF m pc Ls (v :: .ref a :: rest)) rfl rfl hd
  exact Go.st st (kk T' h' X' e' W')
theorem gNew (X : Stand p l e R s m args below meth c T locs cells slots) (hx : p.tables.exec = Jvm.exec) (hZ : Z.Warmed39 s.vm) {own C : String} {index n : Nat} (hown : s.vm.findClass own = some m.cls) (w : (Cond.classLink own index C).before a0 Z = true) (wi : (Cond.instantiable C n).before a0 Z = true) (wz : (Cond.initialized C).before a0 Z = true) (eT : T.heap = h)
    (hd : decode c.code pc = .ok (.new index, 3)) (hc : cells + 1 ≤ R.cells) (hl : slots + n ≤ R.slots)
    (kk : ∀ T' h' b, Stand p l e R s m args below meth c T' locs (cells + 1) (slots + n) → T'.heap = h' → Ext h h' → b = h.size → Exa Z h' b C → (∀ {O nm d : String} {ty : FieldType}, Laid Z a0 C O nm d → parseFieldDescriptor d = some ty → Fld Z h' b O nm d (defaultValue ty)) → Go p e below s CC SS QQ T' (mkF m (pc + 3) Ls (.ref b :: rest))) : Go p e below s CC SS QQ T (mkF m pc Ls rest) := by
  obtain ⟨T', h', X', e', E', A', D', -, st⟩ := newO X hx hZ hown w wi wz eT (g := mkF m pc Ls rest) rfl hd hc hl
  exact Go.st st (kk T' h' _ X' e' E' rfl A' D')
theorem gNewArr (X : Stand p l e R s m args below meth c T locs cells slots) (hx : p.tables.exec = Jvm.exec) (hZ : Z.Warmed39 s.vm) {aty : ArrayType} (w : (Cond.arrayClass (newarray.typeOf aty)).before a0 Z = true) (eT : T.heap = h) (hd : decode c.code pc = .ok (.newarray aty, 2)) {n : Int32} (hn : ¬ n < 0) {cap : Nat} (hcap : n.toNatClampNeg ≤ cap) (hb : cap * 8 ≤ 536870912) (hc : cells + 1 ≤ R.cells) (hl : slots + cap ≤ R.slots)
    (kk : ∀ T' h' b cA, Stand p l e R s m args below meth c T' locs (cells + 1) (slots + cap) → T'.heap = h' → Ext h h' → b = h.size → Arr Z h' b (newA cA (newarray.typeOf aty) n) (newarray.typeOf aty) → Go p e below s CC SS QQ T' (mkF m (pc + 2) Ls (.ref b :: rest))) : Go p e below s CC SS QQ T (mkF m pc Ls (.int n :: rest)) := by
  obtain ⟨T', h', cA, X', e', E', A', st⟩ := newP X hx hZ w eT (g := mkF m pc Ls (.int n :: rest)) rfl hd rfl hn (cap := cap) hcap hb hc hl
  exact Go.st st (kk T' h' _ cA X' e' E' rfl A')
/-- an array of ints (or of bytes): n places, the j-th holds f j -/
def IA (Z : State) (h : Heap) (a : Addr) (ty : FieldType) (n : Nat) (f : Nat → Int32) : Prop := ∃ cl : Cell, Arr Z h a cl ty ∧ cl.slots.size = n ∧ ∀ j, j < n → cl.slots[j]? = some (.int (f j))
def upd (f : Nat → Int32) (k : Nat) (v : Int32) : Nat → Int32 := fun j => if j = k then v else f j
theorem IA.lt {a : Addr} {ty : FieldType} {n : Nat} {f : Nat → Int32} (F : IA Z h a ty n f) : a < h.size := by obtain ⟨cl, A, -⟩ := F; exact A.lt
theorem IA.ext {h' : Heap} {a : Addr} {ty : FieldType} {n : Nat} {f : Nat → Int32} (F : IA Z h a ty n f) (E : Ext h h') : IA Z h' a ty n f := by obtain ⟨cl, A, r⟩ := F; exact ⟨cl, A.ext E, r⟩
theorem IA.other {h' : Heap} {a b : Addr} {sl : Nat} {v : Value} {ty : FieldType} {n : Nat} {f : Nat → Int32} (F : IA Z h a ty n f) (W : Wr h h' b sl v) (q : a ≠ b) : IA Z h' a ty n f := by obtain ⟨cl, A, r⟩ := F; exact ⟨cl, A.other W q, r⟩
theorem IA.keep {h' : Heap} {a : Addr} {ws : List Addr} {ty : FieldType} {n : Nat} {f : Nat → Int32} (F : IA Z h a ty n f) (K : Keep h h' ws) (q : a ∉ ws) : IA Z h' a ty n f := by
  obtain ⟨cl, A, r⟩ := F
  exact ⟨cl, ⟨K.2.1 a cl A.1 q, A.2⟩, r⟩
theorem IA.set {h' : Heap} {a : Addr} {k : Nat} {v : Int32} {ty : FieldType} {n : Nat} {f : Nat → Int32} (F : IA Z h a ty n f) (W : Wr h h' a k (.int v)) : IA Z h' a ty n (upd f k v) := by
  obtain ⟨cl, A, hs, hf⟩ := F
  refine ⟨_, A.same W, by rw [sz_set]; exact hs, fun j hj => ?_⟩
  show (cl.slots.setIfInBounds k (.int v))[j]? = _
  rw [Array.getElem?_setIfInBounds]
  by_cases q : k = j
  · subst q
    rw [if_pos rfl, if_pos (by rw [hs]; exact hj)]
    simp [upd]
  · rw [if_neg q, hf j hj]
    show _ = some (Value.int (if j = k then v else f j))
    rw [if_neg fun z => q z.symm]
theorem IA.congr {a : Addr} {ty : FieldType} {n : Nat} {f g : Nat → Int32} (F : IA Z h a ty n f) (q : ∀ j, j < n → f j = g j) : IA Z h a ty n g := by
  obtain ⟨cl, A, hs, hf⟩ := F
  exact ⟨cl, A, hs, fun j hj => by rw [hf j hj, q j hj]⟩
theorem IA.new {a : Addr} {cA : ClassId} {ty : FieldType} {z : Int32} (hty : defaultValue ty = .int 0) (A : Arr Z h a (newA cA ty z) ty) : IA Z h a ty z.toNatClampNeg (fun _ => 0) := by
  refine ⟨_, A, sz_new _ _ _, fun j hj => ?_⟩
  simp [newA, hj, hty]
theorem gIaload (X : Stand p l e R s m args below meth c T locs cells slots) (hx : p.tables.exec = Jvm.exec) (hZ : Z.Warmed39 s.vm) (eT : T.heap = h) {a : Addr} {n : Nat} {f : Nat → Int32} (F : IA Z h a .int n f) {j : Int32} (hj : ¬ j < 0 ∧ j.toNatClampNeg < n) (hd : decode c.code pc = .ok (.iaload, 1))
    (kk : Go p e below s CC SS QQ T (mkF m (pc + 1) Ls (.int (f j.toNatClampNeg) :: rest))) : Go p e below s CC SS QQ T (mkF m pc Ls (.int j :: .ref a :: rest)) := by
  obtain ⟨cl, A, hs, hf⟩ := F
  exact Go.st (X.iaload hx (j := j) (v := .int (f j.toNatClampNeg)) (by rw [eT]; exact A.1) (State.isArrayOf_alike hZ.alike A.2.1) A.2.2 (fun q => q.elim hj.1 fun r => absurd hj.2 (Nat.not_lt.mpr (hs ▸ r))) (hf _ hj.2) (g := mkF m pc Ls (.int j :: .ref a :: rest)) rfl rfl hd) kk
theorem gBaload (X : Stand p l e R s m args below meth c T locs cells slots) (hx : p.tables.exec = Jvm.exec) (hZ : Z.Warmed39 s.vm) (eT : T.heap = h) {a : Addr} {n : Nat} {f : Nat → Int32} (F : IA Z h a .byte n f) {j : Int32} (hj : ¬ j < 0 ∧ j.toNatClampNeg < n) (hd : decode c.code pc = .ok (.baload, 1))
    (kk : Go p e below s CC SS QQ T (mkF m (pc + 1) Ls (.int (f j.toNatClampNeg) :: rest))) : Go p e below s CC SS QQ T (mkF m pc Ls (.int j :: .ref a :: rest)) := by
  obtain ⟨cl, A, hs, hf⟩ := F
  exact Go.st (X.baloadBytes hx (j := j) (v := .int (f j.toNatClampNeg)) (by rw [eT]; exact A.1) (State.isArrayOf_alike hZ.alike A.2.1) A.2.2 (fun q => q.elim hj.1 fun r => absurd hj.2 (Nat.not_lt.mpr (hs ▸ r))) (hf _ hj.2) (g := mkF m pc Ls (.int j :: .ref a :: rest)) rfl rfl hd) kk
theorem gIastore (X : Stand p l e R s m args below meth c T locs cells slots) (hx : p.tables.exec = Jvm.exec) (hZ : Z.Warmed39 s.vm) (eT : T.heap = h) {a : Addr} {n : Nat} {f : Nat → Int32} (F : IA Z h a .int n f) {j x : Int32} (k : Nat) (hk : j.toNatClampNeg = k) (hj : ¬ j < 0 ∧ k < n) (hd : decode c.code pc = .ok (.iastore, 1))
    (kk : ∀ T' h', Stand p l e R s m args below meth c T' (locs ++ [⟨a, k⟩]) cells slots → T'.heap = h' → Wr h h' a k (.int x) → IA Z h' a .int n (upd f k x) → Go p e below s CC SS QQ T' (mkF m (pc + 1) Ls rest)) : Go p e below s CC SS QQ T (mkF m pc Ls (.int x :: .int j :: .ref a :: rest)) := by
  subst hk
  obtain ⟨cl, A, hs, hf⟩ := id F
  obtain ⟨T', h', X', e', W', st⟩ := stI X hx hZ eT A (j := j) (x := x) (fun q => q.elim hj.1 fun r => absurd hj.2 (Nat.not_lt.mpr (hs ▸ r))) (g := mkF m pc Ls (.int x :: .int j :: .ref a :: rest)) rfl rfl hd
  exact Go.st st (kk T' h' X' e' W' (F.set W'))
theorem gBastore (X : Stand p l e R s m args below meth c T locs cells slots) (hx : p.tables.exec = Jvm.exec) (hZ : Z.Warmed39 s.vm) (eT : T.heap = h) {a : Addr} {n : Nat} {f : Nat → Int32} (F : IA Z h a .byte n f) {j x : Int32} (k : Nat) (hk : j.toNatClampNeg = k) (hj : ¬ j < 0 ∧ k < n) (hd : decode c.code pc = .ok (.bastore, 1))
    (kk : ∀ T' h', Stand p l e R s m args below meth c T' (locs ++ [⟨a, k⟩]) cells slots → T'.heap = h' → Wr h h' a k (.int (nar .byte x)) → IA Z h' a .byte n (upd f k (nar .byte x)) → Go p e below s CC SS QQ T' (mkF m (pc + 1) Ls rest)) : Go p e below s CC SS QQ T (mkF m pc Ls (.int x :: .int j :: .ref a :: rest)) := by
  subst hk
  obtain ⟨cl, A, hs, hf⟩ := id F
  obtain ⟨T', h', X', e', W', st⟩ := stB X hx hZ eT A (j := j) (x := x) (fun q => q.elim hj.1 fun r => absurd hj.2 (Nat.not_lt.mpr (hs ▸ r))) (g := mkF m pc Ls (.int x :: .int j :: .ref a :: rest)) rfl rfl hd
  exact Go.st st (kk T' h' X' e' W' (F.set W'))
theorem gLength (X : Stand p l e R s m args below meth c T locs cells slots) (hx : p.tables.exec = Jvm.exec) (hZ : Z.Warmed39 s.vm) (eT : T.heap = h) {a : Addr} {ty : FieldType} {n : Nat} {f : Nat → Int32} (F : IA Z h a ty n f) (hd : decode c.code pc = .ok (.arraylength, 1))
    (kk : Go p e below s CC SS QQ T (mkF m (pc + 1) Ls (.int n.toInt32 :: rest))) : Go p e below s CC SS QQ T (mkF m pc Ls (.ref a :: rest)) := by
  obtain ⟨cl, A, hs, hf⟩ := F
  subst hs
  exact Go.st (X.arraylength hx (by rw [eT]; exact A.1) (State.isArrayOf_alike hZ.alike A.2.1) (g := mkF m pc Ls (.ref a :: rest)) rfl rfl hd) kk
theorem own_nb (x : Int32) : nar .byte x.toInt8.toInt32 = x.toInt8.toInt32 := by simp [nar]
theorem own_nz {b : Int32} (h : b = 0 ∨ b = 1) : narrow .boolean (.int b) = .int b := by rcases h with rfl | rfl <;> rfl
theorem own_fz {b : Int32} (h : b = 0 ∨ b = 1) : fits .boolean (.int b) = true := by rcases h with rfl | rfl <;> rfl
end OwnKit
theorem tw {a0 : Array Value} {Z : State} (hw : ∀ d ∈ tables_1, d.before a0 Z = true) (k : Nat) {d : Jvm.Cond} (h : tables_1[k]? = some d) : d.before a0 Z = true := hw _ (List.mem_of_getElem? h)
theorem d0_0 : decode prog_226_method_2_code 0 = .ok (.iload_n 0, 1) := by decide +kernel
theorem d0_1 : decode prog_226_method_2_code 1 = .ok (.sipush 128, 3) := by decide +kernel
theorem d0_4 : decode prog_226_method_2_code 4 = .ok (.if_icmp .ge 39, 3) := by decide +kernel
theorem d0_7 : decode prog_226_method_2_code 7 = .ok (.iload_n 0, 1) := by decide +kernel
theorem d0_8 : decode prog_226_method_2_code 8 = .ok (.bipush 97, 2) := by decide +kernel
theorem d0_10 : decode prog_226_method_2_code 10 = .ok (.if_icmp .lt 9, 3) := by decide +kernel
theorem d0_13 : decode prog_226_method_2_code 13 = .ok (.iload_n 0, 1) := by decide +kernel
theorem d0_14 : decode prog_226_method_2_code 14 = .ok (.bipush 122, 2) := by decide +kernel
theorem d0_16 : decode prog_226_method_2_code 16 = .ok (.if_icmp .le 21, 3) := by decide +kernel
theorem d0_19 : decode prog_226_method_2_code 19 = .ok (.iload_n 0, 1) := by decide +kernel
theorem d0_20 : decode prog_226_method_2_code 20 = .ok (.bipush 65, 2) := by decide +kernel
theorem d0_22 : decode prog_226_method_2_code 22 = .ok (.if_icmp .lt 9, 3) := by decide +kernel
theorem d0_25 : decode prog_226_method_2_code 25 = .ok (.iload_n 0, 1) := by decide +kernel
theorem d0_26 : decode prog_226_method_2_code 26 = .ok (.bipush 90, 2) := by decide +kernel
theorem d0_28 : decode prog_226_method_2_code 28 = .ok (.if_icmp .le 9, 3) := by decide +kernel
theorem d0_31 : decode prog_226_method_2_code 31 = .ok (.iload_n 0, 1) := by decide +kernel
theorem d0_32 : decode prog_226_method_2_code 32 = .ok (.bipush 95, 2) := by decide +kernel
theorem d0_34 : decode prog_226_method_2_code 34 = .ok (.if_icmp .ne 7, 3) := by decide +kernel
theorem d0_37 : decode prog_226_method_2_code 37 = .ok (.iconst 1, 1) := by decide +kernel
theorem d0_38 : decode prog_226_method_2_code 38 = .ok (.goto 4, 3) := by decide +kernel
theorem d0_41 : decode prog_226_method_2_code 41 = .ok (.iconst 0, 1) := by decide +kernel
theorem d0_42 : decode prog_226_method_2_code 42 = .ok (.ireturn, 1) := by decide +kernel
theorem d0_43 : decode prog_226_method_2_code 43 = .ok (.iload_n 0, 1) := by decide +kernel
theorem d0_44 : decode prog_226_method_2_code 44 = .ok (.sipush 192, 3) := by decide +kernel
theorem d0_47 : decode prog_226_method_2_code 47 = .ok (.if_icmp .lt 10, 3) := by decide +kernel
theorem d0_50 : decode prog_226_method_2_code 50 = .ok (.iload_n 0, 1) := by decide +kernel
theorem d0_51 : decode prog_226_method_2_code 51 = .ok (.sipush 214, 3) := by decide +kernel
theorem d0_54 : decode prog_226_method_2_code 54 = .ok (.if_icmp .le 150, 3) := by decide +kernel
theorem d0_57 : decode prog_226_method_2_code 57 = .ok (.iload_n 0, 1) := by decide +kernel
theorem d0_58 : decode prog_226_method_2_code 58 = .ok (.sipush 216, 3) := by decide +kernel
theorem d0_61 : decode prog_226_method_2_code 61 = .ok (.if_icmp .lt 10, 3) := by decide +kernel
theorem d0_64 : decode prog_226_method_2_code 64 = .ok (.iload_n 0, 1) := by decide +kernel
theorem d0_65 : decode prog_226_method_2_code 65 = .ok (.sipush 246, 3) := by decide +kernel
theorem d0_68 : decode prog_226_method_2_code 68 = .ok (.if_icmp .le 136, 3) := by decide +kernel
theorem d0_71 : decode prog_226_method_2_code 71 = .ok (.iload_n 0, 1) := by decide +kernel
theorem d0_72 : decode prog_226_method_2_code 72 = .ok (.sipush 248, 3) := by decide +kernel
theorem d0_75 : decode prog_226_method_2_code 75 = .ok (.if_icmp .lt 10, 3) := by decide +kernel
theorem d0_78 : decode prog_226_method_2_code 78 = .ok (.iload_n 0, 1) := by decide +kernel
theorem d0_79 : decode prog_226_method_2_code 79 = .ok (.sipush 767, 3) := by decide +kernel
theorem d0_82 : decode prog_226_method_2_code 82 = .ok (.if_icmp .le 122, 3) := by decide +kernel
theorem d0_85 : decode prog_226_method_2_code 85 = .ok (.iload_n 0, 1) := by decide +kernel
theorem d0_86 : decode prog_226_method_2_code 86 = .ok (.sipush 880, 3) := by decide +kernel
theorem d0_89 : decode prog_226_method_2_code 89 = .ok (.if_icmp .lt 10, 3) := by decide +kernel
theorem d0_92 : decode prog_226_method_2_code 92 = .ok (.iload_n 0, 1) := by decide +kernel
theorem d0_93 : decode prog_226_method_2_code 93 = .ok (.sipush 893, 3) := by decide +kernel
theorem d0_96 : decode prog_226_method_2_code 96 = .ok (.if_icmp .le 108, 3) := by decide +kernel
theorem d0_99 : decode prog_226_method_2_code 99 = .ok (.iload_n 0, 1) := by decide +kernel
theorem d0_100 : decode prog_226_method_2_code 100 = .ok (.sipush 895, 3) := by decide +kernel
theorem d0_103 : decode prog_226_method_2_code 103 = .ok (.if_icmp .lt 10, 3) := by decide +kernel
theorem d0_106 : decode prog_226_method_2_code 106 = .ok (.iload_n 0, 1) := by decide +kernel
theorem d0_107 : decode prog_226_method_2_code 107 = .ok (.sipush 8191, 3) := by decide +kernel
theorem d0_110 : decode prog_226_method_2_code 110 = .ok (.if_icmp .le 94, 3) := by decide +kernel
theorem d0_113 : decode prog_226_method_2_code 113 = .ok (.iload_n 0, 1) := by decide +kernel
theorem d0_114 : decode prog_226_method_2_code 114 = .ok (.sipush 8204, 3) := by decide +kernel
theorem d0_117 : decode prog_226_method_2_code 117 = .ok (.if_icmp .lt 10, 3) := by decide +kernel
theorem d0_120 : decode prog_226_method_2_code 120 = .ok (.iload_n 0, 1) := by decide +kernel
theorem d0_121 : decode prog_226_method_2_code 121 = .ok (.sipush 8205, 3) := by decide +kernel
theorem d0_124 : decode prog_226_method_2_code 124 = .ok (.if_icmp .le 80, 3) := by decide +kernel
theorem d0_127 : decode prog_226_method_2_code 127 = .ok (.iload_n 0, 1) := by decide +kernel
theorem d0_128 : decode prog_226_method_2_code 128 = .ok (.sipush 8304, 3) := by decide +kernel
theorem d0_131 : decode prog_226_method_2_code 131 = .ok (.if_icmp .lt 10, 3) := by decide +kernel
theorem d0_134 : decode prog_226_method_2_code 134 = .ok (.iload_n 0, 1) := by decide +kernel
theorem d0_135 : decode prog_226_method_2_code 135 = .ok (.sipush 8591, 3) := by decide +kernel
theorem d0_138 : decode prog_226_method_2_code 138 = .ok (.if_icmp .le 66, 3) := by decide +kernel
theorem d0_141 : decode prog_226_method_2_code 141 = .ok (.iload_n 0, 1) := by decide +kernel
theorem d0_142 : decode prog_226_method_2_code 142 = .ok (.sipush 11264, 3) := by decide +kernel
theorem d0_145 : decode prog_226_method_2_code 145 = .ok (.if_icmp .lt 10, 3) := by decide +kernel
theorem d0_148 : decode prog_226_method_2_code 148 = .ok (.iload_n 0, 1) := by decide +kernel
theorem d0_149 : decode prog_226_method_2_code 149 = .ok (.sipush 12271, 3) := by decide +kernel
theorem d0_152 : decode prog_226_method_2_code 152 = .ok (.if_icmp .le 52, 3) := by decide +kernel
theorem d0_155 : decode prog_226_method_2_code 155 = .ok (.iload_n 0, 1) := by decide +kernel
theorem d0_156 : decode prog_226_method_2_code 156 = .ok (.sipush 12289, 3) := by decide +kernel
theorem d0_159 : decode prog_226_method_2_code 159 = .ok (.if_icmp .lt 9, 3) := by decide +kernel
theorem d0_162 : decode prog_226_method_2_code 162 = .ok (.iload_n 0, 1) := by decide +kernel
theorem d0_163 : decode prog_226_method_2_code 163 = .ok (.ldc 7, 2) := by decide +kernel
theorem d0_165 : decode prog_226_method_2_code 165 = .ok (.if_icmp .le 39, 3) := by decide +kernel
theorem d0_168 : decode prog_226_method_2_code 168 = .ok (.iload_n 0, 1) := by decide +kernel
theorem d0_169 : decode prog_226_method_2_code 169 = .ok (.ldc 8, 2) := by decide +kernel
theorem d0_171 : decode prog_226_method_2_code 171 = .ok (.if_icmp .lt 9, 3) := by decide +kernel
theorem d0_174 : decode prog_226_method_2_code 174 = .ok (.iload_n 0, 1) := by decide +kernel
theorem d0_175 : decode prog_226_method_2_code 175 = .ok (.ldc 9, 2) := by decide +kernel
theorem d0_177 : decode prog_226_method_2_code 177 = .ok (.if_icmp .le 27, 3) := by decide +kernel
theorem d0_180 : decode prog_226_method_2_code 180 = .ok (.iload_n 0, 1) := by decide +kernel
theorem d0_181 : decode prog_226_method_2_code 181 = .ok (.ldc 10, 2) := by decide +kernel
theorem d0_183 : decode prog_226_method_2_code 183 = .ok (.if_icmp .lt 9, 3) := by decide +kernel
theorem d0_186 : decode prog_226_method_2_code 186 = .ok (.iload_n 0, 1) := by decide +kernel
theorem d0_187 : decode prog_226_method_2_code 187 = .ok (.ldc 11, 2) := by decide +kernel
theorem d0_189 : decode prog_226_method_2_code 189 = .ok (.if_icmp .le 15, 3) := by decide +kernel
theorem d0_192 : decode prog_226_method_2_code 192 = .ok (.iload_n 0, 1) := by decide +kernel
theorem d0_193 : decode prog_226_method_2_code 193 = .ok (.ldc 12, 2) := by decide +kernel
theorem d0_195 : decode prog_226_method_2_code 195 = .ok (.if_icmp .lt 13, 3) := by decide +kernel
theorem d0_198 : decode prog_226_method_2_code 198 = .ok (.iload_n 0, 1) := by decide +kernel
theorem d0_199 : decode prog_226_method_2_code 199 = .ok (.ldc 13, 2) := by decide +kernel
theorem d0_201 : decode prog_226_method_2_code 201 = .ok (.if_icmp .gt 7, 3) := by decide +kernel
theorem d0_204 : decode prog_226_method_2_code 204 = .ok (.iconst 1, 1) := by decide +kernel
theorem d0_205 : decode prog_226_method_2_code 205 = .ok (.goto 4, 3) := by decide +kernel
theorem d0_208 : decode prog_226_method_2_code 208 = .ok (.iconst 0, 1) := by decide +kernel
theorem d0_209 : decode prog_226_method_2_code 209 = .ok (.ireturn, 1) := by decide +kernel
theorem own_pn0 : plainFor (⟨"com/example/deep_query/deepquery/xdm/XmlChars", "isNameStartChar", "(I)Z"⟩ : MethodName) = true := plainFor_of_name (by first | (simp [plainName, overriddenIn]; done) | decide +kernel)
theorem own_ef0 (p0 : Int32) (m : MethodId) : entryFrame m #[(.int p0)] 1 = mkF m 0 #[.val (.int p0)] [] := by first | (simp [entryFrame, mkF, argsToLocals, Value.category]; done) | rfl
def own_f_208 (i0 : Int32) : Int32 := (0 : Int32)
def own_f_204 (i0 : Int32) : Int32 := (1 : Int32)
def own_f_192 (i0 : Int32) : Int32 := if i0 < (65536 : Int32) then (own_f_208 i0) else (if (983039 : Int32) < i0 then (own_f_208 i0) else (own_f_204 i0))
def own_f_180 (i0 : Int32) : Int32 := if i0 < (65008 : Int32) then (own_f_192 i0) else (if (65533 : Int32) < i0 then (own_f_192 i0) else (own_f_204 i0))
def own_f_168 (i0 : Int32) : Int32 := if i0 < (63744 : Int32) then (own_f_180 i0) else (if (64975 : Int32) < i0 then (own_f_180 i0) else (own_f_204 i0))
def own_f_155 (i0 : Int32) : Int32 := if i0 < (12289 : Int32) then (own_f_168 i0) else (if (55295 : Int32) < i0 then (own_f_168 i0) else (own_f_204 i0))
def own_f_141 (i0 : Int32) : Int32 := if i0 < (11264 : Int32) then (own_f_155 i0) else (if (12271 : Int32) < i0 then (own_f_155 i0) else (own_f_204 i0))
def own_f_127 (i0 : Int32) : Int32 := if i0 < (8304 : Int32) then (own_f_141 i0) else (if (8591 : Int32) < i0 then (own_f_141 i0) else (own_f_204 i0))
def own_f_113 (i0 : Int32) : Int32 := if i0 < (8204 : Int32) then (own_f_127 i0) else (if (8205 : Int32) < i0 then (own_f_127 i0) else (own_f_204 i0))
def own_f_99 (i0 : Int32) : Int32 := if i0 < (895 : Int32) then (own_f_113 i0) else (if (8191 : Int32) < i0 then (own_f_113 i0) else (own_f_204 i0))
def own_f_85 (i0 : Int32) : Int32 := if i0 < (880 : Int32) then (own_f_99 i0) else (if (893 : Int32) < i0 then (own_f_99 i0) else (own_f_204 i0))
def own_f_71 (i0 : Int32) : Int32 := if i0 < (248 : Int32) then (own_f_85 i0) else (if (767 : Int32) < i0 then (own_f_85 i0) else (own_f_204 i0))
def own_f_57 (i0 : Int32) : Int32 := if i0 < (216 : Int32) then (own_f_71 i0) else (if (246 : Int32) < i0 then (own_f_71 i0) else (own_f_204 i0))
def own_f_37 (i0 : Int32) : Int32 := (1 : Int32)
def own_f_31 (i0 : Int32) : Int32 := if i0 = (95 : Int32) then (own_f_37 i0) else (0 : Int32)
def own_f_19 (i0 : Int32) : Int32 := if i0 < (65 : Int32) then (own_f_31 i0) else (if (90 : Int32) < i0 then (own_f_31 i0) else (own_f_37 i0))
def own_f (p0 : Int32) : Int32 := if p0 < (128 : Int32) then (if p0 < (97 : Int32) then (own_f_19 p0) else (if (122 : Int32) < p0 then (own_f_19 p0) else (own_f_37 p0))) else (if p0 < (192 : Int32) then (own_f_57 p0) else (if (214 : Int32) < p0 then (own_f_57 p0) else (own_f_204 p0)))
theorem own_pd0 : parseMethodDescriptor "(I)Z" = some ⟨[.int], some .boolean⟩ := by decide +kernel
set_option maxRecDepth 65536 in
set_option maxHeartbeats 40000000 in
theorem own_rm0 (l : Launch) (Z : State) (a0 : Array Value) (hw : ∀ d ∈ tables_1, d.before a0 Z = true) (p0 : Int32) (h0 : Heap) (n0 : Nat) (Z0 : n0 ≤ h0.size)  :
    Met l Z (⟨"com/example/deep_query/deepquery/xdm/XmlChars", "isNameStartChar", "(I)Z"⟩ : MethodName) prog_226_method_2_code 1 (some .boolean) [] ({ frames := 0, cells := 0, slots := 0, locals := 0 } : Room) #[(.int p0)] h0 (fun v h L => v = some (.int (own_f p0)) ∧ Fr n0 L ∧ h = h0) := by
  refine met_of (Ls := #[.val (.int p0)]) own_pn0 (own_ef0 p0) ?_
  intro p e s m below meth c s₁ hx hby hml hown hnm hret hlk hZ X0 e0
  have N0 := Fr.nil n0
  have B208 : ∀ i0 : Int32, own_f p0 = own_f_208 i0 → Go p e below s ({ frames := 0, cells := 0, slots := 0, locals := 0 } : Room).cells ({ frames := 0, cells := 0, slots := 0, locals := 0 } : Room).slots (fun v h L => v = some (.int (own_f p0)) ∧ Fr n0 L ∧ h = h0) s₁ (mkF m 208 #[.val (.int i0)] []) := by
    intro i0 hq
    replace hq : own_f p0 = ((0 : Int32)) := hq
    refine gIconst X0 hx (0 : Int32) (hb hby d0_208) rfl ?_
    exact gRetZ X0 hx hlk hret (by simp) (hb hby d0_209) (z' := (0 : Int32)) rfl (by decide) (by decide) ⟨congrArg (fun z => some (Value.int z)) hq.symm, N0, e0⟩
  have B204 : ∀ i0 : Int32, own_f p0 = own_f_204 i0 → Go p e below s ({ frames := 0, cells := 0, slots := 0, locals := 0 } : Room).cells ({ frames := 0, cells := 0, slots := 0, locals := 0 } : Room).slots (fun v h L => v = some (.int (own_f p0)) ∧ Fr n0 L ∧ h = h0) s₁ (mkF m 204 #[.val (.int i0)] []) := by
    intro i0 hq
    replace hq : own_f p0 = ((1 : Int32)) := hq
    refine gIconst X0 hx (1 : Int32) (hb hby d0_204) rfl ?_
    refine gGoto X0 hx 209 (hb hby d0_205) (by decide) (by decide) ?_
    exact gRetZ X0 hx hlk hret (by simp) (hb hby d0_209) (z' := (1 : Int32)) rfl (by decide) (by decide) ⟨congrArg (fun z => some (Value.int z)) hq.symm, N0, e0⟩
  have B192 : ∀ i0 : Int32, own_f p0 = own_f_192 i0 → Go p e below s ({ frames := 0, cells := 0, slots := 0, locals := 0 } : Room).cells ({ frames := 0, cells := 0, slots := 0, locals := 0 } : Room).slots (fun v h L => v = some (.int (own_f p0)) ∧ Fr n0 L ∧ h = h0) s₁ (mkF m 192 #[.val (.int i0)] []) := by
    intro i0 hq
    replace hq : own_f p0 = (if i0 < (65536 : Int32) then (own_f_208 i0) else (if (983039 : Int32) < i0 then (own_f_208 i0) else (own_f_204 i0))) := hq
    refine gIloadN X0 hx (hb hby d0_192) rfl ?_
    refine gLdc X0 hx hZ (65536 : Int32) hown (tw hw 20 rfl) (hb hby d0_193) ?_
    refine gIcmp X0 hx 208 (hb hby d0_195) (by decide) (by decide) (fun hT => ?_) (fun hT => ?_)
    · have hc1 := o_ltT hT
      have q2 := hq.trans (if_pos hc1)
      show Go _ _ _ _ _ _ _ s₁ (mkF m 208 #[.val (.int i0)] [])
      exact B208 i0 q2
    · have hc1 := o_ltF hT
      have q3 := hq.trans (if_neg hc1)
      show Go _ _ _ _ _ _ _ s₁ (mkF m 198 #[.val (.int i0)] [])
      refine gIloadN X0 hx (hb hby d0_198) rfl ?_
      refine gLdc X0 hx hZ (983039 : Int32) hown (tw hw 24 rfl) (hb hby d0_199) ?_
      refine gIcmp X0 hx 208 (hb hby d0_201) (by decide) (by decide) (fun hT => ?_) (fun hT => ?_)
      · have hc4 := o_gtT hT
        have q5 := q3.trans (if_pos hc4)
        show Go _ _ _ _ _ _ _ s₁ (mkF m 208 #[.val (.int i0)] [])
        exact B208 i0 q5
      · have hc4 := o_gtF hT
        have q6 := q3.trans (if_neg hc4)
        show Go _ _ _ _ _ _ _ s₁ (mkF m 204 #[.val (.int i0)] [])
        exact B204 i0 q6
  have B180 : ∀ i0 : Int32, own_f p0 = own_f_180 i0 → Go p e below s ({ frames := 0, cells := 0, slots := 0, locals := 0 } : Room).cells ({ frames := 0, cells := 0, slots := 0, locals := 0 } : Room).slots (fun v h L => v = some (.int (own_f p0)) ∧ Fr n0 L ∧ h = h0) s₁ (mkF m 180 #[.val (.int i0)] []) := by
    intro i0 hq
    replace hq : own_f p0 = (if i0 < (65008 : Int32) then (own_f_192 i0) else (if (65533 : Int32) < i0 then (own_f_192 i0) else (own_f_204 i0))) := hq
    refine gIloadN X0 hx (hb hby d0_180) rfl ?_
    refine gLdc X0 hx hZ (65008 : Int32) hown (tw hw 19 rfl) (hb hby d0_181) ?_
    refine gIcmp X0 hx 192 (hb hby d0_183) (by decide) (by decide) (fun hT => ?_) (fun hT => ?_)
    · have hc7 := o_ltT hT
      have q8 := hq.trans (if_pos hc7)
      show Go _ _ _ _ _ _ _ s₁ (mkF m 192 #[.val (.int i0)] [])
      exact B192 i0 q8
    · have hc7 := o_ltF hT
      have q9 := hq.trans (if_neg hc7)
      show Go _ _ _ _ _ _ _ s₁ (mkF m 186 #[.val (.int i0)] [])
      refine gIloadN X0 hx (hb hby d0_186) rfl ?_
      refine gLdc X0 hx hZ (65533 : Int32) hown (tw hw 23 rfl) (hb hby d0_187) ?_
      refine gIcmp X0 hx 204 (hb hby d0_189) (by decide) (by decide) (fun hT => ?_) (fun hT => ?_)
      · have hc10 := o_leT hT
        have q11 := q9.trans (if_neg hc10)
        show Go _ _ _ _ _ _ _ s₁ (mkF m 204 #[.val (.int i0)] [])
        exact B204 i0 q11
      · have hc10 := o_leF hT
        have q12 := q9.trans (if_pos hc10)
        show Go _ _ _ _ _ _ _ s₁ (mkF m 192 #[.val (.int i0)] [])
        exact B192 i0 q12
  have B168 : ∀ i0 : Int32, own_f p0 = own_f_168 i0 → Go p e below s ({ frames := 0, cells := 0, slots := 0, locals := 0 } : Room).cells ({ frames := 0, cells := 0, slots := 0, locals := 0 } : Room).slots (fun v h L => v = some (.int (own_f p0)) ∧ Fr n0 L ∧ h = h0) s₁ (mkF m 168 #[.val (.int i0)] []) := by
    intro i0 hq
    replace hq : own_f p0 = (if i0 < (63744 : Int32) then (own_f_180 i0) else (if (64975 : Int32) < i0 then (own_f_180 i0) else (own_f_204 i0))) := hq
    refine gIloadN X0 hx (hb hby d0_168) rfl ?_
    refine gLdc X0 hx hZ (63744 : Int32) hown (tw hw 18 rfl) (hb hby d0_169) ?_
    refine gIcmp X0 hx 180 (hb hby d0_171) (by decide) (by decide) (fun hT => ?_) (fun hT => ?_)
    · have hc13 := o_ltT hT
      have q14 := hq.trans (if_pos hc13)
      show Go _ _ _ _ _ _ _ s₁ (mkF m 180 #[.val (.int i0)] [])
      exact B180 i0 q14
    · have hc13 := o_ltF hT
      have q15 := hq.trans (if_neg hc13)
      show Go _ _ _ _ _ _ _ s₁ (mkF m 174 #[.val (.int i0)] [])
      refine gIloadN X0 hx (hb hby d0_174) rfl ?_
      refine gLdc X0 hx hZ (64975 : Int32) hown (tw hw 22 rfl) (hb hby d0_175) ?_
      refine gIcmp X0 hx 204 (hb hby d0_177) (by decide) (by decide) (fun hT => ?_) (fun hT => ?_)
      · have hc16 := o_leT hT
        have q17 := q15.trans (if_neg hc16)
        show Go _ _ _ _ _ _ _ s₁ (mkF m 204 #[.val (.int i0)] [])
        exact B204 i0 q17
      · have hc16 := o_leF hT
        have q18 := q15.trans (if_pos hc16)
        show Go _ _ _ _ _ _ _ s₁ (mkF m 180 #[.val (.int i0)] [])
        exact B180 i0 q18
  have B155 : ∀ i0 : Int32, own_f p0 = own_f_155 i0 → Go p e below s ({ frames := 0, cells := 0, slots := 0, locals := 0 } : Room).cells ({ frames := 0, cells := 0, slots := 0, locals := 0 } : Room).slots (fun v h L => v = some (.int (own_f p0)) ∧ Fr n0 L ∧ h = h0) s₁ (mkF m 155 #[.val (.int i0)] []) := by
    intro i0 hq
    replace hq : own_f p0 = (if i0 < (12289 : Int32) then (own_f_168 i0) else (if (55295 : Int32) < i0 then (own_f_168 i0) else (own_f_204 i0))) := hq
    refine gIloadN X0 hx (hb hby d0_155) rfl ?_
    refine gSipush X0 hx (12289 : Int32) (hb hby d0_156) rfl ?_
    refine gIcmp X0 hx 168 (hb hby d0_159) (by decide) (by decide) (fun hT => ?_) (fun hT => ?_)
    · have hc19 := o_ltT hT
      have q20 := hq.trans (if_pos hc19)
      show Go _ _ _ _ _ _ _ s₁ (mkF m 168 #[.val (.int i0)] [])
      exact B168 i0 q20
    · have hc19 := o_ltF hT
      have q21 := hq.trans (if_neg hc19)
      show Go _ _ _ _ _ _ _ s₁ (mkF m 162 #[.val (.int i0)] [])
      refine gIloadN X0 hx (hb hby d0_162) rfl ?_
      refine gLdc X0 hx hZ (55295 : Int32) hown (tw hw 21 rfl) (hb hby d0_163) ?_
      refine gIcmp X0 hx 204 (hb hby d0_165) (by decide) (by decide) (fun hT => ?_) (fun hT => ?_)
      · have hc22 := o_leT hT
        have q23 := q21.trans (if_neg hc22)
        show Go _ _ _ _ _ _ _ s₁ (mkF m 204 #[.val (.int i0)] [])
        exact B204 i0 q23
      · have hc22 := o_leF hT
        have q24 := q21.trans (if_pos hc22)
        show Go _ _ _ _ _ _ _ s₁ (mkF m 168 #[.val (.int i0)] [])
        exact B168 i0 q24
  have B141 : ∀ i0 : Int32, own_f p0 = own_f_141 i0 → Go p e below s ({ frames := 0, cells := 0, slots := 0, locals := 0 } : Room).cells ({ frames := 0, cells := 0, slots := 0, locals := 0 } : Room).slots (fun v h L => v = some (.int (own_f p0)) ∧ Fr n0 L ∧ h = h0) s₁ (mkF m 141 #[.val (.int i0)] []) := by
    intro i0 hq
    replace hq : own_f p0 = (if i0 < (11264 : Int32) then (own_f_155 i0) else (if (12271 : Int32) < i0 then (own_f_155 i0) else (own_f_204 i0))) := hq
    refine gIloadN X0 hx (hb hby d0_141) rfl ?_
    refine gSipush X0 hx (11264 : Int32) (hb hby d0_142) rfl ?_
    refine gIcmp X0 hx 155 (hb hby d0_145) (by decide) (by decide) (fun hT => ?_) (fun hT => ?_)
    · have hc25 := o_ltT hT
      have q26 := hq.trans (if_pos hc25)
      show Go _ _ _ _ _ _ _ s₁ (mkF m 155 #[.val (.int i0)] [])
      exact B155 i0 q26
    · have hc25 := o_ltF hT
      have q27 := hq.trans (if_neg hc25)
      show Go _ _ _ _ _ _ _ s₁ (mkF m 148 #[.val (.int i0)] [])
      refine gIloadN X0 hx (hb hby d0_148) rfl ?_
      refine gSipush X0 hx (12271 : Int32) (hb hby d0_149) rfl ?_
      refine gIcmp X0 hx 204 (hb hby d0_152) (by decide) (by decide) (fun hT => ?_) (fun hT => ?_)
      · have hc28 := o_leT hT
        have q29 := q27.trans (if_neg hc28)
        show Go _ _ _ _ _ _ _ s₁ (mkF m 204 #[.val (.int i0)] [])
        exact B204 i0 q29
      · have hc28 := o_leF hT
        have q30 := q27.trans (if_pos hc28)
        show Go _ _ _ _ _ _ _ s₁ (mkF m 155 #[.val (.int i0)] [])
        exact B155 i0 q30
  have B127 : ∀ i0 : Int32, own_f p0 = own_f_127 i0 → Go p e below s ({ frames := 0, cells := 0, slots := 0, locals := 0 } : Room).cells ({ frames := 0, cells := 0, slots := 0, locals := 0 } : Room).slots (fun v h L => v = some (.int (own_f p0)) ∧ Fr n0 L ∧ h = h0) s₁ (mkF m 127 #[.val (.int i0)] []) := by
    intro i0 hq
    replace hq : own_f p0 = (if i0 < (8304 : Int32) then (own_f_141 i0) else (if (8591 : Int32) < i0 then (own_f_141 i0) else (own_f_204 i0))) := hq
    refine gIloadN X0 hx (hb hby d0_127) rfl ?_
    refine gSipush X0 hx (8304 : Int32) (hb hby d0_128) rfl ?_
    refine gIcmp X0 hx 141 (hb hby d0_131) (by decide) (by decide) (fun hT => ?_) (fun hT => ?_)
    · have hc31 := o_ltT hT
      have q32 := hq.trans (if_pos hc31)
      show Go _ _ _ _ _ _ _ s₁ (mkF m 141 #[.val (.int i0)] [])
      exact B141 i0 q32
    · have hc31 := o_ltF hT
      have q33 := hq.trans (if_neg hc31)
      show Go _ _ _ _ _ _ _ s₁ (mkF m 134 #[.val (.int i0)] [])
      refine gIloadN X0 hx (hb hby d0_134) rfl ?_
      refine gSipush X0 hx (8591 : Int32) (hb hby d0_135) rfl ?_
      refine gIcmp X0 hx 204 (hb hby d0_138) (by decide) (by decide) (fun hT => ?_) (fun hT => ?_)
      · have hc34 := o_leT hT
        have q35 := q33.trans (if_neg hc34)
        show Go _ _ _ _ _ _ _ s₁ (mkF m 204 #[.val (.int i0)] [])
        exact B204 i0 q35
      · have hc34 := o_leF hT
        have q36 := q33.trans (if_pos hc34)
        show Go _ _ _ _ _ _ _ s₁ (mkF m 141 #[.val (.int i0)] [])
        exact B141 i0 q36
  have B113 : ∀ i0 : Int32, own_f p0 = own_f_113 i0 → Go p e below s ({ frames := 0, cells := 0, slots := 0, locals := 0 } : Room).cells ({ frames := 0, cells := 0, slots := 0, locals := 0 } : Room).slots (fun v h L => v = some (.int (own_f p0)) ∧ Fr n0 L ∧ h = h0) s₁ (mkF m 113 #[.val (.int i0)] []) := by
    intro i0 hq
    replace hq : own_f p0 = (if i0 < (8204 : Int32) then (own_f_127 i0) else (if (8205 : Int32) < i0 then (own_f_127 i0) else (own_f_204 i0))) := hq
    refine gIloadN X0 hx (hb hby d0_113) rfl ?_
    refine gSipush X0 hx (8204 : Int32) (hb hby d0_114) rfl ?_
    refine gIcmp X0 hx 127 (hb hby d0_117) (by decide) (by decide) (fun hT => ?_) (fun hT => ?_)
    · have hc37 := o_ltT hT
      have q38 := hq.trans (if_pos hc37)
      show Go _ _ _ _ _ _ _ s₁ (mkF m 127 #[.val (.int i0)] [])
      exact B127 i0 q38
    · have hc37 := o_ltF hT
      have q39 := hq.trans (if_neg hc37)
      show Go _ _ _ _ _ _ _ s₁ (mkF m 120 #[.val (.int i0)] [])
      refine gIloadN X0 hx (hb hby d0_120) rfl ?_
      refine gSipush X0 hx (8205 : Int32) (hb hby d0_121) rfl ?_
      refine gIcmp X0 hx 204 (hb hby d0_124) (by decide) (by decide) (fun hT => ?_) (fun hT => ?_)
      · have hc40 := o_leT hT
        have q41 := q39.trans (if_neg hc40)
        show Go _ _ _ _ _ _ _ s₁ (mkF m 204 #[.val (.int i0)] [])
        exact B204 i0 q41
      · have hc40 := o_leF hT
        have q42 := q39.trans (if_pos hc40)
        show Go _ _ _ _ _ _ _ s₁ (mkF m 127 #[.val (.int i0)] [])
        exact B127 i0 q42
  have B99 : ∀ i0 : Int32, own_f p0 = own_f_99 i0 → Go p e below s ({ frames := 0, cells := 0, slots := 0, locals := 0 } : Room).cells ({ frames := 0, cells := 0, slots := 0, locals := 0 } : Room).slots (fun v h L => v = some (.int (own_f p0)) ∧ Fr n0 L ∧ h = h0) s₁ (mkF m 99 #[.val (.int i0)] []) := by
    intro i0 hq
    replace hq : own_f p0 = (if i0 < (895 : Int32) then (own_f_113 i0) else (if (8191 : Int32) < i0 then (own_f_113 i0) else (own_f_204 i0))) := hq
    refine gIloadN X0 hx (hb hby d0_99) rfl ?_
    refine gSipush X0 hx (895 : Int32) (hb hby d0_100) rfl ?_
    refine gIcmp X0 hx 113 (hb hby d0_103) (by decide) (by decide) (fun hT => ?_) (fun hT => ?_)
    · have hc43 := o_ltT hT
      have q44 := hq.trans (if_pos hc43)
      show Go _ _ _ _ _ _ _ s₁ (mkF m 113 #[.val (.int i0)] [])
      exact B113 i0 q44
    · have hc43 := o_ltF hT
      have q45 := hq.trans (if_neg hc43)
      show Go _ _ _ _ _ _ _ s₁ (mkF m 106 #[.val (.int i0)] [])
      refine gIloadN X0 hx (hb hby d0_106) rfl ?_
      refine gSipush X0 hx (8191 : Int32) (hb hby d0_107) rfl ?_
      refine gIcmp X0 hx 204 (hb hby d0_110) (by decide) (by decide) (fun hT => ?_) (fun hT => ?_)
      · have hc46 := o_leT hT
        have q47 := q45.trans (if_neg hc46)
        show Go _ _ _ _ _ _ _ s₁ (mkF m 204 #[.val (.int i0)] [])
        exact B204 i0 q47
      · have hc46 := o_leF hT
        have q48 := q45.trans (if_pos hc46)
        show Go _ _ _ _ _ _ _ s₁ (mkF m 113 #[.val (.int i0)] [])
        exact B113 i0 q48
  have B85 : ∀ i0 : Int32, own_f p0 = own_f_85 i0 → Go p e below s ({ frames := 0, cells := 0, slots := 0, locals := 0 } : Room).cells ({ frames := 0, cells := 0, slots := 0, locals := 0 } : Room).slots (fun v h L => v = some (.int (own_f p0)) ∧ Fr n0 L ∧ h = h0) s₁ (mkF m 85 #[.val (.int i0)] []) := by
    intro i0 hq
    replace hq : own_f p0 = (if i0 < (880 : Int32) then (own_f_99 i0) else (if (893 : Int32) < i0 then (own_f_99 i0) else (own_f_204 i0))) := hq
    refine gIloadN X0 hx (hb hby d0_85) rfl ?_
    refine gSipush X0 hx (880 : Int32) (hb hby d0_86) rfl ?_
    refine gIcmp X0 hx 99 (hb hby d0_89) (by decide) (by decide) (fun hT => ?_) (fun hT => ?_)
    · have hc49 := o_ltT hT
      have q50 := hq.trans (if_pos hc49)
      show Go _ _ _ _ _ _ _ s₁ (mkF m 99 #[.val (.int i0)] [])
      exact B99 i0 q50
    · have hc49 := o_ltF hT
      have q51 := hq.trans (if_neg hc49)
      show Go _ _ _ _ _ _ _ s₁ (mkF m 92 #[.val (.int i0)] [])
      refine gIloadN X0 hx (hb hby d0_92) rfl ?_
      refine gSipush X0 hx (893 : Int32) (hb hby d0_93) rfl ?_
      refine gIcmp X0 hx 204 (hb hby d0_96) (by decide) (by decide) (fun hT => ?_) (fun hT => ?_)
      · have hc52 := o_leT hT
        have q53 := q51.trans (if_neg hc52)
        show Go _ _ _ _ _ _ _ s₁ (mkF m 204 #[.val (.int i0)] [])
        exact B204 i0 q53
      · have hc52 := o_leF hT
        have q54 := q51.trans (if_pos hc52)
        show Go _ _ _ _ _ _ _ s₁ (mkF m 99 #[.val (.int i0)] [])
        exact B99 i0 q54
  have B71 : ∀ i0 : Int32, own_f p0 = own_f_71 i0 → Go p e below s ({ frames := 0, cells := 0, slots := 0, locals := 0 } : Room).cells ({ frames := 0, cells := 0, slots := 0, locals := 0 } : Room).slots (fun v h L => v = some (.int (own_f p0)) ∧ Fr n0 L ∧ h = h0) s₁ (mkF m 71 #[.val (.int i0)] []) := by
    intro i0 hq
    replace hq : own_f p0 = (if i0 < (248 : Int32) then (own_f_85 i0) else (if (767 : Int32) < i0 then (own_f_85 i0) else (own_f_204 i0))) := hq
    refine gIloadN X0 hx (hb hby d0_71) rfl ?_
    refine gSipush X0 hx (248 : Int32) (hb hby d0_72) rfl ?_
    refine gIcmp X0 hx 85 (hb hby d0_75) (by decide) (by decide) (fun hT => ?_) (fun hT => ?_)
    · have hc55 := o_ltT hT
      have q56 := hq.trans (if_pos hc55)
      show Go _ _ _ _ _ _ _ s₁ (mkF m 85 #[.val (.int i0)] [])
      exact B85 i0 q56
    · have hc55 := o_ltF hT
      have q57 := hq.trans (if_neg hc55)
      show Go _ _ _ _ _ _ _ s₁ (mkF m 78 #[.val (.int i0)] [])
      refine gIloadN X0 hx (hb hby d0_78) rfl ?_
      refine gSipush X0 hx (767 : Int32) (hb hby d0_79) rfl ?_
      refine gIcmp X0 hx 204 (hb hby d0_82) (by decide) (by decide) (fun hT => ?_) (fun hT => ?_)
      · have hc58 := o_leT hT
        have q59 := q57.trans (if_neg hc58)
        show Go _ _ _ _ _ _ _ s₁ (mkF m 204 #[.val (.int i0)] [])
        exact B204 i0 q59
      · have hc58 := o_leF hT
        have q60 := q57.trans (if_pos hc58)
        show Go _ _ _ _ _ _ _ s₁ (mkF m 85 #[.val (.int i0)] [])
        exact B85 i0 q60
  have B57 : ∀ i0 : Int32, own_f p0 = own_f_57 i0 → Go p e below s ({ frames := 0, cells := 0, slots := 0, locals := 0 } : Room).cells ({ frames := 0, cells := 0, slots := 0, locals := 0 } : Room).slots (fun v h L => v = some (.int (own_f p0)) ∧ Fr n0 L ∧ h = h0) s₁ (mkF m 57 #[.val (.int i0)] []) := by
    intro i0 hq
    replace hq : own_f p0 = (if i0 < (216 : Int32) then (own_f_71 i0) else (if (246 : Int32) < i0 then (own_f_71 i0) else (own_f_204 i0))) := hq
    refine gIloadN X0 hx (hb hby d0_57) rfl ?_
    refine gSipush X0 hx (216 : Int32) (hb hby d0_58) rfl ?_
    refine gIcmp X0 hx 71 (hb hby d0_61) (by decide) (by decide) (fun hT => ?_) (fun hT => ?_)
    · have hc61 := o_ltT hT
      have q62 := hq.trans (if_pos hc61)
      show Go _ _ _ _ _ _ _ s₁ (mkF m 71 #[.val (.int i0)] [])
      exact B71 i0 q62
    · have hc61 := o_ltF hT
      have q63 := hq.trans (if_neg hc61)
      show Go _ _ _ _ _ _ _ s₁ (mkF m 64 #[.val (.int i0)] [])
      refine gIloadN X0 hx (hb hby d0_64) rfl ?_
      refine gSipush X0 hx (246 : Int32) (hb hby d0_65) rfl ?_
      refine gIcmp X0 hx 204 (hb hby d0_68) (by decide) (by decide) (fun hT => ?_) (fun hT => ?_)
      · have hc64 := o_leT hT
        have q65 := q63.trans (if_neg hc64)
        show Go _ _ _ _ _ _ _ s₁ (mkF m 204 #[.val (.int i0)] [])
        exact B204 i0 q65
      · have hc64 := o_leF hT
        have q66 := q63.trans (if_pos hc64)
        show Go _ _ _ _ _ _ _ s₁ (mkF m 71 #[.val (.int i0)] [])
        exact B71 i0 q66
  have B37 : ∀ i0 : Int32, own_f p0 = own_f_37 i0 → Go p e below s ({ frames := 0, cells := 0, slots := 0, locals := 0 } : Room).cells ({ frames := 0, cells := 0, slots := 0, locals := 0 } : Room).slots (fun v h L => v = some (.int (own_f p0)) ∧ Fr n0 L ∧ h = h0) s₁ (mkF m 37 #[.val (.int i0)] []) := by
    intro i0 hq
    replace hq : own_f p0 = ((1 : Int32)) := hq
    refine gIconst X0 hx (1 : Int32) (hb hby d0_37) rfl ?_
    refine gGoto X0 hx 42 (hb hby d0_38) (by decide) (by decide) ?_
    exact gRetZ X0 hx hlk hret (by simp) (hb hby d0_42) (z' := (1 : Int32)) rfl (by decide) (by decide) ⟨congrArg (fun z => some (Value.int z)) hq.symm, N0, e0⟩
  have B31 : ∀ i0 : Int32, own_f p0 = own_f_31 i0 → Go p e below s ({ frames := 0, cells := 0, slots := 0, locals := 0 } : Room).cells ({ frames := 0, cells := 0, slots := 0, locals := 0 } : Room).slots (fun v h L => v = some (.int (own_f p0)) ∧ Fr n0 L ∧ h = h0) s₁ (mkF m 31 #[.val (.int i0)] []) := by
    intro i0 hq
    replace hq : own_f p0 = (if i0 = (95 : Int32) then (own_f_37 i0) else (0 : Int32)) := hq
    refine gIloadN X0 hx (hb hby d0_31) rfl ?_
    refine gBipush X0 hx (95 : Int32) (hb hby d0_32) rfl ?_
    refine gIcmp X0 hx 41 (hb hby d0_34) (by decide) (by decide) (fun hT => ?_) (fun hT => ?_)
    · have hc67 := o_neT hT
      have q68 := hq.trans (if_neg hc67)
      show Go _ _ _ _ _ _ _ s₁ (mkF m 41 #[.val (.int i0)] [])
      refine gIconst X0 hx (0 : Int32) (hb hby d0_41) rfl ?_
      exact gRetZ X0 hx hlk hret (by simp) (hb hby d0_42) (z' := (0 : Int32)) rfl (by decide) (by decide) ⟨congrArg (fun z => some (Value.int z)) q68.symm, N0, e0⟩
    · have hc67 := o_neF hT
      have q69 := hq.trans (if_pos hc67)
      show Go _ _ _ _ _ _ _ s₁ (mkF m 37 #[.val (.int i0)] [])
      exact B37 i0 q69
  have B19 : ∀ i0 : Int32, own_f p0 = own_f_19 i0 → Go p e below s ({ frames := 0, cells := 0, slots := 0, locals := 0 } : Room).cells ({ frames := 0, cells := 0, slots := 0, locals := 0 } : Room).slots (fun v h L => v = some (.int (own_f p0)) ∧ Fr n0 L ∧ h = h0) s₁ (mkF m 19 #[.val (.int i0)] []) := by
    intro i0 hq
    replace hq : own_f p0 = (if i0 < (65 : Int32) then (own_f_31 i0) else (if (90 : Int32) < i0 then (own_f_31 i0) else (own_f_37 i0))) := hq
    refine gIloadN X0 hx (hb hby d0_19) rfl ?_
    refine gBipush X0 hx (65 : Int32) (hb hby d0_20) rfl ?_
    refine gIcmp X0 hx 31 (hb hby d0_22) (by decide) (by decide) (fun hT => ?_) (fun hT => ?_)
    · have hc70 := o_ltT hT
      have q71 := hq.trans (if_pos hc70)
      show Go _ _ _ _ _ _ _ s₁ (mkF m 31 #[.val (.int i0)] [])
      exact B31 i0 q71
    · have hc70 := o_ltF hT
      have q72 := hq.trans (if_neg hc70)
      show Go _ _ _ _ _ _ _ s₁ (mkF m 25 #[.val (.int i0)] [])
      refine gIloadN X0 hx (hb hby d0_25) rfl ?_
      refine gBipush X0 hx (90 : Int32) (hb hby d0_26) rfl ?_
      refine gIcmp X0 hx 37 (hb hby d0_28) (by decide) (by decide) (fun hT => ?_) (fun hT => ?_)
      · have hc73 := o_leT hT
        have q74 := q72.trans (if_neg hc73)
        show Go _ _ _ _ _ _ _ s₁ (mkF m 37 #[.val (.int i0)] [])
        exact B37 i0 q74
      · have hc73 := o_leF hT
        have q75 := q72.trans (if_pos hc73)
        show Go _ _ _ _ _ _ _ s₁ (mkF m 31 #[.val (.int i0)] [])
        exact B31 i0 q75
  have hq : own_f p0 = (if p0 < (128 : Int32) then (if p0 < (97 : Int32) then (own_f_19 p0) else (if (122 : Int32) < p0 then (own_f_19 p0) else (own_f_37 p0))) else (if p0 < (192 : Int32) then (own_f_57 p0) else (if (214 : Int32) < p0 then (own_f_57 p0) else (own_f_204 p0)))) := rfl
  refine gIloadN X0 hx (hb hby d0_0) rfl ?_
  refine gSipush X0 hx (128 : Int32) (hb hby d0_1) rfl ?_
  refine gIcmp X0 hx 43 (hb hby d0_4) (by decide) (by decide) (fun hT => ?_) (fun hT => ?_)
  · have hc76 := o_geT hT
    have q77 := hq.trans (if_neg hc76)
    show Go _ _ _ _ _ _ _ s₁ (mkF m 43 #[.val (.int p0)] [])
    refine gIloadN X0 hx (hb hby d0_43) rfl ?_
    refine gSipush X0 hx (192 : Int32) (hb hby d0_44) rfl ?_
    refine gIcmp X0 hx 57 (hb hby d0_47) (by decide) (by decide) (fun hT => ?_) (fun hT => ?_)
    · have hc78 := o_ltT hT
      have q79 := q77.trans (if_pos hc78)
      show Go _ _ _ _ _ _ _ s₁ (mkF m 57 #[.val (.int p0)] [])
      exact B57 p0 q79
    · have hc78 := o_ltF hT
      have q80 := q77.trans (if_neg hc78)
      show Go _ _ _ _ _ _ _ s₁ (mkF m 50 #[.val (.int p0)] [])
      refine gIloadN X0 hx (hb hby d0_50) rfl ?_
      refine gSipush X0 hx (214 : Int32) (hb hby d0_51) rfl ?_
      refine gIcmp X0 hx 204 (hb hby d0_54) (by decide) (by decide) (fun hT => ?_) (fun hT => ?_)
      · have hc81 := o_leT hT
        have q82 := q80.trans (if_neg hc81)
        show Go _ _ _ _ _ _ _ s₁ (mkF m 204 #[.val (.int p0)] [])
        exact B204 p0 q82
      · have hc81 := o_leF hT
        have q83 := q80.trans (if_pos hc81)
        show Go _ _ _ _ _ _ _ s₁ (mkF m 57 #[.val (.int p0)] [])
        exact B57 p0 q83
  · have hc76 := o_geF hT
    have q84 := hq.trans (if_pos hc76)
    show Go _ _ _ _ _ _ _ s₁ (mkF m 7 #[.val (.int p0)] [])
    refine gIloadN X0 hx (hb hby d0_7) rfl ?_
    refine gBipush X0 hx (97 : Int32) (hb hby d0_8) rfl ?_
    refine gIcmp X0 hx 19 (hb hby d0_10) (by decide) (by decide) (fun hT => ?_) (fun hT => ?_)
    · have hc85 := o_ltT hT
      have q86 := q84.trans (if_pos hc85)
      show Go _ _ _ _ _ _ _ s₁ (mkF m 19 #[.val (.int p0)] [])
      exact B19 p0 q86
    · have hc85 := o_ltF hT
      have q87 := q84.trans (if_neg hc85)
      show Go _ _ _ _ _ _ _ s₁ (mkF m 13 #[.val (.int p0)] [])
      refine gIloadN X0 hx (hb hby d0_13) rfl ?_
      refine gBipush X0 hx (122 : Int32) (hb hby d0_14) rfl ?_
      refine gIcmp X0 hx 37 (hb hby d0_16) (by decide) (by decide) (fun hT => ?_) (fun hT => ?_)
      · have hc88 := o_leT hT
        have q89 := q87.trans (if_neg hc88)
        show Go _ _ _ _ _ _ _ s₁ (mkF m 37 #[.val (.int p0)] [])
        exact B37 p0 q89
      · have hc88 := o_leF hT
        have q90 := q87.trans (if_pos hc88)
        show Go _ _ _ _ _ _ _ s₁ (mkF m 19 #[.val (.int p0)] [])
        exact B19 p0 q90
theorem d1_0 : decode method_2_code 0 = .ok (.iload_n 0, 1) := by decide +kernel
theorem d1_1 : decode method_2_code 1 = .ok (.ifCond .lt 9, 3) := by decide +kernel
theorem d1_4 : decode method_2_code 4 = .ok (.iload_n 0, 1) := by decide +kernel
theorem d1_5 : decode method_2_code 5 = .ok (.ldc 7, 2) := by decide +kernel
theorem d1_7 : decode method_2_code 7 = .ok (.if_icmp .le 5, 3) := by decide +kernel
theorem d1_10 : decode method_2_code 10 = .ok (.iconst 0, 1) := by decide +kernel
theorem d1_11 : decode method_2_code 11 = .ok (.ireturn, 1) := by decide +kernel
theorem d1_12 : decode method_2_code 12 = .ok (.iload_n 0, 1) := by decide +kernel
theorem d1_13 : decode method_2_code 13 = .ok (.bipush 64, 2) := by decide +kernel
theorem d1_15 : decode method_2_code 15 = .ok (.if_icmp .gt 5, 3) := by decide +kernel
theorem d1_18 : decode method_2_code 18 = .ok (.iconst 0, 1) := by decide +kernel
theorem d1_19 : decode method_2_code 19 = .ok (.ireturn, 1) := by decide +kernel
theorem d1_20 : decode method_2_code 20 = .ok (.iload_n 0, 1) := by decide +kernel
theorem d1_21 : decode method_2_code 21 = .ok (.bipush 91, 2) := by decide +kernel
theorem d1_23 : decode method_2_code 23 = .ok (.if_icmp .lt 11, 3) := by decide +kernel
theorem d1_26 : decode method_2_code 26 = .ok (.iload_n 0, 1) := by decide +kernel
theorem d1_27 : decode method_2_code 27 = .ok (.bipush 94, 2) := by decide +kernel
theorem d1_29 : decode method_2_code 29 = .ok (.if_icmp .gt 5, 3) := by decide +kernel
theorem d1_32 : decode method_2_code 32 = .ok (.iconst 0, 1) := by decide +kernel
theorem d1_33 : decode method_2_code 33 = .ok (.ireturn, 1) := by decide +kernel
theorem d1_34 : decode method_2_code 34 = .ok (.iload_n 0, 1) := by decide +kernel
theorem d1_35 : decode method_2_code 35 = .ok (.bipush 96, 2) := by decide +kernel
theorem d1_37 : decode method_2_code 37 = .ok (.if_icmp .ne 5, 3) := by decide +kernel
theorem d1_40 : decode method_2_code 40 = .ok (.iconst 0, 1) := by decide +kernel
theorem d1_41 : decode method_2_code 41 = .ok (.ireturn, 1) := by decide +kernel
theorem d1_42 : decode method_2_code 42 = .ok (.iload_n 0, 1) := by decide +kernel
theorem d1_43 : decode method_2_code 43 = .ok (.bipush 123, 2) := by decide +kernel
theorem d1_45 : decode method_2_code 45 = .ok (.if_icmp .lt 12, 3) := by decide +kernel
theorem d1_48 : decode method_2_code 48 = .ok (.iload_n 0, 1) := by decide +kernel
theorem d1_49 : decode method_2_code 49 = .ok (.sipush 191, 3) := by decide +kernel
theorem d1_52 : decode method_2_code 52 = .ok (.if_icmp .gt 5, 3) := by decide +kernel
theorem d1_55 : decode method_2_code 55 = .ok (.iconst 0, 1) := by decide +kernel
theorem d1_56 : decode method_2_code 56 = .ok (.ireturn, 1) := by decide +kernel
theorem d1_57 : decode method_2_code 57 = .ok (.iload_n 0, 1) := by decide +kernel
theorem d1_58 : decode method_2_code 58 = .ok (.sipush 215, 3) := by decide +kernel
theorem d1_61 : decode method_2_code 61 = .ok (.if_icmp .eq 10, 3) := by decide +kernel
theorem d1_64 : decode method_2_code 64 = .ok (.iload_n 0, 1) := by decide +kernel
theorem d1_65 : decode method_2_code 65 = .ok (.sipush 247, 3) := by decide +kernel
theorem d1_68 : decode method_2_code 68 = .ok (.if_icmp .ne 5, 3) := by decide +kernel
theorem d1_71 : decode method_2_code 71 = .ok (.iconst 0, 1) := by decide +kernel
theorem d1_72 : decode method_2_code 72 = .ok (.ireturn, 1) := by decide +kernel
theorem d1_73 : decode method_2_code 73 = .ok (.iload_n 0, 1) := by decide +kernel
theorem d1_74 : decode method_2_code 74 = .ok (.sipush 768, 3) := by decide +kernel
theorem d1_77 : decode method_2_code 77 = .ok (.if_icmp .lt 12, 3) := by decide +kernel
theorem d1_80 : decode method_2_code 80 = .ok (.iload_n 0, 1) := by decide +kernel
theorem d1_81 : decode method_2_code 81 = .ok (.sipush 879, 3) := by decide +kernel
theorem d1_84 : decode method_2_code 84 = .ok (.if_icmp .gt 5, 3) := by decide +kernel
theorem d1_87 : decode method_2_code 87 = .ok (.iconst 0, 1) := by decide +kernel
theorem d1_88 : decode method_2_code 88 = .ok (.ireturn, 1) := by decide +kernel
theorem d1_89 : decode method_2_code 89 = .ok (.iload_n 0, 1) := by decide +kernel
theorem d1_90 : decode method_2_code 90 = .ok (.sipush 894, 3) := by decide +kernel
theorem d1_93 : decode method_2_code 93 = .ok (.if_icmp .ne 5, 3) := by decide +kernel
theorem d1_96 : decode method_2_code 96 = .ok (.iconst 0, 1) := by decide +kernel
theorem d1_97 : decode method_2_code 97 = .ok (.ireturn, 1) := by decide +kernel
theorem d1_98 : decode method_2_code 98 = .ok (.iload_n 0, 1) := by decide +kernel
theorem d1_99 : decode method_2_code 99 = .ok (.sipush 8192, 3) := by decide +kernel
theorem d1_102 : decode method_2_code 102 = .ok (.if_icmp .lt 12, 3) := by decide +kernel
theorem d1_105 : decode method_2_code 105 = .ok (.iload_n 0, 1) := by decide +kernel
theorem d1_106 : decode method_2_code 106 = .ok (.sipush 8203, 3) := by decide +kernel
theorem d1_109 : decode method_2_code 109 = .ok (.if_icmp .gt 5, 3) := by decide +kernel
theorem d1_112 : decode method_2_code 112 = .ok (.iconst 0, 1) := by decide +kernel
theorem d1_113 : decode method_2_code 113 = .ok (.ireturn, 1) := by decide +kernel
theorem d1_114 : decode method_2_code 114 = .ok (.iload_n 0, 1) := by decide +kernel
theorem d1_115 : decode method_2_code 115 = .ok (.sipush 8206, 3) := by decide +kernel
theorem d1_118 : decode method_2_code 118 = .ok (.if_icmp .lt 12, 3) := by decide +kernel
theorem d1_121 : decode method_2_code 121 = .ok (.iload_n 0, 1) := by decide +kernel
theorem d1_122 : decode method_2_code 122 = .ok (.sipush 8303, 3) := by decide +kernel
theorem d1_125 : decode method_2_code 125 = .ok (.if_icmp .gt 5, 3) := by decide +kernel
theorem d1_128 : decode method_2_code 128 = .ok (.iconst 0, 1) := by decide +kernel
theorem d1_129 : decode method_2_code 129 = .ok (.ireturn, 1) := by decide +kernel
theorem d1_130 : decode method_2_code 130 = .ok (.iload_n 0, 1) := by decide +kernel
theorem d1_131 : decode method_2_code 131 = .ok (.sipush 8592, 3) := by decide +kernel
theorem d1_134 : decode method_2_code 134 = .ok (.if_icmp .lt 12, 3) := by decide +kernel
theorem d1_137 : decode method_2_code 137 = .ok (.iload_n 0, 1) := by decide +kernel
theorem d1_138 : decode method_2_code 138 = .ok (.sipush 11263, 3) := by decide +kernel
theorem d1_141 : decode method_2_code 141 = .ok (.if_icmp .gt 5, 3) := by decide +kernel
theorem d1_144 : decode method_2_code 144 = .ok (.iconst 0, 1) := by decide +kernel
theorem d1_145 : decode method_2_code 145 = .ok (.ireturn, 1) := by decide +kernel
theorem d1_146 : decode method_2_code 146 = .ok (.iload_n 0, 1) := by decide +kernel
theorem d1_147 : decode method_2_code 147 = .ok (.sipush 12272, 3) := by decide +kernel
theorem d1_150 : decode method_2_code 150 = .ok (.if_icmp .lt 12, 3) := by decide +kernel
theorem d1_153 : decode method_2_code 153 = .ok (.iload_n 0, 1) := by decide +kernel
theorem d1_154 : decode method_2_code 154 = .ok (.sipush 12288, 3) := by decide +kernel
theorem d1_157 : decode method_2_code 157 = .ok (.if_icmp .gt 5, 3) := by decide +kernel
theorem d1_160 : decode method_2_code 160 = .ok (.iconst 0, 1) := by decide +kernel
theorem d1_161 : decode method_2_code 161 = .ok (.ireturn, 1) := by decide +kernel
theorem d1_162 : decode method_2_code 162 = .ok (.iload_n 0, 1) := by decide +kernel
theorem d1_163 : decode method_2_code 163 = .ok (.ldc 8, 2) := by decide +kernel
theorem d1_165 : decode method_2_code 165 = .ok (.if_icmp .lt 11, 3) := by decide +kernel
theorem d1_168 : decode method_2_code 168 = .ok (.iload_n 0, 1) := by decide +kernel
theorem d1_169 : decode method_2_code 169 = .ok (.ldc 9, 2) := by decide +kernel
theorem d1_171 : decode method_2_code 171 = .ok (.if_icmp .gt 5, 3) := by decide +kernel
theorem d1_174 : decode method_2_code 174 = .ok (.iconst 0, 1) := by decide +kernel
theorem d1_175 : decode method_2_code 175 = .ok (.ireturn, 1) := by decide +kernel
theorem d1_176 : decode method_2_code 176 = .ok (.iload_n 0, 1) := by decide +kernel
theorem d1_177 : decode method_2_code 177 = .ok (.ldc 10, 2) := by decide +kernel
theorem d1_179 : decode method_2_code 179 = .ok (.if_icmp .lt 11, 3) := by decide +kernel
theorem d1_182 : decode method_2_code 182 = .ok (.iload_n 0, 1) := by decide +kernel
theorem d1_183 : decode method_2_code 183 = .ok (.ldc 11, 2) := by decide +kernel
theorem d1_185 : decode method_2_code 185 = .ok (.if_icmp .gt 5, 3) := by decide +kernel
theorem d1_188 : decode method_2_code 188 = .ok (.iconst 0, 1) := by decide +kernel
theorem d1_189 : decode method_2_code 189 = .ok (.ireturn, 1) := by decide +kernel
theorem d1_190 : decode method_2_code 190 = .ok (.iload_n 0, 1) := by decide +kernel
theorem d1_191 : decode method_2_code 191 = .ok (.ldc 12, 2) := by decide +kernel
theorem d1_193 : decode method_2_code 193 = .ok (.if_icmp .lt 11, 3) := by decide +kernel
theorem d1_196 : decode method_2_code 196 = .ok (.iload_n 0, 1) := by decide +kernel
theorem d1_197 : decode method_2_code 197 = .ok (.ldc 13, 2) := by decide +kernel
theorem d1_199 : decode method_2_code 199 = .ok (.if_icmp .gt 5, 3) := by decide +kernel
theorem d1_202 : decode method_2_code 202 = .ok (.iconst 0, 1) := by decide +kernel
theorem d1_203 : decode method_2_code 203 = .ok (.ireturn, 1) := by decide +kernel
theorem d1_204 : decode method_2_code 204 = .ok (.iconst 1, 1) := by decide +kernel
theorem d1_205 : decode method_2_code 205 = .ok (.ireturn, 1) := by decide +kernel
theorem own_pn1 : plainFor (⟨"com/example/deep_query/deepquery/xdm/XmlCharsIsNameStartCharPinLaw", "ref", "(I)Z"⟩ : MethodName) = true := plainFor_of_name (by first | (simp [plainName, overriddenIn]; done) | decide +kernel)
theorem own_ef1 (p0 : Int32) (m : MethodId) : entryFrame m #[(.int p0)] 1 = mkF m 0 #[.val (.int p0)] [] := by first | (simp [entryFrame, mkF, argsToLocals, Value.category]; done) | rfl
def own_r_204 (i0 : Int32) : Int32 := (1 : Int32)
def own_r_190 (i0 : Int32) : Int32 := if i0 < (65534 : Int32) then (own_r_204 i0) else (if (65535 : Int32) < i0 then (own_r_204 i0) else (0 : Int32))
def own_r_176 (i0 : Int32) : Int32 := if i0 < (64976 : Int32) then (own_r_190 i0) else (if (65007 : Int32) < i0 then (own_r_190 i0) else (0 : Int32))
def own_r_162 (i0 : Int32) : Int32 := if i0 < (55296 : Int32) then (own_r_176 i0) else (if (63743 : Int32) < i0 then (own_r_176 i0) else (0 : Int32))
def own_r_146 (i0 : Int32) : Int32 := if i0 < (12272 : Int32) then (own_r_162 i0) else (if (12288 : Int32) < i0 then (own_r_162 i0) else (0 : Int32))
def own_r_130 (i0 : Int32) : Int32 := if i0 < (8592 : Int32) then (own_r_146 i0) else (if (11263 : Int32) < i0 then (own_r_146 i0) else (0 : Int32))
def own_r_114 (i0 : Int32) : Int32 := if i0 < (8206 : Int32) then (own_r_130 i0) else (if (8303 : Int32) < i0 then (own_r_130 i0) else (0 : Int32))
def own_r_89 (i0 : Int32) : Int32 := if i0 = (894 : Int32) then (0 : Int32) else (if i0 < (8192 : Int32) then (own_r_114 i0) else (if (8203 : Int32) < i0 then (own_r_114 i0) else (0 : Int32)))
def own_r_71 (i0 : Int32) : Int32 := (0 : Int32)
def own_r_57 (i0 : Int32) : Int32 := if i0 = (215 : Int32) then (own_r_71 i0) else (if i0 = (247 : Int32) then (own_r_71 i0) else (if i0 < (768 : Int32) then (own_r_89 i0) else (if (879 : Int32) < i0 then (own_r_89 i0) else (0 : Int32))))
def own_r_34 (i0 : Int32) : Int32 := if i0 = (96 : Int32) then (0 : Int32) else (if i0 < (123 : Int32) then (own_r_57 i0) else (if (191 : Int32) < i0 then (own_r_57 i0) else (0 : Int32)))
def own_r_10 (i0 : Int32) : Int32 := (0 : Int32)
def own_r (p0 : Int32) : Int32 := if p0 < (0 : Int32) then (own_r_10 p0) else (if (983039 : Int32) < p0 then (own_r_10 p0) else (if (64 : Int32) < p0 then (if p0 < (91 : Int32) then (own_r_34 p0) else (if (94 : Int32) < p0 then (own_r_34 p0) else (0 : Int32))) else (0 : Int32)))
set_option maxRecDepth 65536 in
set_option maxHeartbeats 40000000 in
theorem own_rm1 (l : Launch) (Z : State) (a0 : Array Value) (hw : ∀ d ∈ tables_1, d.before a0 Z = true) (p0 : Int32) (h0 : Heap) (n0 : Nat) (Z0 : n0 ≤ h0.size)  :
    Met l Z (⟨"com/example/deep_query/deepquery/xdm/XmlCharsIsNameStartCharPinLaw", "ref", "(I)Z"⟩ : MethodName) method_2_code 1 (some .boolean) [] ({ frames := 0, cells := 0, slots := 0, locals := 0 } : Room) #[(.int p0)] h0 (fun v h L => v = some (.int (own_r p0)) ∧ Fr n0 L ∧ h = h0) := by
  refine met_of (Ls := #[.val (.int p0)]) own_pn1 (own_ef1 p0) ?_
  intro p e s m below meth c s₁ hx hby hml hown hnm hret hlk hZ X0 e0
  have N0 := Fr.nil n0
  have B204 : ∀ i0 : Int32, own_r p0 = own_r_204 i0 → Go p e below s ({ frames := 0, cells := 0, slots := 0, locals := 0 } : Room).cells ({ frames := 0, cells := 0, slots := 0, locals := 0 } : Room).slots (fun v h L => v = some (.int (own_r p0)) ∧ Fr n0 L ∧ h = h0) s₁ (mkF m 204 #[.val (.int i0)] []) := by
    intro i0 hq
    replace hq : own_r p0 = ((1 : Int32)) := hq
    refine gIconst X0 hx (1 : Int32) (hb hby d1_204) rfl ?_
    exact gRetZ X0 hx hlk hret (by simp) (hb hby d1_205) (z' := (1 : Int32)) rfl (by decide) (by decide) ⟨congrArg (fun z => some (Value.int z)) hq.symm, N0, e0⟩
  have B190 : ∀ i0 : Int32, own_r p0 = own_r_190 i0 → Go p e below s ({ frames := 0, cells := 0, slots := 0, locals := 0 } : Room).cells ({ frames := 0, cells := 0, slots := 0, locals := 0 } : Room).slots (fun v h L => v = some (.int (own_r p0)) ∧ Fr n0 L ∧ h = h0) s₁ (mkF m 190 #[.val (.int i0)] []) := by
    intro i0 hq
    replace hq : own_r p0 = (if i0 < (65534 : Int32) then (own_r_204 i0) else (if (65535 : Int32) < i0 then (own_r_204 i0) else (0 : Int32))) := hq
    refine gIloadN X0 hx (hb hby d1_190) rfl ?_
    refine gLdc X0 hx hZ (65534 : Int32) hown (tw hw 27 rfl) (hb hby d1_191) ?_
    refine gIcmp X0 hx 204 (hb hby d1_193) (by decide) (by decide) (fun hT => ?_) (fun hT => ?_)
    · have hc1 := o_ltT hT
      have q2 := hq.trans (if_pos hc1)
      show Go _ _ _ _ _ _ _ s₁ (mkF m 204 #[.val (.int i0)] [])
      exact B204 i0 q2
    · have hc1 := o_ltF hT
      have q3 := hq.trans (if_neg hc1)
      show Go _ _ _ _ _ _ _ s₁ (mkF m 196 #[.val (.int i0)] [])
      refine gIloadN X0 hx (hb hby d1_196) rfl ?_
      refine gLdc X0 hx hZ (65535 : Int32) hown (tw hw 30 rfl) (hb hby d1_197) ?_
      refine gIcmp X0 hx 204 (hb hby d1_199) (by decide) (by decide) (fun hT => ?_) (fun hT => ?_)
      · have hc4 := o_gtT hT
        have q5 := q3.trans (if_pos hc4)
        show Go _ _ _ _ _ _ _ s₁ (mkF m 204 #[.val (.int i0)] [])
        exact B204 i0 q5
      · have hc4 := o_gtF hT
        have q6 := q3.trans (if_neg hc4)
        show Go _ _ _ _ _ _ _ s₁ (mkF m 202 #[.val (.int i0)] [])
        refine gIconst X0 hx (0 : Int32) (hb hby d1_202) rfl ?_
        exact gRetZ X0 hx hlk hret (by simp) (hb hby d1_203) (z' := (0 : Int32)) rfl (by decide) (by decide) ⟨congrArg (fun z => some (Value.int z)) q6.symm, N0, e0⟩
  have B176 : ∀ i0 : Int32, own_r p0 = own_r_176 i0 → Go p e below s ({ frames := 0, cells := 0, slots := 0, locals := 0 } : Room).cells ({ frames := 0, cells := 0, slots := 0, locals := 0 } : Room).slots (fun v h L => v = some (.int (own_r p0)) ∧ Fr n0 L ∧ h = h0) s₁ (mkF m 176 #[.val (.int i0)] []) := by
    intro i0 hq
    replace hq : own_r p0 = (if i0 < (64976 : Int32) then (own_r_190 i0) else (if (65007 : Int32) < i0 then (own_r_190 i0) else (0 : Int32))) := hq
    refine gIloadN X0 hx (hb hby d1_176) rfl ?_
    refine gLdc X0 hx hZ (64976 : Int32) hown (tw hw 26 rfl) (hb hby d1_177) ?_
    refine gIcmp X0 hx 190 (hb hby d1_179) (by decide) (by decide) (fun hT => ?_) (fun hT => ?_)
    · have hc7 := o_ltT hT
      have q8 := hq.trans (if_pos hc7)
      show Go _ _ _ _ _ _ _ s₁ (mkF m 190 #[.val (.int i0)] [])
      exact B190 i0 q8
    · have hc7 := o_ltF hT
      have q9 := hq.trans (if_neg hc7)
      show Go _ _ _ _ _ _ _ s₁ (mkF m 182 #[.val (.int i0)] [])
      refine gIloadN X0 hx (hb hby d1_182) rfl ?_
      refine gLdc X0 hx hZ (65007 : Int32) hown (tw hw 29 rfl) (hb hby d1_183) ?_
      refine gIcmp X0 hx 190 (hb hby d1_185) (by decide) (by decide) (fun hT => ?_) (fun hT => ?_)
      · have hc10 := o_gtT hT
        have q11 := q9.trans (if_pos hc10)
        show Go _ _ _ _ _ _ _ s₁ (mkF m 190 #[.val (.int i0)] [])
        exact B190 i0 q11
      · have hc10 := o_gtF hT
        have q12 := q9.trans (if_neg hc10)
        show Go _ _ _ _ _ _ _ s₁ (mkF m 188 #[.val (.int i0)] [])
        refine gIconst X0 hx (0 : Int32) (hb hby d1_188) rfl ?_
        exact gRetZ X0 hx hlk hret (by simp) (hb hby d1_189) (z' := (0 : Int32)) rfl (by decide) (by decide) ⟨congrArg (fun z => some (Value.int z)) q12.symm, N0, e0⟩
  have B162 : ∀ i0 : Int32, own_r p0 = own_r_162 i0 → Go p e below s ({ frames := 0, cells := 0, slots := 0, locals := 0 } : Room).cells ({ frames := 0, cells := 0, slots := 0, locals := 0 } : Room).slots (fun v h L => v = some (.int (own_r p0)) ∧ Fr n0 L ∧ h = h0) s₁ (mkF m 162 #[.val (.int i0)] []) := by
    intro i0 hq
    replace hq : own_r p0 = (if i0 < (55296 : Int32) then (own_r_176 i0) else (if (63743 : Int32) < i0 then (own_r_176 i0) else (0 : Int32))) := hq
    refine gIloadN X0 hx (hb hby d1_162) rfl ?_
    refine gLdc X0 hx hZ (55296 : Int32) hown (tw hw 25 rfl) (hb hby d1_163) ?_
    refine gIcmp X0 hx 176 (hb hby d1_165) (by decide) (by decide) (fun hT => ?_) (fun hT => ?_)
    · have hc13 := o_ltT hT
      have q14 := hq.trans (if_pos hc13)
      show Go _ _ _ _ _ _ _ s₁ (mkF m 176 #[.val (.int i0)] [])
      exact B176 i0 q14
    · have hc13 := o_ltF hT
      have q15 := hq.trans (if_neg hc13)
      show Go _ _ _ _ _ _ _ s₁ (mkF m 168 #[.val (.int i0)] [])
      refine gIloadN X0 hx (hb hby d1_168) rfl ?_
      refine gLdc X0 hx hZ (63743 : Int32) hown (tw hw 28 rfl) (hb hby d1_169) ?_
      refine gIcmp X0 hx 176 (hb hby d1_171) (by decide) (by decide) (fun hT => ?_) (fun hT => ?_)
      · have hc16 := o_gtT hT
        have q17 := q15.trans (if_pos hc16)
        show Go _ _ _ _ _ _ _ s₁ (mkF m 176 #[.val (.int i0)] [])
        exact B176 i0 q17
      · have hc16 := o_gtF hT
        have q18 := q15.trans (if_neg hc16)
        show Go _ _ _ _ _ _ _ s₁ (mkF m 174 #[.val (.int i0)] [])
        refine gIconst X0 hx (0 : Int32) (hb hby d1_174) rfl ?_
        exact gRetZ X0 hx hlk hret (by simp) (hb hby d1_175) (z' := (0 : Int32)) rfl (by decide) (by decide) ⟨congrArg (fun z => some (Value.int z)) q18.symm, N0, e0⟩
  have B146 : ∀ i0 : Int32, own_r p0 = own_r_146 i0 → Go p e below s ({ frames := 0, cells := 0, slots := 0, locals := 0 } : Room).cells ({ frames := 0, cells := 0, slots := 0, locals := 0 } : Room).slots (fun v h L => v = some (.int (own_r p0)) ∧ Fr n0 L ∧ h = h0) s₁ (mkF m 146 #[.val (.int i0)] []) := by
    intro i0 hq
    replace hq : own_r p0 = (if i0 < (12272 : Int32) then (own_r_162 i0) else (if (12288 : Int32) < i0 then (own_r_162 i0) else (0 : Int32))) := hq
    refine gIloadN X0 hx (hb hby d1_146) rfl ?_
    refine gSipush X0 hx (12272 : Int32) (hb hby d1_147) rfl ?_
    refine gIcmp X0 hx 162 (hb hby d1_150) (by decide) (by decide) (fun hT => ?_) (fun hT => ?_)
    · have hc19 := o_ltT hT
      have q20 := hq.trans (if_pos hc19)
      show Go _ _ _ _ _ _ _ s₁ (mkF m 162 #[.val (.int i0)] [])
      exact B162 i0 q20
    · have hc19 := o_ltF hT
      have q21 := hq.trans (if_neg hc19)
      show Go _ _ _ _ _ _ _ s₁ (mkF m 153 #[.val (.int i0)] [])
      refine gIloadN X0 hx (hb hby d1_153) rfl ?_
      refine gSipush X0 hx (12288 : Int32) (hb hby d1_154) rfl ?_
      refine gIcmp X0 hx 162 (hb hby d1_157) (by decide) (by decide) (fun hT => ?_) (fun hT => ?_)
      · have hc22 := o_gtT hT
        have q23 := q21.trans (if_pos hc22)
        show Go _ _ _ _ _ _ _ s₁ (mkF m 162 #[.val (.int i0)] [])
        exact B162 i0 q23
      · have hc22 := o_gtF hT
        have q24 := q21.trans (if_neg hc22)
        show Go _ _ _ _ _ _ _ s₁ (mkF m 160 #[.val (.int i0)] [])
        refine gIconst X0 hx (0 : Int32) (hb hby d1_160) rfl ?_
        exact gRetZ X0 hx hlk hret (by simp) (hb hby d1_161) (z' := (0 : Int32)) rfl (by decide) (by decide) ⟨congrArg (fun z => some (Value.int z)) q24.symm, N0, e0⟩
  have B130 : ∀ i0 : Int32, own_r p0 = own_r_130 i0 → Go p e below s ({ frames := 0, cells := 0, slots := 0, locals := 0 } : Room).cells ({ frames := 0, cells := 0, slots := 0, locals := 0 } : Room).slots (fun v h L => v = some (.int (own_r p0)) ∧ Fr n0 L ∧ h = h0) s₁ (mkF m 130 #[.val (.int i0)] []) := by
    intro i0 hq
    replace hq : own_r p0 = (if i0 < (8592 : Int32) then (own_r_146 i0) else (if (11263 : Int32) < i0 then (own_r_146 i0) else (0 : Int32))) := hq
    refine gIloadN X0 hx (hb hby d1_130) rfl ?_
    refine gSipush X0 hx (8592 : Int32) (hb hby d1_131) rfl ?_
    refine gIcmp X0 hx 146 (hb hby d1_134) (by decide) (by decide) (fun hT => ?_) (fun hT => ?_)
    · have hc25 := o_ltT hT
      have q26 := hq.trans (if_pos hc25)
      show Go _ _ _ _ _ _ _ s₁ (mkF m 146 #[.val (.int i0)] [])
      exact B146 i0 q26
    · have hc25 := o_ltF hT
      have q27 := hq.trans (if_neg hc25)
      show Go _ _ _ _ _ _ _ s₁ (mkF m 137 #[.val (.int i0)] [])
      refine gIloadN X0 hx (hb hby d1_137) rfl ?_
      refine gSipush X0 hx (11263 : Int32) (hb hby d1_138) rfl ?_
      refine gIcmp X0 hx 146 (hb hby d1_141) (by decide) (by decide) (fun hT => ?_) (fun hT => ?_)
      · have hc28 := o_gtT hT
        have q29 := q27.trans (if_pos hc28)
        show Go _ _ _ _ _ _ _ s₁ (mkF m 146 #[.val (.int i0)] [])
        exact B146 i0 q29
      · have hc28 := o_gtF hT
        have q30 := q27.trans (if_neg hc28)
        show Go _ _ _ _ _ _ _ s₁ (mkF m 144 #[.val (.int i0)] [])
        refine gIconst X0 hx (0 : Int32) (hb hby d1_144) rfl ?_
        exact gRetZ X0 hx hlk hret (by simp) (hb hby d1_145) (z' := (0 : Int32)) rfl (by decide) (by decide) ⟨congrArg (fun z => some (Value.int z)) q30.symm, N0, e0⟩
  have B114 : ∀ i0 : Int32, own_r p0 = own_r_114 i0 → Go p e below s ({ frames := 0, cells := 0, slots := 0, locals := 0 } : Room).cells ({ frames := 0, cells := 0, slots := 0, locals := 0 } : Room).slots (fun v h L => v = some (.int (own_r p0)) ∧ Fr n0 L ∧ h = h0) s₁ (mkF m 114 #[.val (.int i0)] []) := by
    intro i0 hq
    replace hq : own_r p0 = (if i0 < (8206 : Int32) then (own_r_130 i0) else (if (8303 : Int32) < i0 then (own_r_130 i0) else (0 : Int32))) := hq
    refine gIloadN X0 hx (hb hby d1_114) rfl ?_
    refine gSipush X0 hx (8206 : Int32) (hb hby d1_115) rfl ?_
    refine gIcmp X0 hx 130 (hb hby d1_118) (by decide) (by decide) (fun hT => ?_) (fun hT => ?_)
    · have hc31 := o_ltT hT
      have q32 := hq.trans (if_pos hc31)
      show Go _ _ _ _ _ _ _ s₁ (mkF m 130 #[.val (.int i0)] [])
      exact B130 i0 q32
    · have hc31 := o_ltF hT
      have q33 := hq.trans (if_neg hc31)
      show Go _ _ _ _ _ _ _ s₁ (mkF m 121 #[.val (.int i0)] [])
      refine gIloadN X0 hx (hb hby d1_121) rfl ?_
      refine gSipush X0 hx (8303 : Int32) (hb hby d1_122) rfl ?_
      refine gIcmp X0 hx 130 (hb hby d1_125) (by decide) (by decide) (fun hT => ?_) (fun hT => ?_)
      · have hc34 := o_gtT hT
        have q35 := q33.trans (if_pos hc34)
        show Go _ _ _ _ _ _ _ s₁ (mkF m 130 #[.val (.int i0)] [])
        exact B130 i0 q35
      · have hc34 := o_gtF hT
        have q36 := q33.trans (if_neg hc34)
        show Go _ _ _ _ _ _ _ s₁ (mkF m 128 #[.val (.int i0)] [])
        refine gIconst X0 hx (0 : Int32) (hb hby d1_128) rfl ?_
        exact gRetZ X0 hx hlk hret (by simp) (hb hby d1_129) (z' := (0 : Int32)) rfl (by decide) (by decide) ⟨congrArg (fun z => some (Value.int z)) q36.symm, N0, e0⟩
  have B89 : ∀ i0 : Int32, own_r p0 = own_r_89 i0 → Go p e below s ({ frames := 0, cells := 0, slots := 0, locals := 0 } : Room).cells ({ frames := 0, cells := 0, slots := 0, locals := 0 } : Room).slots (fun v h L => v = some (.int (own_r p0)) ∧ Fr n0 L ∧ h = h0) s₁ (mkF m 89 #[.val (.int i0)] []) := by
    intro i0 hq
    replace hq : own_r p0 = (if i0 = (894 : Int32) then (0 : Int32) else (if i0 < (8192 : Int32) then (own_r_114 i0) else (if (8203 : Int32) < i0 then (own_r_114 i0) else (0 : Int32)))) := hq
    refine gIloadN X0 hx (hb hby d1_89) rfl ?_
    refine gSipush X0 hx (894 : Int32) (hb hby d1_90) rfl ?_
    refine gIcmp X0 hx 98 (hb hby d1_93) (by decide) (by decide) (fun hT => ?_) (fun hT => ?_)
    · have hc37 := o_neT hT
      have q38 := hq.trans (if_neg hc37)
      show Go _ _ _ _ _ _ _ s₁ (mkF m 98 #[.val (.int i0)] [])
      refine gIloadN X0 hx (hb hby d1_98) rfl ?_
      refine gSipush X0 hx (8192 : Int32) (hb hby d1_99) rfl ?_
      refine gIcmp X0 hx 114 (hb hby d1_102) (by decide) (by decide) (fun hT => ?_) (fun hT => ?_)
      · have hc39 := o_ltT hT
        have q40 := q38.trans (if_pos hc39)
        show Go _ _ _ _ _ _ _ s₁ (mkF m 114 #[.val (.int i0)] [])
        exact B114 i0 q40
      · have hc39 := o_ltF hT
        have q41 := q38.trans (if_neg hc39)
        show Go _ _ _ _ _ _ _ s₁ (mkF m 105 #[.val (.int i0)] [])
        refine gIloadN X0 hx (hb hby d1_105) rfl ?_
        refine gSipush X0 hx (8203 : Int32) (hb hby d1_106) rfl ?_
        refine gIcmp X0 hx 114 (hb hby d1_109) (by decide) (by decide) (fun hT => ?_) (fun hT => ?_)
        · have hc42 := o_gtT hT
          have q43 := q41.trans (if_pos hc42)
          show Go _ _ _ _ _ _ _ s₁ (mkF m 114 #[.val (.int i0)] [])
          exact B114 i0 q43
        · have hc42 := o_gtF hT
          have q44 := q41.trans (if_neg hc42)
          show Go _ _ _ _ _ _ _ s₁ (mkF m 112 #[.val (.int i0)] [])
          refine gIconst X0 hx (0 : Int32) (hb hby d1_112) rfl ?_
          exact gRetZ X0 hx hlk hret (by simp) (hb hby d1_113) (z' := (0 : Int32)) rfl (by decide) (by decide) ⟨congrArg (fun z => some (Value.int z)) q44.symm, N0, e0⟩
    · have hc37 := o_neF hT
      have q45 := hq.trans (if_pos hc37)
      show Go _ _ _ _ _ _ _ s₁ (mkF m 96 #[.val (.int i0)] [])
      refine gIconst X0 hx (0 : Int32) (hb hby d1_96) rfl ?_
      exact gRetZ X0 hx hlk hret (by simp) (hb hby d1_97) (z' := (0 : Int32)) rfl (by decide) (by decide) ⟨congrArg (fun z => some (Value.int z)) q45.symm, N0, e0⟩
  have B71 : ∀ i0 : Int32, own_r p0 = own_r_71 i0 → Go p e below s ({ frames := 0, cells := 0, slots := 0, locals := 0 } : Room).cells ({ frames := 0, cells := 0, slots := 0, locals := 0 } : Room).slots (fun v h L => v = some (.int (own_r p0)) ∧ Fr n0 L ∧ h = h0) s₁ (mkF m 71 #[.val (.int i0)] []) := by
    intro i0 hq
    replace hq : own_r p0 = ((0 : Int32)) := hq
    refine gIconst X0 hx (0 : Int32) (hb hby d1_71) rfl ?_
    exact gRetZ X0 hx hlk hret (by simp) (hb hby d1_72) (z' := (0 : Int32)) rfl (by decide) (by decide) ⟨congrArg (fun z => some (Value.int z)) hq.symm, N0, e0⟩
  have B57 : ∀ i0 : Int32, own_r p0 = own_r_57 i0 → Go p e below s ({ frames := 0, cells := 0, slots := 0, locals := 0 } : Room).cells ({ frames := 0, cells := 0, slots := 0, locals := 0 } : Room).slots (fun v h L => v = some (.int (own_r p0)) ∧ Fr n0 L ∧ h = h0) s₁ (mkF m 57 #[.val (.int i0)] []) := by
    intro i0 hq
    replace hq : own_r p0 = (if i0 = (215 : Int32) then (own_r_71 i0) else (if i0 = (247 : Int32) then (own_r_71 i0) else (if i0 < (768 : Int32) then (own_r_89 i0) else (if (879 : Int32) < i0 then (own_r_89 i0) else (0 : Int32))))) := hq
    refine gIloadN X0 hx (hb hby d1_57) rfl ?_
    refine gSipush X0 hx (215 : Int32) (hb hby d1_58) rfl ?_
    refine gIcmp X0 hx 71 (hb hby d1_61) (by decide) (by decide) (fun hT => ?_) (fun hT => ?_)
    · have hc46 := o_eqT hT
      have q47 := hq.trans (if_pos hc46)
      show Go _ _ _ _ _ _ _ s₁ (mkF m 71 #[.val (.int i0)] [])
      exact B71 i0 q47
    · have hc46 := o_eqF hT
      have q48 := hq.trans (if_neg hc46)
      show Go _ _ _ _ _ _ _ s₁ (mkF m 64 #[.val (.int i0)] [])
      refine gIloadN X0 hx (hb hby d1_64) rfl ?_
      refine gSipush X0 hx (247 : Int32) (hb hby d1_65) rfl ?_
      refine gIcmp X0 hx 73 (hb hby d1_68) (by decide) (by decide) (fun hT => ?_) (fun hT => ?_)
      · have hc49 := o_neT hT
        have q50 := q48.trans (if_neg hc49)
        show Go _ _ _ _ _ _ _ s₁ (mkF m 73 #[.val (.int i0)] [])
        refine gIloadN X0 hx (hb hby d1_73) rfl ?_
        refine gSipush X0 hx (768 : Int32) (hb hby d1_74) rfl ?_
        refine gIcmp X0 hx 89 (hb hby d1_77) (by decide) (by decide) (fun hT => ?_) (fun hT => ?_)
        · have hc51 := o_ltT hT
          have q52 := q50.trans (if_pos hc51)
          show Go _ _ _ _ _ _ _ s₁ (mkF m 89 #[.val (.int i0)] [])
          exact B89 i0 q52
        · have hc51 := o_ltF hT
          have q53 := q50.trans (if_neg hc51)
          show Go _ _ _ _ _ _ _ s₁ (mkF m 80 #[.val (.int i0)] [])
          refine gIloadN X0 hx (hb hby d1_80) rfl ?_
          refine gSipush X0 hx (879 : Int32) (hb hby d1_81) rfl ?_
          refine gIcmp X0 hx 89 (hb hby d1_84) (by decide) (by decide) (fun hT => ?_) (fun hT => ?_)
          · have hc54 := o_gtT hT
            have q55 := q53.trans (if_pos hc54)
            show Go _ _ _ _ _ _ _ s₁ (mkF m 89 #[.val (.int i0)] [])
            exact B89 i0 q55
          · have hc54 := o_gtF hT
            have q56 := q53.trans (if_neg hc54)
            show Go _ _ _ _ _ _ _ s₁ (mkF m 87 #[.val (.int i0)] [])
            refine gIconst X0 hx (0 : Int32) (hb hby d1_87) rfl ?_
            exact gRetZ X0 hx hlk hret (by simp) (hb hby d1_88) (z' := (0 : Int32)) rfl (by decide) (by decide) ⟨congrArg (fun z => some (Value.int z)) q56.symm, N0, e0⟩
      · have hc49 := o_neF hT
        have q57 := q48.trans (if_pos hc49)
        show Go _ _ _ _ _ _ _ s₁ (mkF m 71 #[.val (.int i0)] [])
        exact B71 i0 q57
  have B34 : ∀ i0 : Int32, own_r p0 = own_r_34 i0 → Go p e below s ({ frames := 0, cells := 0, slots := 0, locals := 0 } : Room).cells ({ frames := 0, cells := 0, slots := 0, locals := 0 } : Room).slots (fun v h L => v = some (.int (own_r p0)) ∧ Fr n0 L ∧ h = h0) s₁ (mkF m 34 #[.val (.int i0)] []) := by
    intro i0 hq
    replace hq : own_r p0 = (if i0 = (96 : Int32) then (0 : Int32) else (if i0 < (123 : Int32) then (own_r_57 i0) else (if (191 : Int32) < i0 then (own_r_57 i0) else (0 : Int32)))) := hq
    refine gIloadN X0 hx (hb hby d1_34) rfl ?_
    refine gBipush X0 hx (96 : Int32) (hb hby d1_35) rfl ?_
    refine gIcmp X0 hx 42 (hb hby d1_37) (by decide) (by decide) (fun hT => ?_) (fun hT => ?_)
    · have hc58 := o_neT hT
      have q59 := hq.trans (if_neg hc58)
      show Go _ _ _ _ _ _ _ s₁ (mkF m 42 #[.val (.int i0)] [])
      refine gIloadN X0 hx (hb hby d1_42) rfl ?_
      refine gBipush X0 hx (123 : Int32) (hb hby d1_43) rfl ?_
      refine gIcmp X0 hx 57 (hb hby d1_45) (by decide) (by decide) (fun hT => ?_) (fun hT => ?_)
      · have hc60 := o_ltT hT
        have q61 := q59.trans (if_pos hc60)
        show Go _ _ _ _ _ _ _ s₁ (mkF m 57 #[.val (.int i0)] [])
        exact B57 i0 q61
      · have hc60 := o_ltF hT
        have q62 := q59.trans (if_neg hc60)
        show Go _ _ _ _ _ _ _ s₁ (mkF m 48 #[.val (.int i0)] [])
        refine gIloadN X0 hx (hb hby d1_48) rfl ?_
        refine gSipush X0 hx (191 : Int32) (hb hby d1_49) rfl ?_
        refine gIcmp X0 hx 57 (hb hby d1_52) (by decide) (by decide) (fun hT => ?_) (fun hT => ?_)
        · have hc63 := o_gtT hT
          have q64 := q62.trans (if_pos hc63)
          show Go _ _ _ _ _ _ _ s₁ (mkF m 57 #[.val (.int i0)] [])
          exact B57 i0 q64
        · have hc63 := o_gtF hT
          have q65 := q62.trans (if_neg hc63)
          show Go _ _ _ _ _ _ _ s₁ (mkF m 55 #[.val (.int i0)] [])
          refine gIconst X0 hx (0 : Int32) (hb hby d1_55) rfl ?_
          exact gRetZ X0 hx hlk hret (by simp) (hb hby d1_56) (z' := (0 : Int32)) rfl (by decide) (by decide) ⟨congrArg (fun z => some (Value.int z)) q65.symm, N0, e0⟩
    · have hc58 := o_neF hT
      have q66 := hq.trans (if_pos hc58)
      show Go _ _ _ _ _ _ _ s₁ (mkF m 40 #[.val (.int i0)] [])
      refine gIconst X0 hx (0 : Int32) (hb hby d1_40) rfl ?_
      exact gRetZ X0 hx hlk hret (by simp) (hb hby d1_41) (z' := (0 : Int32)) rfl (by decide) (by decide) ⟨congrArg (fun z => some (Value.int z)) q66.symm, N0, e0⟩
  have B10 : ∀ i0 : Int32, own_r p0 = own_r_10 i0 → Go p e below s ({ frames := 0, cells := 0, slots := 0, locals := 0 } : Room).cells ({ frames := 0, cells := 0, slots := 0, locals := 0 } : Room).slots (fun v h L => v = some (.int (own_r p0)) ∧ Fr n0 L ∧ h = h0) s₁ (mkF m 10 #[.val (.int i0)] []) := by
    intro i0 hq
    replace hq : own_r p0 = ((0 : Int32)) := hq
    refine gIconst X0 hx (0 : Int32) (hb hby d1_10) rfl ?_
    exact gRetZ X0 hx hlk hret (by simp) (hb hby d1_11) (z' := (0 : Int32)) rfl (by decide) (by decide) ⟨congrArg (fun z => some (Value.int z)) hq.symm, N0, e0⟩
  have hq : own_r p0 = (if p0 < (0 : Int32) then (own_r_10 p0) else (if (983039 : Int32) < p0 then (own_r_10 p0) else (if (64 : Int32) < p0 then (if p0 < (91 : Int32) then (own_r_34 p0) else (if (94 : Int32) < p0 then (own_r_34 p0) else (0 : Int32))) else (0 : Int32)))) := rfl
  refine gIloadN X0 hx (hb hby d1_0) rfl ?_
  refine gIf X0 hx 10 (hb hby d1_1) (by decide) (by decide) (fun hT => ?_) (fun hT => ?_)
  · have hc67 := o_ltT hT
    have q68 := hq.trans (if_pos hc67)
    show Go _ _ _ _ _ _ _ s₁ (mkF m 10 #[.val (.int p0)] [])
    exact B10 p0 q68
  · have hc67 := o_ltF hT
    have q69 := hq.trans (if_neg hc67)
    show Go _ _ _ _ _ _ _ s₁ (mkF m 4 #[.val (.int p0)] [])
    refine gIloadN X0 hx (hb hby d1_4) rfl ?_
    refine gLdc X0 hx hZ (983039 : Int32) hown (tw hw 8 rfl) (hb hby d1_5) ?_
    refine gIcmp X0 hx 12 (hb hby d1_7) (by decide) (by decide) (fun hT => ?_) (fun hT => ?_)
    · have hc70 := o_leT hT
      have q71 := q69.trans (if_neg hc70)
      show Go _ _ _ _ _ _ _ s₁ (mkF m 12 #[.val (.int p0)] [])
      refine gIloadN X0 hx (hb hby d1_12) rfl ?_
      refine gBipush X0 hx (64 : Int32) (hb hby d1_13) rfl ?_
      refine gIcmp X0 hx 20 (hb hby d1_15) (by decide) (by decide) (fun hT => ?_) (fun hT => ?_)
      · have hc72 := o_gtT hT
        have q73 := q71.trans (if_pos hc72)
        show Go _ _ _ _ _ _ _ s₁ (mkF m 20 #[.val (.int p0)] [])
        refine gIloadN X0 hx (hb hby d1_20) rfl ?_
        refine gBipush X0 hx (91 : Int32) (hb hby d1_21) rfl ?_
        refine gIcmp X0 hx 34 (hb hby d1_23) (by decide) (by decide) (fun hT => ?_) (fun hT => ?_)
        · have hc74 := o_ltT hT
          have q75 := q73.trans (if_pos hc74)
          show Go _ _ _ _ _ _ _ s₁ (mkF m 34 #[.val (.int p0)] [])
          exact B34 p0 q75
        · have hc74 := o_ltF hT
          have q76 := q73.trans (if_neg hc74)
          show Go _ _ _ _ _ _ _ s₁ (mkF m 26 #[.val (.int p0)] [])
          refine gIloadN X0 hx (hb hby d1_26) rfl ?_
          refine gBipush X0 hx (94 : Int32) (hb hby d1_27) rfl ?_
          refine gIcmp X0 hx 34 (hb hby d1_29) (by decide) (by decide) (fun hT => ?_) (fun hT => ?_)
          · have hc77 := o_gtT hT
            have q78 := q76.trans (if_pos hc77)
            show Go _ _ _ _ _ _ _ s₁ (mkF m 34 #[.val (.int p0)] [])
            exact B34 p0 q78
          · have hc77 := o_gtF hT
            have q79 := q76.trans (if_neg hc77)
            show Go _ _ _ _ _ _ _ s₁ (mkF m 32 #[.val (.int p0)] [])
            refine gIconst X0 hx (0 : Int32) (hb hby d1_32) rfl ?_
            exact gRetZ X0 hx hlk hret (by simp) (hb hby d1_33) (z' := (0 : Int32)) rfl (by decide) (by decide) ⟨congrArg (fun z => some (Value.int z)) q79.symm, N0, e0⟩
      · have hc72 := o_gtF hT
        have q80 := q71.trans (if_neg hc72)
        show Go _ _ _ _ _ _ _ s₁ (mkF m 18 #[.val (.int p0)] [])
        refine gIconst X0 hx (0 : Int32) (hb hby d1_18) rfl ?_
        exact gRetZ X0 hx hlk hret (by simp) (hb hby d1_19) (z' := (0 : Int32)) rfl (by decide) (by decide) ⟨congrArg (fun z => some (Value.int z)) q80.symm, N0, e0⟩
    · have hc70 := o_leF hT
      have q81 := q69.trans (if_pos hc70)
      show Go _ _ _ _ _ _ _ s₁ (mkF m 10 #[.val (.int p0)] [])
      exact B10 p0 q81
set_option maxRecDepth 65536 in
set_option maxHeartbeats 40000000 in
theorem own_same (x : Int32) : own_f x = own_r x := by
  have l0 : (0 : Int32).toInt = 0 := by decide
  have l64 : (64 : Int32).toInt = 64 := by decide
  have l65 : (65 : Int32).toInt = 65 := by decide
  have l90 : (90 : Int32).toInt = 90 := by decide
  have l91 : (91 : Int32).toInt = 91 := by decide
  have l94 : (94 : Int32).toInt = 94 := by decide
  have l95 : (95 : Int32).toInt = 95 := by decide
  have l96 : (96 : Int32).toInt = 96 := by decide
  have l97 : (97 : Int32).toInt = 97 := by decide
  have l122 : (122 : Int32).toInt = 122 := by decide
  have l123 : (123 : Int32).toInt = 123 := by decide
  have l128 : (128 : Int32).toInt = 128 := by decide
  have l191 : (191 : Int32).toInt = 191 := by decide
  have l192 : (192 : Int32).toInt = 192 := by decide
  have l214 : (214 : Int32).toInt = 214 := by decide
  have l215 : (215 : Int32).toInt = 215 := by decide
  have l216 : (216 : Int32).toInt = 216 := by decide
  have l246 : (246 : Int32).toInt = 246 := by decide
  have l247 : (247 : Int32).toInt = 247 := by decide
  have l248 : (248 : Int32).toInt = 248 := by decide
  have l767 : (767 : Int32).toInt = 767 := by decide
  have l768 : (768 : Int32).toInt = 768 := by decide
  have l879 : (879 : Int32).toInt = 879 := by decide
  have l880 : (880 : Int32).toInt = 880 := by decide
  have l893 : (893 : Int32).toInt = 893 := by decide
  have l894 : (894 : Int32).toInt = 894 := by decide
  have l895 : (895 : Int32).toInt = 895 := by decide
  have l8191 : (8191 : Int32).toInt = 8191 := by decide
  have l8192 : (8192 : Int32).toInt = 8192 := by decide
  have l8203 : (8203 : Int32).toInt = 8203 := by decide
  have l8204 : (8204 : Int32).toInt = 8204 := by decide
  have l8205 : (8205 : Int32).toInt = 8205 := by decide
  have l8206 : (8206 : Int32).toInt = 8206 := by decide
  have l8303 : (8303 : Int32).toInt = 8303 := by decide
  have l8304 : (8304 : Int32).toInt = 8304 := by decide
  have l8591 : (8591 : Int32).toInt = 8591 := by decide
  have l8592 : (8592 : Int32).toInt = 8592 := by decide
  have l11263 : (11263 : Int32).toInt = 11263 := by decide
  have l11264 : (11264 : Int32).toInt = 11264 := by decide
  have l12271 : (12271 : Int32).toInt = 12271 := by decide
  have l12272 : (12272 : Int32).toInt = 12272 := by decide
  have l12288 : (12288 : Int32).toInt = 12288 := by decide
  have l12289 : (12289 : Int32).toInt = 12289 := by decide
  have l55295 : (55295 : Int32).toInt = 55295 := by decide
  have l55296 : (55296 : Int32).toInt = 55296 := by decide
  have l63743 : (63743 : Int32).toInt = 63743 := by decide
  have l63744 : (63744 : Int32).toInt = 63744 := by decide
  have l64975 : (64975 : Int32).toInt = 64975 := by decide
  have l64976 : (64976 : Int32).toInt = 64976 := by decide
  have l65007 : (65007 : Int32).toInt = 65007 := by decide
  have l65008 : (65008 : Int32).toInt = 65008 := by decide
  have l65533 : (65533 : Int32).toInt = 65533 := by decide
  have l65534 : (65534 : Int32).toInt = 65534 := by decide
  have l65535 : (65535 : Int32).toInt = 65535 := by decide
  have l65536 : (65536 : Int32).toInt = 65536 := by decide
  have l983039 : (983039 : Int32).toInt = 983039 := by decide
  simp only [own_f_208, own_f_204, own_f_192, own_f_180, own_f_168, own_f_155, own_f_141, own_f_127, own_f_113, own_f_99, own_f_85, own_f_71, own_f_57, own_f_37, own_f_31, own_f_19, own_f, own_r_204, own_r_190, own_r_176, own_r_162, own_r_146, own_r_130, own_r_114, own_r_89, own_r_71, own_r_57, own_r_34, own_r_10, own_r, Int32.lt_iff_toInt_lt, ← Int32.toInt_inj (x := x), l0, l64, l65, l90, l91, l94, l95, l96, l97, l122, l123, l128, l191, l192, l214, l215, l216, l246, l247, l248, l767, l768, l879, l880, l893, l894, l895, l8191, l8192, l8203, l8204, l8205, l8206, l8303, l8304, l8591, l8592, l11263, l11264, l12271, l12272, l12288, l12289, l55295, l55296, l63743, l63744, l64975, l64976, l65007, l65008, l65533, l65534, l65535, l65536, l983039]
  generalize x.toInt = i
  clear l0 l64 l65 l90 l91 l94 l95 l96 l97 l122 l123 l128 l191 l192 l214 l215 l216 l246 l247 l248 l767 l768 l879 l880 l893 l894 l895 l8191 l8192 l8203 l8204 l8205 l8206 l8303 l8304 l8591 l8592 l11263 l11264 l12271 l12272 l12288 l12289 l55295 l55296 l63743 l63744 l64975 l64976 l65007 l65008 l65533 l65534 l65535 l65536 l983039
  have hlo : True := trivial
  by_cases h : i < 0
  · repeat first | rw [if_pos (by omega)] | rw [if_neg (by omega)]
  replace hlo : 0 ≤ i := by omega
  clear h
  by_cases h : i < 1
  · repeat first | rw [if_pos (by omega)] | rw [if_neg (by omega)]
  replace hlo : 1 ≤ i := by omega
  clear h
  by_cases h : i < 64
  · repeat first | rw [if_pos (by omega)] | rw [if_neg (by omega)]
  replace hlo : 64 ≤ i := by omega
  clear h
  by_cases h : i < 65
  · repeat first | rw [if_pos (by omega)] | rw [if_neg (by omega)]
  replace hlo : 65 ≤ i := by omega
  clear h
  by_cases h : i < 66
  · repeat first | rw [if_pos (by omega)] | rw [if_neg (by omega)]
  replace hlo : 66 ≤ i := by omega
  clear h
  by_cases h : i < 90
  · repeat first | rw [if_pos (by omega)] | rw [if_neg (by omega)]
  replace hlo : 90 ≤ i := by omega
  clear h
  by_cases h : i < 91
  · repeat first | rw [if_pos (by omega)] | rw [if_neg (by omega)]
  replace hlo : 91 ≤ i := by omega
  clear h
  by_cases h : i < 92
  · repeat first | rw [if_pos (by omega)] | rw [if_neg (by omega)]
  replace hlo : 92 ≤ i := by omega
  clear h
  by_cases h : i < 94
  · repeat first | rw [if_pos (by omega)] | rw [if_neg (by omega)]
  replace hlo : 94 ≤ i := by omega
  clear h
  by_cases h : i < 95
  · repeat first | rw [if_pos (by omega)] | rw [if_neg (by omega)]
  replace hlo : 95 ≤ i := by omega
  clear h
  by_cases h : i < 96
  · repeat first | rw [if_pos (by omega)] | rw [if_neg (by omega)]
  replace hlo : 96 ≤ i := by omega
  clear h
  by_cases h : i < 97
  · repeat first | rw [if_pos (by omega)] | rw [if_neg (by omega)]
  replace hlo : 97 ≤ i := by omega
  clear h
  by_cases h : i < 98
  · repeat first | rw [if_pos (by omega)] | rw [if_neg (by omega)]
  replace hlo : 98 ≤ i := by omega
  clear h
  by_cases h : i < 122
  · repeat first | rw [if_pos (by omega)] | rw [if_neg (by omega)]
  replace hlo : 122 ≤ i := by omega
  clear h
  by_cases h : i < 123
  · repeat first | rw [if_pos (by omega)] | rw [if_neg (by omega)]
  replace hlo : 123 ≤ i := by omega
  clear h
  by_cases h : i < 124
  · repeat first | rw [if_pos (by omega)] | rw [if_neg (by omega)]
  replace hlo : 124 ≤ i := by omega
  clear h
  by_cases h : i < 128
  · repeat first | rw [if_pos (by omega)] | rw [if_neg (by omega)]
  replace hlo : 128 ≤ i := by omega
  clear h
  by_cases h : i < 129
  · repeat first | rw [if_pos (by omega)] | rw [if_neg (by omega)]
  replace hlo : 129 ≤ i := by omega
  clear h
  by_cases h : i < 191
  · repeat first | rw [if_pos (by omega)] | rw [if_neg (by omega)]
  replace hlo : 191 ≤ i := by omega
  clear h
  by_cases h : i < 192
  · repeat first | rw [if_pos (by omega)] | rw [if_neg (by omega)]
  replace hlo : 192 ≤ i := by omega
  clear h
  by_cases h : i < 193
  · repeat first | rw [if_pos (by omega)] | rw [if_neg (by omega)]
  replace hlo : 193 ≤ i := by omega
  clear h
  by_cases h : i < 214
  · repeat first | rw [if_pos (by omega)] | rw [if_neg (by omega)]
  replace hlo : 214 ≤ i := by omega
  clear h
  by_cases h : i < 215
  · repeat first | rw [if_pos (by omega)] | rw [if_neg (by omega)]
  replace hlo : 215 ≤ i := by omega
  clear h
  by_cases h : i < 216
  · repeat first | rw [if_pos (by omega)] | rw [if_neg (by omega)]
  replace hlo : 216 ≤ i := by omega
  clear h
  by_cases h : i < 217
  · repeat first | rw [if_pos (by omega)] | rw [if_neg (by omega)]
  replace hlo : 217 ≤ i := by omega
  clear h
  by_cases h : i < 246
  · repeat first | rw [if_pos (by omega)] | rw [if_neg (by omega)]
  replace hlo : 246 ≤ i := by omega
  clear h
  by_cases h : i < 247
  · repeat first | rw [if_pos (by omega)] | rw [if_neg (by omega)]
  replace hlo : 247 ≤ i := by omega
  clear h
  by_cases h : i < 248
  · repeat first | rw [if_pos (by omega)] | rw [if_neg (by omega)]
  replace hlo : 248 ≤ i := by omega
  clear h
  by_cases h : i < 249
  · repeat first | rw [if_pos (by omega)] | rw [if_neg (by omega)]
  replace hlo : 249 ≤ i := by omega
  clear h
  by_cases h : i < 767
  · repeat first | rw [if_pos (by omega)] | rw [if_neg (by omega)]
  replace hlo : 767 ≤ i := by omega
  clear h
  by_cases h : i < 768
  · repeat first | rw [if_pos (by omega)] | rw [if_neg (by omega)]
  replace hlo : 768 ≤ i := by omega
  clear h
  by_cases h : i < 769
  · repeat first | rw [if_pos (by omega)] | rw [if_neg (by omega)]
  replace hlo : 769 ≤ i := by omega
  clear h
  by_cases h : i < 879
  · repeat first | rw [if_pos (by omega)] | rw [if_neg (by omega)]
  replace hlo : 879 ≤ i := by omega
  clear h
  by_cases h : i < 880
  · repeat first | rw [if_pos (by omega)] | rw [if_neg (by omega)]
  replace hlo : 880 ≤ i := by omega
  clear h
  by_cases h : i < 881
  · repeat first | rw [if_pos (by omega)] | rw [if_neg (by omega)]
  replace hlo : 881 ≤ i := by omega
  clear h
  by_cases h : i < 893
  · repeat first | rw [if_pos (by omega)] | rw [if_neg (by omega)]
  replace hlo : 893 ≤ i := by omega
  clear h
  by_cases h : i < 894
  · repeat first | rw [if_pos (by omega)] | rw [if_neg (by omega)]
  replace hlo : 894 ≤ i := by omega
  clear h
  by_cases h : i < 895
  · repeat first | rw [if_pos (by omega)] | rw [if_neg (by omega)]
  replace hlo : 895 ≤ i := by omega
  clear h
  by_cases h : i < 896
  · repeat first | rw [if_pos (by omega)] | rw [if_neg (by omega)]
  replace hlo : 896 ≤ i := by omega
  clear h
  by_cases h : i < 8191
  · repeat first | rw [if_pos (by omega)] | rw [if_neg (by omega)]
  replace hlo : 8191 ≤ i := by omega
  clear h
  by_cases h : i < 8192
  · repeat first | rw [if_pos (by omega)] | rw [if_neg (by omega)]
  replace hlo : 8192 ≤ i := by omega
  clear h
  by_cases h : i < 8193
  · repeat first | rw [if_pos (by omega)] | rw [if_neg (by omega)]
  replace hlo : 8193 ≤ i := by omega
  clear h
  by_cases h : i < 8203
  · repeat first | rw [if_pos (by omega)] | rw [if_neg (by omega)]
  replace hlo : 8203 ≤ i := by omega
  clear h
  by_cases h : i < 8204
  · repeat first | rw [if_pos (by omega)] | rw [if_neg (by omega)]
  replace hlo : 8204 ≤ i := by omega
  clear h
  by_cases h : i < 8205
  · repeat first | rw [if_pos (by omega)] | rw [if_neg (by omega)]
  replace hlo : 8205 ≤ i := by omega
  clear h
  by_cases h : i < 8206
  · repeat first | rw [if_pos (by omega)] | rw [if_neg (by omega)]
  replace hlo : 8206 ≤ i := by omega
  clear h
  by_cases h : i < 8207
  · repeat first | rw [if_pos (by omega)] | rw [if_neg (by omega)]
  replace hlo : 8207 ≤ i := by omega
  clear h
  by_cases h : i < 8303
  · repeat first | rw [if_pos (by omega)] | rw [if_neg (by omega)]
  replace hlo : 8303 ≤ i := by omega
  clear h
  by_cases h : i < 8304
  · repeat first | rw [if_pos (by omega)] | rw [if_neg (by omega)]
  replace hlo : 8304 ≤ i := by omega
  clear h
  by_cases h : i < 8305
  · repeat first | rw [if_pos (by omega)] | rw [if_neg (by omega)]
  replace hlo : 8305 ≤ i := by omega
  clear h
  by_cases h : i < 8591
  · repeat first | rw [if_pos (by omega)] | rw [if_neg (by omega)]
  replace hlo : 8591 ≤ i := by omega
  clear h
  by_cases h : i < 8592
  · repeat first | rw [if_pos (by omega)] | rw [if_neg (by omega)]
  replace hlo : 8592 ≤ i := by omega
  clear h
  by_cases h : i < 8593
  · repeat first | rw [if_pos (by omega)] | rw [if_neg (by omega)]
  replace hlo : 8593 ≤ i := by omega
  clear h
  by_cases h : i < 11263
  · repeat first | rw [if_pos (by omega)] | rw [if_neg (by omega)]
  replace hlo : 11263 ≤ i := by omega
  clear h
  by_cases h : i < 11264
  · repeat first | rw [if_pos (by omega)] | rw [if_neg (by omega)]
  replace hlo : 11264 ≤ i := by omega
  clear h
  by_cases h : i < 11265
  · repeat first | rw [if_pos (by omega)] | rw [if_neg (by omega)]
  replace hlo : 11265 ≤ i := by omega
  clear h
  by_cases h : i < 12271
  · repeat first | rw [if_pos (by omega)] | rw [if_neg (by omega)]
  replace hlo : 12271 ≤ i := by omega
  clear h
  by_cases h : i < 12272
  · repeat first | rw [if_pos (by omega)] | rw [if_neg (by omega)]
  replace hlo : 12272 ≤ i := by omega
  clear h
  by_cases h : i < 12273
  · repeat first | rw [if_pos (by omega)] | rw [if_neg (by omega)]
  replace hlo : 12273 ≤ i := by omega
  clear h
  by_cases h : i < 12288
  · repeat first | rw [if_pos (by omega)] | rw [if_neg (by omega)]
  replace hlo : 12288 ≤ i := by omega
  clear h
  by_cases h : i < 12289
  · repeat first | rw [if_pos (by omega)] | rw [if_neg (by omega)]
  replace hlo : 12289 ≤ i := by omega
  clear h
  by_cases h : i < 12290
  · repeat first | rw [if_pos (by omega)] | rw [if_neg (by omega)]
  replace hlo : 12290 ≤ i := by omega
  clear h
  by_cases h : i < 55295
  · repeat first | rw [if_pos (by omega)] | rw [if_neg (by omega)]
  replace hlo : 55295 ≤ i := by omega
  clear h
  by_cases h : i < 55296
  · repeat first | rw [if_pos (by omega)] | rw [if_neg (by omega)]
  replace hlo : 55296 ≤ i := by omega
  clear h
  by_cases h : i < 55297
  · repeat first | rw [if_pos (by omega)] | rw [if_neg (by omega)]
  replace hlo : 55297 ≤ i := by omega
  clear h
  by_cases h : i < 63743
  · repeat first | rw [if_pos (by omega)] | rw [if_neg (by omega)]
  replace hlo : 63743 ≤ i := by omega
  clear h
  by_cases h : i < 63744
  · repeat first | rw [if_pos (by omega)] | rw [if_neg (by omega)]
  replace hlo : 63744 ≤ i := by omega
  clear h
  by_cases h : i < 63745
  · repeat first | rw [if_pos (by omega)] | rw [if_neg (by omega)]
  replace hlo : 63745 ≤ i := by omega
  clear h
  by_cases h : i < 64975
  · repeat first | rw [if_pos (by omega)] | rw [if_neg (by omega)]
  replace hlo : 64975 ≤ i := by omega
  clear h
  by_cases h : i < 64976
  · repeat first | rw [if_pos (by omega)] | rw [if_neg (by omega)]
  replace hlo : 64976 ≤ i := by omega
  clear h
  by_cases h : i < 64977
  · repeat first | rw [if_pos (by omega)] | rw [if_neg (by omega)]
  replace hlo : 64977 ≤ i := by omega
  clear h
  by_cases h : i < 65007
  · repeat first | rw [if_pos (by omega)] | rw [if_neg (by omega)]
  replace hlo : 65007 ≤ i := by omega
  clear h
  by_cases h : i < 65008
  · repeat first | rw [if_pos (by omega)] | rw [if_neg (by omega)]
  replace hlo : 65008 ≤ i := by omega
  clear h
  by_cases h : i < 65009
  · repeat first | rw [if_pos (by omega)] | rw [if_neg (by omega)]
  replace hlo : 65009 ≤ i := by omega
  clear h
  by_cases h : i < 65533
  · repeat first | rw [if_pos (by omega)] | rw [if_neg (by omega)]
  replace hlo : 65533 ≤ i := by omega
  clear h
  by_cases h : i < 65534
  · repeat first | rw [if_pos (by omega)] | rw [if_neg (by omega)]
  replace hlo : 65534 ≤ i := by omega
  clear h
  by_cases h : i < 65535
  · repeat first | rw [if_pos (by omega)] | rw [if_neg (by omega)]
  replace hlo : 65535 ≤ i := by omega
  clear h
  by_cases h : i < 65536
  · repeat first | rw [if_pos (by omega)] | rw [if_neg (by omega)]
  replace hlo : 65536 ≤ i := by omega
  clear h
  by_cases h : i < 65537
  · repeat first | rw [if_pos (by omega)] | rw [if_neg (by omega)]
  replace hlo : 65537 ≤ i := by omega
  clear h
  by_cases h : i < 983039
  · repeat first | rw [if_pos (by omega)] | rw [if_neg (by omega)]
  replace hlo : 983039 ≤ i := by omega
  clear h
  by_cases h : i < 983040
  · repeat first | rw [if_pos (by omega)] | rw [if_neg (by omega)]
  replace hlo : 983040 ≤ i := by omega
  clear h
  repeat first | rw [if_pos (by omega)] | rw [if_neg (by omega)]
theorem own_idx (x : Int32) : ¬ ((x &&& (2147483647 : Int32)) % (Nat.toInt32 37)) < 0 ∧ ((x &&& (2147483647 : Int32)) % (Nat.toInt32 37)).toNatClampNeg < 37 := by
  have h := c_mask x 2147483647 31 (by decide) (by decide)
  have h2 : ((x &&& (2147483647 : Int32)) % (Nat.toInt32 37)).toInt = (x &&& (2147483647 : Int32)).toInt.tmod 37 := by
    rw [Int32.toInt_mod]; rfl
  rw [h] at h2
  have h3 : (x.toInt % (2 ^ 31 : Nat)).tmod 37 = (x.toInt % (2 ^ 31 : Nat)) % 37 := Int.tmod_eq_emod_of_nonneg (by omega)
  rw [h3] at h2
  rw [Int32.lt_iff_toInt_lt, show (0 : Int32).toInt = 0 from rfl, Int32.toNatClampNeg, h2]
  omega
theorem own_pn2 : plainFor x = true := plainFor_of_name (by first | (simp [plainName, overriddenIn]; done) | decide +kernel)
theorem own_ef2 (p0 : Int32) (p1 : Int32) (p2 : Int32) (m : MethodId) : entryFrame m #[(.int p0), (.int p1), (.int p2)] maxLocals = mkF m 0 #[.val (.int p0), .val (.int p1), .val (.int p2), .unset, .unset, .unset, .unset, .unset, .unset] [] := by first | (simp [entryFrame, mkF, argsToLocals, Value.category, maxLocals]; done) | rfl
theorem own_pd1 : parseMethodDescriptor "(III)Z" = some ⟨[.int, .int, .int], some .boolean⟩ := by decide +kernel
set_option maxRecDepth 65536 in
set_option maxHeartbeats 40000000 in
theorem own_rm2 (l : Launch) (Z : State) (a0 : Array Value) (hw : ∀ d ∈ tables_1, d.before a0 Z = true) (p0 : Int32) (p1 : Int32) (p2 : Int32) (h0 : Heap) (n0 : Nat) (Z0 : n0 ≤ h0.size)  :
    Met l Z x code maxLocals ret tables_1 room_1 #[(.int p0), (.int p1), (.int p2)] h0 (fun v h L => v = some (.int 1) ∧ Fr n0 L) := by
  refine met_of (Ls := #[.val (.int p0), .val (.int p1), .val (.int p2), .unset, .unset, .unset, .unset, .unset, .unset]) own_pn2 (own_ef2 p0 p1 p2) ?_
  intro p e s m below meth c s₁ hx hby hml hown hnm hret hlk hZ X0 e0
  have N0 := Fr.nil n0
  refine gBipush X0 hx (37 : Int32) (hb hby at_0) rfl ?_
  refine gNewArr X0 hx hZ (tw hw 0 rfl) e0 (hb hby at_2) (by decide) (cap := 37) (by decide) (by decide) (by decide) (by decide) ?_
  intro T1 h1 b1 cA1 X1 e1 E1 g1 A1
  have g_b1 : n0 ≤ b1 := by rw [g1]; exact Z0
  have Z_1 := Nat.le_trans Z0 E1.1
  have V1 : IA Z h1 b1 .int 37 (fun _ => 0) := (IA.new rfl A1)
  show Go _ _ _ _ _ _ _ T1 (mkF m 4 #[.val (.int p0), .val (.int p1), .val (.int p2), .unset, .unset, .unset, .unset, .unset, .unset] [(.ref b1)])
  refine gDup X1 hx (hb hby at_4) rfl ?_
  refine gIconst X1 hx (0 : Int32) (hb hby at_5) rfl ?_
  refine gLdc X1 hx hZ (-2147483648 : Int32) hown (tw hw 1 rfl) (hb hby at_6) ?_
  refine gIastore X1 hx hZ e1 V1 0 rfl ⟨by decide, by decide⟩ (hb hby at_8) ?_
  intro T2 h2 X2 e2 W2 V1__2
  have Z_2 := Nat.le_trans Z_1 (Nat.le_of_eq W2.size.symm)
  have N_2 := Fr.snoc X2 N0 g_b1
  show Go _ _ _ _ _ _ _ T2 (mkF m 9 #[.val (.int p0), .val (.int p1), .val (.int p2), .unset, .unset, .unset, .unset, .unset, .unset] [(.ref b1)])
  obtain ⟨f2, V2_⟩ : ∃ f, IA Z h2 b1 .int 37 f := ⟨_, V1__2⟩
  refine gDup X2 hx (hb hby at_9) rfl ?_
  refine gIconst X2 hx (1 : Int32) (hb hby at_10) rfl ?_
  refine gIconst X2 hx (0 : Int32) (hb hby at_11) rfl ?_
  refine gIastore X2 hx hZ e2 V2_ 1 rfl ⟨by decide, by decide⟩ (hb hby at_12) ?_
  intro T3 h3 X3 e3 W3 V2___3
  have Z_3 := Nat.le_trans Z_2 (Nat.le_of_eq W3.size.symm)
  have N_3 := Fr.snoc X3 N_2 g_b1
  show Go _ _ _ _ _ _ _ T3 (mkF m 13 #[.val (.int p0), .val (.int p1), .val (.int p2), .unset, .unset, .unset, .unset, .unset, .unset] [(.ref b1)])
  obtain ⟨f3, V3_⟩ : ∃ f, IA Z h3 b1 .int 37 f := ⟨_, V2___3⟩
  refine gDup X3 hx (hb hby at_13) rfl ?_
  refine gIconst X3 hx (2 : Int32) (hb hby at_14) rfl ?_
  refine gBipush X3 hx (48 : Int32) (hb hby at_15) rfl ?_
  refine gIastore X3 hx hZ e3 V3_ 2 rfl ⟨by decide, by decide⟩ (hb hby at_17) ?_
  intro T4 h4 X4 e4 W4 V3___4
  have Z_4 := Nat.le_trans Z_3 (Nat.le_of_eq W4.size.symm)
  have N_4 := Fr.snoc X4 N_3 g_b1
  show Go _ _ _ _ _ _ _ T4 (mkF m 18 #[.val (.int p0), .val (.int p1), .val (.int p2), .unset, .unset, .unset, .unset, .unset, .unset] [(.ref b1)])
  obtain ⟨f4, V4_⟩ : ∃ f, IA Z h4 b1 .int 37 f := ⟨_, V3___4⟩
  refine gDup X4 hx (hb hby at_18) rfl ?_
  refine gIconst X4 hx (3 : Int32) (hb hby at_19) rfl ?_
  refine gBipush X4 hx (57 : Int32) (hb hby at_20) rfl ?_
  refine gIastore X4 hx hZ e4 V4_ 3 rfl ⟨by decide, by decide⟩ (hb hby at_22) ?_
  intro T5 h5 X5 e5 W5 V4___5
  have Z_5 := Nat.le_trans Z_4 (Nat.le_of_eq W5.size.symm)
  have N_5 := Fr.snoc X5 N_4 g_b1
  show Go _ _ _ _ _ _ _ T5 (mkF m 23 #[.val (.int p0), .val (.int p1), .val (.int p2), .unset, .unset, .unset, .unset, .unset, .unset] [(.ref b1)])
  obtain ⟨f5, V5_⟩ : ∃ f, IA Z h5 b1 .int 37 f := ⟨_, V4___5⟩
  refine gDup X5 hx (hb hby at_23) rfl ?_
  refine gIconst X5 hx (4 : Int32) (hb hby at_24) rfl ?_
  refine gBipush X5 hx (58 : Int32) (hb hby at_25) rfl ?_
  refine gIastore X5 hx hZ e5 V5_ 4 rfl ⟨by decide, by decide⟩ (hb hby at_27) ?_
  intro T6 h6 X6 e6 W6 V5___6
  have Z_6 := Nat.le_trans Z_5 (Nat.le_of_eq W6.size.symm)
  have N_6 := Fr.snoc X6 N_5 g_b1
  show Go _ _ _ _ _ _ _ T6 (mkF m 28 #[.val (.int p0), .val (.int p1), .val (.int p2), .unset, .unset, .unset, .unset, .unset, .unset] [(.ref b1)])
  obtain ⟨f6, V6_⟩ : ∃ f, IA Z h6 b1 .int 37 f := ⟨_, V5___6⟩
  refine gDup X6 hx (hb hby at_28) rfl ?_
  refine gIconst X6 hx (5 : Int32) (hb hby at_29) rfl ?_
  refine gBipush X6 hx (65 : Int32) (hb hby at_30) rfl ?_
  refine gIastore X6 hx hZ e6 V6_ 5 rfl ⟨by decide, by decide⟩ (hb hby at_32) ?_
  intro T7 h7 X7 e7 W7 V6___7
  have Z_7 := Nat.le_trans Z_6 (Nat.le_of_eq W7.size.symm)
  have N_7 := Fr.snoc X7 N_6 g_b1
  show Go _ _ _ _ _ _ _ T7 (mkF m 33 #[.val (.int p0), .val (.int p1), .val (.int p2), .unset, .unset, .unset, .unset, .unset, .unset] [(.ref b1)])
  obtain ⟨f7, V7_⟩ : ∃ f, IA Z h7 b1 .int 37 f := ⟨_, V6___7⟩
  refine gDup X7 hx (hb hby at_33) rfl ?_
  refine gBipush X7 hx (6 : Int32) (hb hby at_34) rfl ?_
  refine gBipush X7 hx (90 : Int32) (hb hby at_36) rfl ?_
  refine gIastore X7 hx hZ e7 V7_ 6 rfl ⟨by decide, by decide⟩ (hb hby at_38) ?_
  intro T8 h8 X8 e8 W8 V7___8
  have Z_8 := Nat.le_trans Z_7 (Nat.le_of_eq W8.size.symm)
  have N_8 := Fr.snoc X8 N_7 g_b1
  show Go _ _ _ _ _ _ _ T8 (mkF m 39 #[.val (.int p0), .val (.int p1), .val (.int p2), .unset, .unset, .unset, .unset, .unset, .unset] [(.ref b1)])
  obtain ⟨f8, V8_⟩ : ∃ f, IA Z h8 b1 .int 37 f := ⟨_, V7___8⟩
  refine gDup X8 hx (hb hby at_39) rfl ?_
  refine gBipush X8 hx (7 : Int32) (hb hby at_40) rfl ?_
  refine gBipush X8 hx (95 : Int32) (hb hby at_42) rfl ?_
  refine gIastore X8 hx hZ e8 V8_ 7 rfl ⟨by decide, by decide⟩ (hb hby at_44) ?_
  intro T9 h9 X9 e9 W9 V8___9
  have Z_9 := Nat.le_trans Z_8 (Nat.le_of_eq W9.size.symm)
  have N_9 := Fr.snoc X9 N_8 g_b1
  show Go _ _ _ _ _ _ _ T9 (mkF m 45 #[.val (.int p0), .val (.int p1), .val (.int p2), .unset, .unset, .unset, .unset, .unset, .unset] [(.ref b1)])
  obtain ⟨f9, V9_⟩ : ∃ f, IA Z h9 b1 .int 37 f := ⟨_, V8___9⟩
  refine gDup X9 hx (hb hby at_45) rfl ?_
  refine gBipush X9 hx (8 : Int32) (hb hby at_46) rfl ?_
  refine gBipush X9 hx (97 : Int32) (hb hby at_48) rfl ?_
  refine gIastore X9 hx hZ e9 V9_ 8 rfl ⟨by decide, by decide⟩ (hb hby at_50) ?_
  intro T10 h10 X10 e10 W10 V9___10
  have Z_10 := Nat.le_trans Z_9 (Nat.le_of_eq W10.size.symm)
  have N_10 := Fr.snoc X10 N_9 g_b1
  show Go _ _ _ _ _ _ _ T10 (mkF m 51 #[.val (.int p0), .val (.int p1), .val (.int p2), .unset, .unset, .unset, .unset, .unset, .unset] [(.ref b1)])
  obtain ⟨f10, V10_⟩ : ∃ f, IA Z h10 b1 .int 37 f := ⟨_, V9___10⟩
  refine gDup X10 hx (hb hby at_51) rfl ?_
  refine gBipush X10 hx (9 : Int32) (hb hby at_52) rfl ?_
  refine gBipush X10 hx (122 : Int32) (hb hby at_54) rfl ?_
  refine gIastore X10 hx hZ e10 V10_ 9 rfl ⟨by decide, by decide⟩ (hb hby at_56) ?_
  intro T11 h11 X11 e11 W11 V10___11
  have Z_11 := Nat.le_trans Z_10 (Nat.le_of_eq W11.size.symm)
  have N_11 := Fr.snoc X11 N_10 g_b1
  show Go _ _ _ _ _ _ _ T11 (mkF m 57 #[.val (.int p0), .val (.int p1), .val (.int p2), .unset, .unset, .unset, .unset, .unset, .unset] [(.ref b1)])
  obtain ⟨f11, V11_⟩ : ∃ f, IA Z h11 b1 .int 37 f := ⟨_, V10___11⟩
  refine gDup X11 hx (hb hby at_57) rfl ?_
  refine gBipush X11 hx (10 : Int32) (hb hby at_58) rfl ?_
  refine gBipush X11 hx (127 : Int32) (hb hby at_60) rfl ?_
  refine gIastore X11 hx hZ e11 V11_ 10 rfl ⟨by decide, by decide⟩ (hb hby at_62) ?_
  intro T12 h12 X12 e12 W12 V11___12
  have Z_12 := Nat.le_trans Z_11 (Nat.le_of_eq W12.size.symm)
  have N_12 := Fr.snoc X12 N_11 g_b1
  show Go _ _ _ _ _ _ _ T12 (mkF m 63 #[.val (.int p0), .val (.int p1), .val (.int p2), .unset, .unset, .unset, .unset, .unset, .unset] [(.ref b1)])
  obtain ⟨f12, V12_⟩ : ∃ f, IA Z h12 b1 .int 37 f := ⟨_, V11___12⟩
  refine gDup X12 hx (hb hby at_63) rfl ?_
  refine gBipush X12 hx (11 : Int32) (hb hby at_64) rfl ?_
  refine gSipush X12 hx (128 : Int32) (hb hby at_66) rfl ?_
  refine gIastore X12 hx hZ e12 V12_ 11 rfl ⟨by decide, by decide⟩ (hb hby at_69) ?_
  intro T13 h13 X13 e13 W13 V12___13
  have Z_13 := Nat.le_trans Z_12 (Nat.le_of_eq W13.size.symm)
  have N_13 := Fr.snoc X13 N_12 g_b1
  show Go _ _ _ _ _ _ _ T13 (mkF m 70 #[.val (.int p0), .val (.int p1), .val (.int p2), .unset, .unset, .unset, .unset, .unset, .unset] [(.ref b1)])
  obtain ⟨f13, V13_⟩ : ∃ f, IA Z h13 b1 .int 37 f := ⟨_, V12___13⟩
  refine gDup X13 hx (hb hby at_70) rfl ?_
  refine gBipush X13 hx (12 : Int32) (hb hby at_71) rfl ?_
  refine gSipush X13 hx (192 : Int32) (hb hby at_73) rfl ?_
  refine gIastore X13 hx hZ e13 V13_ 12 rfl ⟨by decide, by decide⟩ (hb hby at_76) ?_
  intro T14 h14 X14 e14 W14 V13___14
  have Z_14 := Nat.le_trans Z_13 (Nat.le_of_eq W14.size.symm)
  have N_14 := Fr.snoc X14 N_13 g_b1
  show Go _ _ _ _ _ _ _ T14 (mkF m 77 #[.val (.int p0), .val (.int p1), .val (.int p2), .unset, .unset, .unset, .unset, .unset, .unset] [(.ref b1)])
  obtain ⟨f14, V14_⟩ : ∃ f, IA Z h14 b1 .int 37 f := ⟨_, V13___14⟩
  refine gDup X14 hx (hb hby at_77) rfl ?_
  refine gBipush X14 hx (13 : Int32) (hb hby at_78) rfl ?_
  refine gSipush X14 hx (214 : Int32) (hb hby at_80) rfl ?_
  refine gIastore X14 hx hZ e14 V14_ 13 rfl ⟨by decide, by decide⟩ (hb hby at_83) ?_
  intro T15 h15 X15 e15 W15 V14___15
  have Z_15 := Nat.le_trans Z_14 (Nat.le_of_eq W15.size.symm)
  have N_15 := Fr.snoc X15 N_14 g_b1
  show Go _ _ _ _ _ _ _ T15 (mkF m 84 #[.val (.int p0), .val (.int p1), .val (.int p2), .unset, .unset, .unset, .unset, .unset, .unset] [(.ref b1)])
  obtain ⟨f15, V15_⟩ : ∃ f, IA Z h15 b1 .int 37 f := ⟨_, V14___15⟩
  refine gDup X15 hx (hb hby at_84) rfl ?_
  refine gBipush X15 hx (14 : Int32) (hb hby at_85) rfl ?_
  refine gSipush X15 hx (216 : Int32) (hb hby at_87) rfl ?_
  refine gIastore X15 hx hZ e15 V15_ 14 rfl ⟨by decide, by decide⟩ (hb hby at_90) ?_
  intro T16 h16 X16 e16 W16 V15___16
  have Z_16 := Nat.le_trans Z_15 (Nat.le_of_eq W16.size.symm)
  have N_16 := Fr.snoc X16 N_15 g_b1
  show Go _ _ _ _ _ _ _ T16 (mkF m 91 #[.val (.int p0), .val (.int p1), .val (.int p2), .unset, .unset, .unset, .unset, .unset, .unset] [(.ref b1)])
  obtain ⟨f16, V16_⟩ : ∃ f, IA Z h16 b1 .int 37 f := ⟨_, V15___16⟩
  refine gDup X16 hx (hb hby at_91) rfl ?_
  refine gBipush X16 hx (15 : Int32) (hb hby at_92) rfl ?_
  refine gSipush X16 hx (246 : Int32) (hb hby at_94) rfl ?_
  refine gIastore X16 hx hZ e16 V16_ 15 rfl ⟨by decide, by decide⟩ (hb hby at_97) ?_
  intro T17 h17 X17 e17 W17 V16___17
  have Z_17 := Nat.le_trans Z_16 (Nat.le_of_eq W17.size.symm)
  have N_17 := Fr.snoc X17 N_16 g_b1
  show Go _ _ _ _ _ _ _ T17 (mkF m 98 #[.val (.int p0), .val (.int p1), .val (.int p2), .unset, .unset, .unset, .unset, .unset, .unset] [(.ref b1)])
  obtain ⟨f17, V17_⟩ : ∃ f, IA Z h17 b1 .int 37 f := ⟨_, V16___17⟩
  refine gDup X17 hx (hb hby at_98) rfl ?_
  refine gBipush X17 hx (16 : Int32) (hb hby at_99) rfl ?_
  refine gSipush X17 hx (248 : Int32) (hb hby at_101) rfl ?_
  refine gIastore X17 hx hZ e17 V17_ 16 rfl ⟨by decide, by decide⟩ (hb hby at_104) ?_
  intro T18 h18 X18 e18 W18 V17___18
  have Z_18 := Nat.le_trans Z_17 (Nat.le_of_eq W18.size.symm)
  have N_18 := Fr.snoc X18 N_17 g_b1
  show Go _ _ _ _ _ _ _ T18 (mkF m 105 #[.val (.int p0), .val (.int p1), .val (.int p2), .unset, .unset, .unset, .unset, .unset, .unset] [(.ref b1)])
  obtain ⟨f18, V18_⟩ : ∃ f, IA Z h18 b1 .int 37 f := ⟨_, V17___18⟩
  refine gDup X18 hx (hb hby at_105) rfl ?_
  refine gBipush X18 hx (17 : Int32) (hb hby at_106) rfl ?_
  refine gSipush X18 hx (767 : Int32) (hb hby at_108) rfl ?_
  refine gIastore X18 hx hZ e18 V18_ 17 rfl ⟨by decide, by decide⟩ (hb hby at_111) ?_
  intro T19 h19 X19 e19 W19 V18___19
  have Z_19 := Nat.le_trans Z_18 (Nat.le_of_eq W19.size.symm)
  have N_19 := Fr.snoc X19 N_18 g_b1
  show Go _ _ _ _ _ _ _ T19 (mkF m 112 #[.val (.int p0), .val (.int p1), .val (.int p2), .unset, .unset, .unset, .unset, .unset, .unset] [(.ref b1)])
  obtain ⟨f19, V19_⟩ : ∃ f, IA Z h19 b1 .int 37 f := ⟨_, V18___19⟩
  refine gDup X19 hx (hb hby at_112) rfl ?_
  refine gBipush X19 hx (18 : Int32) (hb hby at_113) rfl ?_
  refine gSipush X19 hx (880 : Int32) (hb hby at_115) rfl ?_
  refine gIastore X19 hx hZ e19 V19_ 18 rfl ⟨by decide, by decide⟩ (hb hby at_118) ?_
  intro T20 h20 X20 e20 W20 V19___20
  have Z_20 := Nat.le_trans Z_19 (Nat.le_of_eq W20.size.symm)
  have N_20 := Fr.snoc X20 N_19 g_b1
  show Go _ _ _ _ _ _ _ T20 (mkF m 119 #[.val (.int p0), .val (.int p1), .val (.int p2), .unset, .unset, .unset, .unset, .unset, .unset] [(.ref b1)])
  obtain ⟨f20, V20_⟩ : ∃ f, IA Z h20 b1 .int 37 f := ⟨_, V19___20⟩
  refine gDup X20 hx (hb hby at_119) rfl ?_
  refine gBipush X20 hx (19 : Int32) (hb hby at_120) rfl ?_
  refine gSipush X20 hx (893 : Int32) (hb hby at_122) rfl ?_
  refine gIastore X20 hx hZ e20 V20_ 19 rfl ⟨by decide, by decide⟩ (hb hby at_125) ?_
  intro T21 h21 X21 e21 W21 V20___21
  have Z_21 := Nat.le_trans Z_20 (Nat.le_of_eq W21.size.symm)
  have N_21 := Fr.snoc X21 N_20 g_b1
  show Go _ _ _ _ _ _ _ T21 (mkF m 126 #[.val (.int p0), .val (.int p1), .val (.int p2), .unset, .unset, .unset, .unset, .unset, .unset] [(.ref b1)])
  obtain ⟨f21, V21_⟩ : ∃ f, IA Z h21 b1 .int 37 f := ⟨_, V20___21⟩
  refine gDup X21 hx (hb hby at_126) rfl ?_
  refine gBipush X21 hx (20 : Int32) (hb hby at_127) rfl ?_
  refine gSipush X21 hx (895 : Int32) (hb hby at_129) rfl ?_
  refine gIastore X21 hx hZ e21 V21_ 20 rfl ⟨by decide, by decide⟩ (hb hby at_132) ?_
  intro T22 h22 X22 e22 W22 V21___22
  have Z_22 := Nat.le_trans Z_21 (Nat.le_of_eq W22.size.symm)
  have N_22 := Fr.snoc X22 N_21 g_b1
  show Go _ _ _ _ _ _ _ T22 (mkF m 133 #[.val (.int p0), .val (.int p1), .val (.int p2), .unset, .unset, .unset, .unset, .unset, .unset] [(.ref b1)])
  obtain ⟨f22, V22_⟩ : ∃ f, IA Z h22 b1 .int 37 f := ⟨_, V21___22⟩
  refine gDup X22 hx (hb hby at_133) rfl ?_
  refine gBipush X22 hx (21 : Int32) (hb hby at_134) rfl ?_
  refine gSipush X22 hx (8191 : Int32) (hb hby at_136) rfl ?_
  refine gIastore X22 hx hZ e22 V22_ 21 rfl ⟨by decide, by decide⟩ (hb hby at_139) ?_
  intro T23 h23 X23 e23 W23 V22___23
  have Z_23 := Nat.le_trans Z_22 (Nat.le_of_eq W23.size.symm)
  have N_23 := Fr.snoc X23 N_22 g_b1
  show Go _ _ _ _ _ _ _ T23 (mkF m 140 #[.val (.int p0), .val (.int p1), .val (.int p2), .unset, .unset, .unset, .unset, .unset, .unset] [(.ref b1)])
  obtain ⟨f23, V23_⟩ : ∃ f, IA Z h23 b1 .int 37 f := ⟨_, V22___23⟩
  refine gDup X23 hx (hb hby at_140) rfl ?_
  refine gBipush X23 hx (22 : Int32) (hb hby at_141) rfl ?_
  refine gSipush X23 hx (8204 : Int32) (hb hby at_143) rfl ?_
  refine gIastore X23 hx hZ e23 V23_ 22 rfl ⟨by decide, by decide⟩ (hb hby at_146) ?_
  intro T24 h24 X24 e24 W24 V23___24
  have Z_24 := Nat.le_trans Z_23 (Nat.le_of_eq W24.size.symm)
  have N_24 := Fr.snoc X24 N_23 g_b1
  show Go _ _ _ _ _ _ _ T24 (mkF m 147 #[.val (.int p0), .val (.int p1), .val (.int p2), .unset, .unset, .unset, .unset, .unset, .unset] [(.ref b1)])
  obtain ⟨f24, V24_⟩ : ∃ f, IA Z h24 b1 .int 37 f := ⟨_, V23___24⟩
  refine gDup X24 hx (hb hby at_147) rfl ?_
  refine gBipush X24 hx (23 : Int32) (hb hby at_148) rfl ?_
  refine gSipush X24 hx (8205 : Int32) (hb hby at_150) rfl ?_
  refine gIastore X24 hx hZ e24 V24_ 23 rfl ⟨by decide, by decide⟩ (hb hby at_153) ?_
  intro T25 h25 X25 e25 W25 V24___25
  have Z_25 := Nat.le_trans Z_24 (Nat.le_of_eq W25.size.symm)
  have N_25 := Fr.snoc X25 N_24 g_b1
  show Go _ _ _ _ _ _ _ T25 (mkF m 154 #[.val (.int p0), .val (.int p1), .val (.int p2), .unset, .unset, .unset, .unset, .unset, .unset] [(.ref b1)])
  obtain ⟨f25, V25_⟩ : ∃ f, IA Z h25 b1 .int 37 f := ⟨_, V24___25⟩
  refine gDup X25 hx (hb hby at_154) rfl ?_
  refine gBipush X25 hx (24 : Int32) (hb hby at_155) rfl ?_
  refine gSipush X25 hx (8304 : Int32) (hb hby at_157) rfl ?_
  refine gIastore X25 hx hZ e25 V25_ 24 rfl ⟨by decide, by decide⟩ (hb hby at_160) ?_
  intro T26 h26 X26 e26 W26 V25___26
  have Z_26 := Nat.le_trans Z_25 (Nat.le_of_eq W26.size.symm)
  have N_26 := Fr.snoc X26 N_25 g_b1
  show Go _ _ _ _ _ _ _ T26 (mkF m 161 #[.val (.int p0), .val (.int p1), .val (.int p2), .unset, .unset, .unset, .unset, .unset, .unset] [(.ref b1)])
  obtain ⟨f26, V26_⟩ : ∃ f, IA Z h26 b1 .int 37 f := ⟨_, V25___26⟩
  refine gDup X26 hx (hb hby at_161) rfl ?_
  refine gBipush X26 hx (25 : Int32) (hb hby at_162) rfl ?_
  refine gSipush X26 hx (8591 : Int32) (hb hby at_164) rfl ?_
  refine gIastore X26 hx hZ e26 V26_ 25 rfl ⟨by decide, by decide⟩ (hb hby at_167) ?_
  intro T27 h27 X27 e27 W27 V26___27
  have Z_27 := Nat.le_trans Z_26 (Nat.le_of_eq W27.size.symm)
  have N_27 := Fr.snoc X27 N_26 g_b1
  show Go _ _ _ _ _ _ _ T27 (mkF m 168 #[.val (.int p0), .val (.int p1), .val (.int p2), .unset, .unset, .unset, .unset, .unset, .unset] [(.ref b1)])
  obtain ⟨f27, V27_⟩ : ∃ f, IA Z h27 b1 .int 37 f := ⟨_, V26___27⟩
  refine gDup X27 hx (hb hby at_168) rfl ?_
  refine gBipush X27 hx (26 : Int32) (hb hby at_169) rfl ?_
  refine gSipush X27 hx (11264 : Int32) (hb hby at_171) rfl ?_
  refine gIastore X27 hx hZ e27 V27_ 26 rfl ⟨by decide, by decide⟩ (hb hby at_174) ?_
  intro T28 h28 X28 e28 W28 V27___28
  have Z_28 := Nat.le_trans Z_27 (Nat.le_of_eq W28.size.symm)
  have N_28 := Fr.snoc X28 N_27 g_b1
  show Go _ _ _ _ _ _ _ T28 (mkF m 175 #[.val (.int p0), .val (.int p1), .val (.int p2), .unset, .unset, .unset, .unset, .unset, .unset] [(.ref b1)])
  obtain ⟨f28, V28_⟩ : ∃ f, IA Z h28 b1 .int 37 f := ⟨_, V27___28⟩
  refine gDup X28 hx (hb hby at_175) rfl ?_
  refine gBipush X28 hx (27 : Int32) (hb hby at_176) rfl ?_
  refine gSipush X28 hx (12271 : Int32) (hb hby at_178) rfl ?_
  refine gIastore X28 hx hZ e28 V28_ 27 rfl ⟨by decide, by decide⟩ (hb hby at_181) ?_
  intro T29 h29 X29 e29 W29 V28___29
  have Z_29 := Nat.le_trans Z_28 (Nat.le_of_eq W29.size.symm)
  have N_29 := Fr.snoc X29 N_28 g_b1
  show Go _ _ _ _ _ _ _ T29 (mkF m 182 #[.val (.int p0), .val (.int p1), .val (.int p2), .unset, .unset, .unset, .unset, .unset, .unset] [(.ref b1)])
  obtain ⟨f29, V29_⟩ : ∃ f, IA Z h29 b1 .int 37 f := ⟨_, V28___29⟩
  refine gDup X29 hx (hb hby at_182) rfl ?_
  refine gBipush X29 hx (28 : Int32) (hb hby at_183) rfl ?_
  refine gSipush X29 hx (12289 : Int32) (hb hby at_185) rfl ?_
  refine gIastore X29 hx hZ e29 V29_ 28 rfl ⟨by decide, by decide⟩ (hb hby at_188) ?_
  intro T30 h30 X30 e30 W30 V29___30
  have Z_30 := Nat.le_trans Z_29 (Nat.le_of_eq W30.size.symm)
  have N_30 := Fr.snoc X30 N_29 g_b1
  show Go _ _ _ _ _ _ _ T30 (mkF m 189 #[.val (.int p0), .val (.int p1), .val (.int p2), .unset, .unset, .unset, .unset, .unset, .unset] [(.ref b1)])
  obtain ⟨f30, V30_⟩ : ∃ f, IA Z h30 b1 .int 37 f := ⟨_, V29___30⟩
  refine gDup X30 hx (hb hby at_189) rfl ?_
  refine gBipush X30 hx (29 : Int32) (hb hby at_190) rfl ?_
  refine gLdc X30 hx hZ (55295 : Int32) hown (tw hw 2 rfl) (hb hby at_192) ?_
  refine gIastore X30 hx hZ e30 V30_ 29 rfl ⟨by decide, by decide⟩ (hb hby at_194) ?_
  intro T31 h31 X31 e31 W31 V30___31
  have Z_31 := Nat.le_trans Z_30 (Nat.le_of_eq W31.size.symm)
  have N_31 := Fr.snoc X31 N_30 g_b1
  show Go _ _ _ _ _ _ _ T31 (mkF m 195 #[.val (.int p0), .val (.int p1), .val (.int p2), .unset, .unset, .unset, .unset, .unset, .unset] [(.ref b1)])
  obtain ⟨f31, V31_⟩ : ∃ f, IA Z h31 b1 .int 37 f := ⟨_, V30___31⟩
  refine gDup X31 hx (hb hby at_195) rfl ?_
  refine gBipush X31 hx (30 : Int32) (hb hby at_196) rfl ?_
  refine gLdc X31 hx hZ (63744 : Int32) hown (tw hw 3 rfl) (hb hby at_198) ?_
  refine gIastore X31 hx hZ e31 V31_ 30 rfl ⟨by decide, by decide⟩ (hb hby at_200) ?_
  intro T32 h32 X32 e32 W32 V31___32
  have Z_32 := Nat.le_trans Z_31 (Nat.le_of_eq W32.size.symm)
  have N_32 := Fr.snoc X32 N_31 g_b1
  show Go _ _ _ _ _ _ _ T32 (mkF m 201 #[.val (.int p0), .val (.int p1), .val (.int p2), .unset, .unset, .unset, .unset, .unset, .unset] [(.ref b1)])
  obtain ⟨f32, V32_⟩ : ∃ f, IA Z h32 b1 .int 37 f := ⟨_, V31___32⟩
  refine gDup X32 hx (hb hby at_201) rfl ?_
  refine gBipush X32 hx (31 : Int32) (hb hby at_202) rfl ?_
  refine gLdc X32 hx hZ (64975 : Int32) hown (tw hw 4 rfl) (hb hby at_204) ?_
  refine gIastore X32 hx hZ e32 V32_ 31 rfl ⟨by decide, by decide⟩ (hb hby at_206) ?_
  intro T33 h33 X33 e33 W33 V32___33
  have Z_33 := Nat.le_trans Z_32 (Nat.le_of_eq W33.size.symm)
  have N_33 := Fr.snoc X33 N_32 g_b1
  show Go _ _ _ _ _ _ _ T33 (mkF m 207 #[.val (.int p0), .val (.int p1), .val (.int p2), .unset, .unset, .unset, .unset, .unset, .unset] [(.ref b1)])
  obtain ⟨f33, V33_⟩ : ∃ f, IA Z h33 b1 .int 37 f := ⟨_, V32___33⟩
  refine gDup X33 hx (hb hby at_207) rfl ?_
  refine gBipush X33 hx (32 : Int32) (hb hby at_208) rfl ?_
  refine gLdc X33 hx hZ (65008 : Int32) hown (tw hw 5 rfl) (hb hby at_210) ?_
  refine gIastore X33 hx hZ e33 V33_ 32 rfl ⟨by decide, by decide⟩ (hb hby at_212) ?_
  intro T34 h34 X34 e34 W34 V33___34
  have Z_34 := Nat.le_trans Z_33 (Nat.le_of_eq W34.size.symm)
  have N_34 := Fr.snoc X34 N_33 g_b1
  show Go _ _ _ _ _ _ _ T34 (mkF m 213 #[.val (.int p0), .val (.int p1), .val (.int p2), .unset, .unset, .unset, .unset, .unset, .unset] [(.ref b1)])
  obtain ⟨f34, V34_⟩ : ∃ f, IA Z h34 b1 .int 37 f := ⟨_, V33___34⟩
  refine gDup X34 hx (hb hby at_213) rfl ?_
  refine gBipush X34 hx (33 : Int32) (hb hby at_214) rfl ?_
  refine gLdc X34 hx hZ (65533 : Int32) hown (tw hw 6 rfl) (hb hby at_216) ?_
  refine gIastore X34 hx hZ e34 V34_ 33 rfl ⟨by decide, by decide⟩ (hb hby at_218) ?_
  intro T35 h35 X35 e35 W35 V34___35
  have Z_35 := Nat.le_trans Z_34 (Nat.le_of_eq W35.size.symm)
  have N_35 := Fr.snoc X35 N_34 g_b1
  show Go _ _ _ _ _ _ _ T35 (mkF m 219 #[.val (.int p0), .val (.int p1), .val (.int p2), .unset, .unset, .unset, .unset, .unset, .unset] [(.ref b1)])
  obtain ⟨f35, V35_⟩ : ∃ f, IA Z h35 b1 .int 37 f := ⟨_, V34___35⟩
  refine gDup X35 hx (hb hby at_219) rfl ?_
  refine gBipush X35 hx (34 : Int32) (hb hby at_220) rfl ?_
  refine gLdc X35 hx hZ (65536 : Int32) hown (tw hw 7 rfl) (hb hby at_222) ?_
  refine gIastore X35 hx hZ e35 V35_ 34 rfl ⟨by decide, by decide⟩ (hb hby at_224) ?_
  intro T36 h36 X36 e36 W36 V35___36
  have Z_36 := Nat.le_trans Z_35 (Nat.le_of_eq W36.size.symm)
  have N_36 := Fr.snoc X36 N_35 g_b1
  show Go _ _ _ _ _ _ _ T36 (mkF m 225 #[.val (.int p0), .val (.int p1), .val (.int p2), .unset, .unset, .unset, .unset, .unset, .unset] [(.ref b1)])
  obtain ⟨f36, V36_⟩ : ∃ f, IA Z h36 b1 .int 37 f := ⟨_, V35___36⟩
  refine gDup X36 hx (hb hby at_225) rfl ?_
  refine gBipush X36 hx (35 : Int32) (hb hby at_226) rfl ?_
  refine gLdc X36 hx hZ (983039 : Int32) hown (tw hw 8 rfl) (hb hby at_228) ?_
  refine gIastore X36 hx hZ e36 V36_ 35 rfl ⟨by decide, by decide⟩ (hb hby at_230) ?_
  intro T37 h37 X37 e37 W37 V36___37
  have Z_37 := Nat.le_trans Z_36 (Nat.le_of_eq W37.size.symm)
  have N_37 := Fr.snoc X37 N_36 g_b1
  show Go _ _ _ _ _ _ _ T37 (mkF m 231 #[.val (.int p0), .val (.int p1), .val (.int p2), .unset, .unset, .unset, .unset, .unset, .unset] [(.ref b1)])
  obtain ⟨f37, V37_⟩ : ∃ f, IA Z h37 b1 .int 37 f := ⟨_, V36___37⟩
  refine gDup X37 hx (hb hby at_231) rfl ?_
  refine gBipush X37 hx (36 : Int32) (hb hby at_232) rfl ?_
  refine gLdc X37 hx hZ (2147483647 : Int32) hown (tw hw 9 rfl) (hb hby at_234) ?_
  refine gIastore X37 hx hZ e37 V37_ 36 rfl ⟨by decide, by decide⟩ (hb hby at_236) ?_
  intro T38 h38 X38 e38 W38 V37___38
  have Z_38 := Nat.le_trans Z_37 (Nat.le_of_eq W38.size.symm)
  have N_38 := Fr.snoc X38 N_37 g_b1
  show Go _ _ _ _ _ _ _ T38 (mkF m 237 #[.val (.int p0), .val (.int p1), .val (.int p2), .unset, .unset, .unset, .unset, .unset, .unset] [(.ref b1)])
  obtain ⟨f38, V38_⟩ : ∃ f, IA Z h38 b1 .int 37 f := ⟨_, V37___38⟩
  refine gAstoreN X38 hx #[.val (.int p0), .val (.int p1), .val (.int p2), .val (.ref b1), .unset, .unset, .unset, .unset, .unset] (hb hby at_237) rfl rfl ?_
  refine gIloadN X38 hx (hb hby at_238) rfl ?_
  refine gLdc X38 hx hZ (2147483647 : Int32) hown (tw hw 9 rfl) (hb hby at_239) ?_
  refine gIand X38 hx (hb hby at_241) ?_
  refine gAloadN X38 hx (hb hby at_242) rfl rfl ?_
  refine gLength X38 hx hZ e38 V38_ (hb hby at_243) ?_
  show Go _ _ _ _ _ _ _ T38 (mkF m 244 #[.val (.int p0), .val (.int p1), .val (.int p2), .val (.ref b1), .unset, .unset, .unset, .unset, .unset] [(.int (Nat.toInt32 37)), (.int (p1 &&& (2147483647 : Int32)))])
  refine gIrem X38 hx (hb hby at_244) (by decide) ?_
  refine gIstore X38 hx #[.val (.int p0), .val (.int p1), .val (.int p2), .val (.ref b1), .val (.int ((p1 &&& (2147483647 : Int32)) % (Nat.toInt32 37))), .unset, .unset, .unset, .unset] (hb hby at_245) rfl ?_
  refine gIloadN X38 hx (hb hby at_247) rfl ?_
  refine gLdc X38 hx hZ (2147483647 : Int32) hown (tw hw 9 rfl) (hb hby at_248) ?_
  refine gIand X38 hx (hb hby at_250) ?_
  refine gIconst X38 hx (3 : Int32) (hb hby at_251) rfl ?_
  refine gIrem X38 hx (hb hby at_252) (by decide) ?_
  refine gIconst X38 hx (1 : Int32) (hb hby at_253) rfl ?_
  refine gIsub X38 hx (hb hby at_254) ?_
  refine gIstore X38 hx #[.val (.int p0), .val (.int p1), .val (.int p2), .val (.ref b1), .val (.int ((p1 &&& (2147483647 : Int32)) % (Nat.toInt32 37))), .val (.int (((p2 &&& (2147483647 : Int32)) % (3 : Int32)) - (1 : Int32))), .unset, .unset, .unset] (hb hby at_255) rfl ?_
  refine gAloadN X38 hx (hb hby at_257) rfl rfl ?_
  refine gIload X38 hx (hb hby at_258) rfl ?_
  refine gIaload X38 hx hZ e38 V38_ (own_idx p1) (hb hby at_260) ?_
  show Go _ _ _ _ _ _ _ T38 (mkF m 261 #[.val (.int p0), .val (.int p1), .val (.int p2), .val (.ref b1), .val (.int ((p1 &&& (2147483647 : Int32)) % (Nat.toInt32 37))), .val (.int (((p2 &&& (2147483647 : Int32)) % (3 : Int32)) - (1 : Int32))), .unset, .unset, .unset] [(.int (f38 ((p1 &&& (2147483647 : Int32)) % (Nat.toInt32 37)).toNatClampNeg))])
  refine gIload X38 hx (hb hby at_261) rfl ?_
  refine gIadd X38 hx (hb hby at_263) ?_
  generalize ((f38 ((p1 &&& (2147483647 : Int32)) % (Nat.toInt32 37)).toNatClampNeg) + (((p2 &&& (2147483647 : Int32)) % (3 : Int32)) - (1 : Int32))) = cc
  refine gIstore X38 hx #[.val (.int p0), .val (.int p1), .val (.int p2), .val (.ref b1), .val (.int ((p1 &&& (2147483647 : Int32)) % (Nat.toInt32 37))), .val (.int (((p2 &&& (2147483647 : Int32)) % (3 : Int32)) - (1 : Int32))), .val (.int cc), .unset, .unset] (hb hby at_264) rfl ?_
  refine gIloadN X38 hx (hb hby at_266) rfl ?_
  refine gStatic X38 hx hZ (y := (⟨"com/example/deep_query/deepquery/xdm/XmlChars", "isNameStartChar", "(I)Z"⟩ : MethodName)) hown (by decide) (tw hw 10 rfl) (tw hw 11 rfl) (tw hw 12 rfl) (tw hw 13 rfl) (own_rm0 l Z a0 hw p0 h38 n0 Z_38) e38 (by rw [hml]; rfl) (argsL := [(.int p0)]) (rest := []) (W := 0) (lenOf own_pd0 rfl) rfl (Nat.le_of_eq rfl) (by decide) (by decide) (by decide) (by decide) (hb hby at_267) ?_
  rintro _ T39 L39 X39 ⟨rfl, Nq39, e39⟩
  have N_39 := Fr.app N_38 Nq39
  show Go _ _ _ _ _ _ _ T39 (mkF m 270 #[.val (.int p0), .val (.int p1), .val (.int p2), .val (.ref b1), .val (.int ((p1 &&& (2147483647 : Int32)) % (Nat.toInt32 37))), .val (.int (((p2 &&& (2147483647 : Int32)) % (3 : Int32)) - (1 : Int32))), .val (.int cc), .unset, .unset] [(.int (own_f p0))])
  refine gIloadN X39 hx (hb hby at_270) rfl ?_
  refine gStatic X39 hx hZ (y := (⟨"com/example/deep_query/deepquery/xdm/XmlCharsIsNameStartCharPinLaw", "ref", "(I)Z"⟩ : MethodName)) hown (by decide) (tw hw 14 rfl) (tw hw 15 rfl) (tw hw 16 rfl) (tw hw 17 rfl) (own_rm1 l Z a0 hw p0 h38 n0 Z_38) e39 (by rw [hml]; rfl) (argsL := [(.int p0)]) (rest := [(.int (own_f p0))]) (W := 1) (lenOf own_pd0 rfl) rfl (Nat.le_of_eq rfl) (by decide) (by decide) (by decide) (by decide) (hb hby at_271) ?_
  rintro _ T40 L40 X40 ⟨rfl, Nq40, e40⟩
  have N_40 := Fr.app N_39 Nq40
  show Go _ _ _ _ _ _ _ T40 (mkF m 274 #[.val (.int p0), .val (.int p1), .val (.int p2), .val (.ref b1), .val (.int ((p1 &&& (2147483647 : Int32)) % (Nat.toInt32 37))), .val (.int (((p2 &&& (2147483647 : Int32)) % (3 : Int32)) - (1 : Int32))), .val (.int cc), .unset, .unset] [(.int (own_r p0)), (.int (own_f p0))])
  refine gIcmp X40 hx 281 (hb hby at_274) (by decide) (by decide) (fun q => absurd (own_same p0) (o_neT q)) (fun _ => ?_)
  show Go _ _ _ _ _ _ _ T40 (mkF m 277 #[.val (.int p0), .val (.int p1), .val (.int p2), .val (.ref b1), .val (.int ((p1 &&& (2147483647 : Int32)) % (Nat.toInt32 37))), .val (.int (((p2 &&& (2147483647 : Int32)) % (3 : Int32)) - (1 : Int32))), .val (.int cc), .unset, .unset] [])
  refine gIconst X40 hx (1 : Int32) (hb hby at_277) rfl ?_
  refine gGoto X40 hx 282 (hb hby at_278) (by decide) (by decide) ?_
  refine gIstore X40 hx #[.val (.int p0), .val (.int p1), .val (.int p2), .val (.ref b1), .val (.int ((p1 &&& (2147483647 : Int32)) % (Nat.toInt32 37))), .val (.int (((p2 &&& (2147483647 : Int32)) % (3 : Int32)) - (1 : Int32))), .val (.int cc), .val (.int (1 : Int32)), .unset] (hb hby at_282) rfl ?_
  refine gIload X40 hx (hb hby at_284) rfl ?_
  refine gStatic X40 hx hZ (y := (⟨"com/example/deep_query/deepquery/xdm/XmlChars", "isNameStartChar", "(I)Z"⟩ : MethodName)) hown (by decide) (tw hw 10 rfl) (tw hw 11 rfl) (tw hw 12 rfl) (tw hw 13 rfl) (own_rm0 l Z a0 hw cc h38 n0 Z_38) e40 (by rw [hml]; rfl) (argsL := [(.int cc)]) (rest := []) (W := 0) (lenOf own_pd0 rfl) rfl (Nat.le_of_eq rfl) (by decide) (by decide) (by decide) (by decide) (hb hby at_286) ?_
  rintro _ T41 L41 X41 ⟨rfl, Nq41, e41⟩
  have N_41 := Fr.app N_40 Nq41
  show Go _ _ _ _ _ _ _ T41 (mkF m 289 #[.val (.int p0), .val (.int p1), .val (.int p2), .val (.ref b1), .val (.int ((p1 &&& (2147483647 : Int32)) % (Nat.toInt32 37))), .val (.int (((p2 &&& (2147483647 : Int32)) % (3 : Int32)) - (1 : Int32))), .val (.int cc), .val (.int (1 : Int32)), .unset] [(.int (own_f cc))])
  refine gIload X41 hx (hb hby at_289) rfl ?_
  refine gStatic X41 hx hZ (y := (⟨"com/example/deep_query/deepquery/xdm/XmlCharsIsNameStartCharPinLaw", "ref", "(I)Z"⟩ : MethodName)) hown (by decide) (tw hw 14 rfl) (tw hw 15 rfl) (tw hw 16 rfl) (tw hw 17 rfl) (own_rm1 l Z a0 hw cc h38 n0 Z_38) e41 (by rw [hml]; rfl) (argsL := [(.int cc)]) (rest := [(.int (own_f cc))]) (W := 1) (lenOf own_pd0 rfl) rfl (Nat.le_of_eq rfl) (by decide) (by decide) (by decide) (by decide) (hb hby at_291) ?_
  rintro _ T42 L42 X42 ⟨rfl, Nq42, e42⟩
  have N_42 := Fr.app N_41 Nq42
  show Go _ _ _ _ _ _ _ T42 (mkF m 294 #[.val (.int p0), .val (.int p1), .val (.int p2), .val (.ref b1), .val (.int ((p1 &&& (2147483647 : Int32)) % (Nat.toInt32 37))), .val (.int (((p2 &&& (2147483647 : Int32)) % (3 : Int32)) - (1 : Int32))), .val (.int cc), .val (.int (1 : Int32)), .unset] [(.int (own_r cc)), (.int (own_f cc))])
  refine gIcmp X42 hx 301 (hb hby at_294) (by decide) (by decide) (fun q => absurd (own_same cc) (o_neT q)) (fun _ => ?_)
  show Go _ _ _ _ _ _ _ T42 (mkF m 297 #[.val (.int p0), .val (.int p1), .val (.int p2), .val (.ref b1), .val (.int ((p1 &&& (2147483647 : Int32)) % (Nat.toInt32 37))), .val (.int (((p2 &&& (2147483647 : Int32)) % (3 : Int32)) - (1 : Int32))), .val (.int cc), .val (.int (1 : Int32)), .unset] [])
  refine gIconst X42 hx (1 : Int32) (hb hby at_297) rfl ?_
  refine gGoto X42 hx 302 (hb hby at_298) (by decide) (by decide) ?_
  refine gIstore X42 hx #[.val (.int p0), .val (.int p1), .val (.int p2), .val (.ref b1), .val (.int ((p1 &&& (2147483647 : Int32)) % (Nat.toInt32 37))), .val (.int (((p2 &&& (2147483647 : Int32)) % (3 : Int32)) - (1 : Int32))), .val (.int cc), .val (.int (1 : Int32)), .val (.int (1 : Int32))] (hb hby at_302) rfl ?_
  refine gIload X42 hx (hb hby at_304) rfl ?_
  refine gIf X42 hx 318 (hb hby at_306) (by decide) (by decide) (fun q => absurd (o_eqT q) (by decide)) (fun _ => ?_)
  show Go _ _ _ _ _ _ _ T42 (mkF m 309 #[.val (.int p0), .val (.int p1), .val (.int p2), .val (.ref b1), .val (.int ((p1 &&& (2147483647 : Int32)) % (Nat.toInt32 37))), .val (.int (((p2 &&& (2147483647 : Int32)) % (3 : Int32)) - (1 : Int32))), .val (.int cc), .val (.int (1 : Int32)), .val (.int (1 : Int32))] [])
  refine gIload X42 hx (hb hby at_309) rfl ?_
  refine gIf X42 hx 318 (hb hby at_311) (by decide) (by decide) (fun q => absurd (o_eqT q) (by decide)) (fun _ => ?_)
  show Go _ _ _ _ _ _ _ T42 (mkF m 314 #[.val (.int p0), .val (.int p1), .val (.int p2), .val (.ref b1), .val (.int ((p1 &&& (2147483647 : Int32)) % (Nat.toInt32 37))), .val (.int (((p2 &&& (2147483647 : Int32)) % (3 : Int32)) - (1 : Int32))), .val (.int cc), .val (.int (1 : Int32)), .val (.int (1 : Int32))] [])
  refine gIconst X42 hx (1 : Int32) (hb hby at_314) rfl ?_
  refine gGoto X42 hx 319 (hb hby at_315) (by decide) (by decide) ?_
  subst e42
  exact gRetZ X42 hx hlk hret (by simp) (hb hby at_319) (z' := (1 : Int32)) rfl (by decide) (by decide) ⟨rfl, N_42⟩
set_option maxRecDepth 65536 in
set_option maxHeartbeats 40000000 in
theorem comes_1 {Post : Tables → Env → Array Value → State → Outcome → State → Prop} (hpost : ∀ tb e args s v u, (limb_1_1.after args s (.returned v) u = true ∧ limb_1_2.after args s (.returned v) u = true ∧ True) → FrameEnd s (.returned v) u (Jvm.fieldLocs frame_1_writes args s ++ Jvm.arrayLocs frame_1_arrays args s ++ Jvm.staticLocs frame_1_statics s) 16 192 → Post tb e args s (.returned v) u) :
    ArmFor flags0 classFile x code maxLocals ret World_1 tables_1 room_1 Calls_1 rest_1 Pre_1 Post := by
  intro l hfl _ _ p e ha hc hk s m args below hf hA hF happ hP
  obtain ⟨hcalls, hrest, hpre⟩ := hP
  obtain ⟨-, -, -, hnamed, -, -, -, hat⟩ := (Spec.applies_iff hf).mp happ
  obtain ⟨hg, hn⟩ := and_e (Cond.before_iff.mp (show (Jvm.Cond.and given_1 narrow_1).before args s = true from hpre))
  obtain ⟨h1, hr0⟩ := and_e hg
  obtain ⟨hv0, hr1⟩ := and_e hr0
  obtain ⟨hv1, hr2⟩ := and_e hr1
  have hv2 := hr2
  obtain ⟨w0, w1, w2, rfl⟩ : ∃ w0 w1 w2 : Value, args = #[w0, w1, w2] := by
    have hs : args.size = 3 := by simpa [Cond.value, given_1] using h1
    obtain ⟨L⟩ := args
    match L, hs with
    | [w0, w1, w2], _ => exact ⟨w0, w1, w2, rfl⟩
  have hw := fun d (hd : d ∈ tables_1) => atoms_spec (ws := Jvm.Cond.code x code maxLocals ret :: tables_1) hat d (List.mem_cons_of_mem _ hd)
  obtain ⟨i0, ei0⟩ := is_v hv0
  obtain rfl : w0 = (.int i0) := Option.some.inj ei0
  obtain ⟨i1, ei1⟩ := is_v hv1
  obtain rfl : w1 = (.int i1) := Option.some.inj ei1
  obtain ⟨i2, ei2⟩ := is_v hv2
  obtain rfl : w2 = (.int i2) := Option.some.inj ei2
  obtain ⟨n, o, h1, h2, h3, _, L, rfl, ⟨rfl, N⟩, hq⟩ := own_rm2 l s _ hw i0 i1 i2 s.heap s.heap.size (Nat.le_refl _) p e ha hc hk s m _ below hf ((Spec.applies_iff_loose hf).mp happ).1 ⟨rfl, State.Warmed39.refl s, rfl⟩ trivial
  refine ⟨n, _, h1, h2, h3, hpost _ _ _ _ _ _ ⟨Cond.after_iff.mpr rfl, Cond.after_iff.mpr (eq_i res_at (Term.int_eval (1)) rfl), trivial⟩ ⟨hq.1, hq.2.1, (hq.2.2.sift fun y hy => Or.inr (N y hy)).mono (by decide) (by decide)⟩⟩
theorem main_1_1 : Claimed_1_1 := comes_1 fun _ _ _ _ _ _ h hF => ⟨h.1, hF⟩
theorem main_1_2 : Claimed_1_2 := comes_1 fun _ _ _ _ _ _ h hF => ⟨h.2.1, hF⟩
end Jvm.Pilot.@@N@@
namespace Jvm.Pilot.@@N@@
open Jvm Jvm.ClassFile Sem Op Lib Jvm.Free Jvm.Stand Jvm.Pilot.@@N@@.Jvm.D
/-! MADE BY PROGRAM (witnessworld.py) out of the Statement's table words and the real class files: 9 classes; the members and pool entries that the words name. The judged class is class 1, her method 2. -/
namespace start1
open Jvm.ClassFile
def u (s : String) : CpInfo := .utf8 (stringToUtf16 s)
/-- a pool by its gaps: so many unusable entries, then the entry; so many at the end -/
def gap : Nat → List CpInfo → List CpInfo
  | 0, r => r
  | n + 1, r => .unusable :: gap n r
def poolList (es : List (Nat × CpInfo)) (last : Nat) : List CpInfo := es.foldr (fun e r => gap e.1 (e.2 :: r)) (gap last [])
def pool (es : List (Nat × CpInfo)) (last : Nat) : Array CpInfo := ⟨poolList es last⟩
def fileOf (pool : Array CpInfo) (this : Nat) (attrs : Array Attribute := #[]) (ms : Array MethodInfo := #[]) (fl : Nat := 33) (sup : Nat := 0) (ifs : Array Nat := #[]) (fds : Array FieldInfo := #[]) : ClassFile where
  minorVersion := 0
  majorVersion := 65
  constantPool := pool
  accessFlags := fl
  thisClass := this
  superClass := sup
  interfaces := ifs
  fields := fds
  methods := ms
  attributes := attrs
def plain (name : String) (sup : Option ClassId) : Class where
  name := name
  kind := .ordinary
  loader := none
  accessFlags := 33
  super := sup
  interfaces := #[]
  cf := none
  fields := #[]
  methods := #[]
  instanceTypes := #[]
  staticTypes := #[]
  resolved := #[]
  callSites := []
  init := .initialized
  statics := none
  mirror := none

def pool0 : Array CpInfo := pool [(5, u "<init>"), (0, u "()V"), (1, .class_ 10), (1, u "java/lang/Object")] 113

def k0m0 : Method := { name := "<init>", desc := "()V", sig := { parameters := [], returnType := none }, accessFlags := 1, code := none }
/-- java/lang/Object -/
def k0 : Class := { plain "java/lang/Object" none with
  accessFlags := 33
  interfaces := #[]
  cf := some (fileOf pool0 8 #[] #[{ accessFlags := 1, nameIndex := 5, descriptorIndex := 6, attributes := #[] }] 33 0 #[] #[])
  fields := #[]
  methods := #[k0m0]
  instanceTypes := #[]
  staticTypes := #[]
  resolved := Array.replicate 124 none
  statics := none }

def pool1 : Array CpInfo := pool [(2, .class_ 4), (1, u "java/lang/Object"), (0, u "<init>"), (0, u "()V"), (0, .integer 983039), (0, .integer 55296), (0, .integer 63743), (0, .integer 64976), (0, .integer 65007), (0, .integer 65534), (0, .integer 65535), (2, .integer 2147483648), (0, .integer 55295), (0, .integer 63744), (0, .integer 64975), (0, .integer 65008), (0, .integer 65533), (0, .integer 65536), (0, .integer 2147483647), (0, .methodref 25 26), (0, .class_ 27), (0, .nameAndType 28 29), (0, u "com/example/deep_query/deepquery/xdm/XmlChars"), (0, u "isNameStartChar"), (0, u "(I)Z"), (0, .methodref 31 32), (0, .class_ 33), (0, .nameAndType 34 29), (0, u "com/example/deep_query/deepquery/xdm/XmlCharsIsNameStartCharPinLaw"), (0, u "ref"), (3, u "law"), (0, u "(III)Z")] 4

def k1m0 : Method := { name := "<init>", desc := "()V", sig := { parameters := [], returnType := none }, accessFlags := 2, code := none }
def k1c1 : Code := { maxStack := 2, maxLocals := 1, code := method_2_code, exceptionTable := #[], attributes := #[] }
def k1m1 : Method := { name := "ref", desc := "(I)Z", sig := { parameters := [.int], returnType := some .boolean }, accessFlags := 10, code := some k1c1 }
def k1c2 : Code := { maxStack := 4, maxLocals := 9, code := code, exceptionTable := #[], attributes := #[] }
def k1m2 : Method := { name := "law", desc := "(III)Z", sig := { parameters := [.int, .int, .int], returnType := some .boolean }, accessFlags := 9, code := some k1c2 }
/-- com/example/deep_query/deepquery/xdm/XmlCharsIsNameStartCharPinLaw -/
def k1 : Class := { plain "com/example/deep_query/deepquery/xdm/XmlCharsIsNameStartCharPinLaw" (some 0) with
  accessFlags := 49
  interfaces := #[]
  cf := some (fileOf pool1 31 #[] #[{ accessFlags := 2, nameIndex := 5, descriptorIndex := 6, attributes := #[] }, { accessFlags := 10, nameIndex := 34, descriptorIndex := 29, attributes := #[] }, { accessFlags := 9, nameIndex := 38, descriptorIndex := 39, attributes := #[] }] 49 2 #[] #[])
  fields := #[]
  methods := #[k1m0, k1m1, k1m2]
  instanceTypes := #[]
  staticTypes := #[]
  resolved := Array.replicate 44 none
  statics := none }

def pool2 : Array CpInfo := pool [(2, .class_ 4), (1, u "java/lang/Object"), (0, u "<init>"), (0, u "()V"), (0, .integer 55295), (0, .integer 63744), (0, .integer 64975), (0, .integer 65008), (0, .integer 65533), (0, .integer 65536), (0, .integer 983039), (1, .class_ 17), (1, u "com/example/deep_query/deepquery/xdm/XmlChars"), (0, u "isNameStartChar"), (0, u "(I)Z")] 67

def k2m0 : Method := { name := "<init>", desc := "()V", sig := { parameters := [], returnType := none }, accessFlags := 2, code := none }
def k2c1 : Code := { maxStack := 2, maxLocals := 1, code := prog_226_method_2_code, exceptionTable := #[], attributes := #[] }
def k2m1 : Method := { name := "isNameStartChar", desc := "(I)Z", sig := { parameters := [.int], returnType := some .boolean }, accessFlags := 9, code := some k2c1 }
/-- com/example/deep_query/deepquery/xdm/XmlChars -/
def k2 : Class := { plain "com/example/deep_query/deepquery/xdm/XmlChars" (some 0) with
  accessFlags := 33
  interfaces := #[]
  cf := some (fileOf pool2 15 #[] #[{ accessFlags := 2, nameIndex := 5, descriptorIndex := 6, attributes := #[] }, { accessFlags := 9, nameIndex := 18, descriptorIndex := 19, attributes := #[] }] 33 2 #[] #[])
  fields := #[]
  methods := #[k2m0, k2m1]
  instanceTypes := #[]
  staticTypes := #[]
  resolved := Array.replicate 87 none
  statics := none }

def pool3 : Array CpInfo := pool [(1, u "java/lang/Cloneable"), (0, .class_ 1), (0, u "java/lang/Object"), (0, .class_ 3)] 3

/-- java/lang/Cloneable -/
def k3 : Class := { plain "java/lang/Cloneable" (some 0) with
  accessFlags := 1537
  interfaces := #[]
  cf := some (fileOf pool3 2 #[] #[] 1537 4 #[] #[])
  fields := #[]
  methods := #[]
  instanceTypes := #[]
  staticTypes := #[]
  resolved := Array.replicate 8 none
  statics := none }

def pool4 : Array CpInfo := pool [(1, u "java/io/Serializable"), (0, .class_ 1), (0, u "java/lang/Object"), (0, .class_ 3)] 3

/-- java/io/Serializable -/
def k4 : Class := { plain "java/io/Serializable" (some 0) with
  accessFlags := 1537
  interfaces := #[]
  cf := some (fileOf pool4 2 #[] #[] 1537 4 #[] #[])
  fields := #[]
  methods := #[]
  instanceTypes := #[]
  staticTypes := #[]
  resolved := Array.replicate 8 none
  statics := none }

/-- the primitive byte -/
def k5 : Class := { plain "byte" none with kind := .primitive 'B', accessFlags := 0x411 }
/-- [B -/
def k6 : Class := { plain "[B" (some 0) with kind := .array 5 .byte, interfaces := #[3, 4], accessFlags := 1041 }

/-- the primitive int -/
def k7 : Class := { plain "int" none with kind := .primitive 'I', accessFlags := 0x411 }
/-- [I -/
def k8 : Class := { plain "[I" (some 0) with kind := .array 7 .int, interfaces := #[3, 4], accessFlags := 1041 }

def heap : Heap := #[]
def classes : Array Class := #[k0, k1, k2, k3, k4, k5, k6, k7, k8]
def interned : List (Array UInt16 × Addr) := []
def slotsUsed : Nat := 0
def theMethod : MethodId := ⟨1, 2⟩
def args0 : Array Value := #[.int 5, .int 1, .int 2]
def aboutOver (below : List Frame) : State where
  vm := { classes := classes, interned := interned.toArray }
  heap := heap
  slotsUsed := slotsUsed
  threads := #[{ frames := .invoking theMethod args0 :: below }]
def below0 : List Frame := [.native { method := ⟨0, 0⟩, args := #[] }]
def about1 : State := aboutOver below0
def p0 : Program := .bare "" "" ""
def e0 : Env := launch0.env 0 0 0
theorem w_frames : about1.frames = Frame.invoking theMethod args0 :: below0 := rfl
set_option maxRecDepth 65536 in
theorem w_args : argsFit about1.vm theMethod args0 = true := by decide +kernel
set_option maxRecDepth 65536 in
theorem w_heap : heapFits about1 = true := by decide +kernel
set_option maxRecDepth 65536 in
theorem w_runnable : about1.curStatus? = some .runnable := by decide +kernel
set_option maxRecDepth 65536 in
theorem w_alone : about1.alone = true := by decide +kernel
set_option maxRecDepth 65536 in
theorem w_named : about1.methodNamed? x = some theMethod := by decide +kernel
set_option maxRecDepth 65536 in
theorem w_hears : about1.hears theMethod below0 = true := by decide +kernel
set_option maxRecDepth 65536 in
theorem w_ripe : about1.ripe theMethod args0 below0 = true := by decide +kernel
theorem w_running : about1.status = .running := rfl
set_option maxRecDepth 65536 in
theorem w_room : about1.hasRoom e0.platform room_1 = true :=
  launch0.hasRoom_least _ room_1 (by decide +kernel) (by decide +kernel) (by decide +kernel) (by decide +kernel) (by decide +kernel) (by decide +kernel)
theorem allAtoms_all (ts : List Jvm.Cond) (a : Array Jvm.Value) (st : Jvm.State) : (allAtoms ts).before a st = ts.all (fun c => c.before a st) := by
  induction ts with
  | nil => rfl
  | cons c t ih =>
    show (Jvm.Cond.and c (allAtoms t)).before a st = _
    rw [Jvm.Cond.before_and, ih, List.all_cons]
def words1 : List Jvm.Cond := Jvm.Cond.code x code maxLocals ret :: tables_1
/-- a 'code' word, met by the world's own term for the bytes: nothing is compared byte by byte -/
theorem code_word {y : MethodName} {bytes : ByteArray} {mx : Nat} {rt : Option FieldType} {a : Array Value} {s : State} {m : MethodId} {meth : Method} {c : Code} (h1 : s.methodNamed? y = some m) (h2 : s.vm.method? m = some meth) (h3 : meth.code = some c) (h4 : c.code = bytes)
    (h5 : (c.maxLocals == mx && c.exceptionTable.isEmpty && decide (c.maxStack ≤ mostOperands) && decide (meth.sig.returnType = rt) && !meth.locks && decide (parseMethodDescriptor y.desc = some meth.sig)) = true) : (Jvm.Cond.code y bytes mx rt).before a s = true := by
  simp only [Bool.and_eq_true, beq_iff_eq, Bool.not_eq_true', decide_eq_true_eq] at h5
  obtain ⟨⟨⟨⟨⟨g1, g2⟩, g3⟩, g4⟩, g5⟩, g6⟩ := h5
  simp [Cond.before, Cond.holds, Cond.value, h1, h2, h3, h4, g1, g2, g3, g4, g5, g6]
def isCode : Jvm.Cond → Bool
  | .code _ _ _ _ => true
  | _ => false
theorem all_split {L : List Jvm.Cond} {P : Jvm.Cond → Bool} (h1 : L.all (fun c => isCode c || P c) = true) (h2 : ∀ c ∈ L.filter isCode, P c = true) : L.all P = true := by
  refine List.all_eq_true.mpr fun c hc => ?_
  have h := List.all_eq_true.mp h1 c hc
  rcases Bool.eq_false_or_eq_true (isCode c) with hi | hi
  · exact h2 c (List.mem_filter.mpr ⟨hc, hi⟩)
  · simpa [hi] using h
set_option maxRecDepth 65536 in
theorem w_c0 : (Jvm.Cond.code x code maxLocals ret).before args0 about1 = true := code_word (m := ⟨1, 2⟩) (meth := k1m2) (c := k1c2) (by decide +kernel) rfl rfl rfl (by decide +kernel)
set_option maxRecDepth 65536 in
theorem w_c1 : (Jvm.Cond.code ({ cls := "com/example/deep_query/deepquery/xdm/XmlChars", name := "isNameStartChar", desc := "(I)Z" } : Jvm.MethodName) prog_226_method_2_code (1 : Nat) (Option.some Jvm.ClassFile.FieldType.boolean)).before args0 about1 = true := code_word (m := ⟨2, 1⟩) (meth := k2m1) (c := k2c1) (by decide +kernel) rfl rfl rfl (by decide +kernel)
set_option maxRecDepth 65536 in
theorem w_c2 : (Jvm.Cond.code ({ cls := "com/example/deep_query/deepquery/xdm/XmlCharsIsNameStartCharPinLaw", name := "ref", desc := "(I)Z" } : Jvm.MethodName) method_2_code (1 : Nat) (Option.some Jvm.ClassFile.FieldType.boolean)).before args0 about1 = true := code_word (m := ⟨1, 1⟩) (meth := k1m1) (c := k1c1) (by decide +kernel) rfl rfl rfl (by decide +kernel)
def codes1 : List Jvm.Cond := [Jvm.Cond.code x code maxLocals ret, Jvm.Cond.code ({ cls := "com/example/deep_query/deepquery/xdm/XmlChars", name := "isNameStartChar", desc := "(I)Z" } : Jvm.MethodName) prog_226_method_2_code (1 : Nat) (Option.some Jvm.ClassFile.FieldType.boolean), Jvm.Cond.code ({ cls := "com/example/deep_query/deepquery/xdm/XmlCharsIsNameStartCharPinLaw", name := "ref", desc := "(I)Z" } : Jvm.MethodName) method_2_code (1 : Nat) (Option.some Jvm.ClassFile.FieldType.boolean)]
set_option maxRecDepth 65536 in
theorem codes_eq : words1.filter isCode = codes1 := rfl
theorem w_codes : ∀ c ∈ words1.filter isCode, c.before args0 about1 = true := by
  rw [codes_eq]
  intro c hc
  simp only [codes1, List.mem_cons, List.not_mem_nil, or_false] at hc
  rcases hc with rfl | rfl | rfl
  · exact w_c0
  · exact w_c1
  · exact w_c2
set_option maxRecDepth 65536 in
theorem w_t1 : (words1.take 24).all (fun c => isCode c || c.before args0 about1) = true := by decide +kernel
set_option maxRecDepth 65536 in
theorem w_t2 : (words1.drop 24).all (fun c => isCode c || c.before args0 about1) = true := by decide +kernel
theorem w_tables : (allAtoms (Jvm.Cond.code x code maxLocals ret :: tables_1)).before args0 about1 = true := by
  rw [allAtoms_all]
  show words1.all (fun c => c.before args0 about1) = true
  refine all_split ?_ w_codes
  rw [← List.take_append_drop 24 words1, List.all_append, w_t1, w_t2]
  rfl
set_option maxRecDepth 65536 in
theorem w_case : (Jvm.Cond.and given_1 narrow_1).before args0 about1 = true := by decide +kernel
theorem w_applies : (headSpec (Jvm.Cond.code x code maxLocals ret :: tables_1) room_1).applies x e0.platform about1 = true :=
  (Spec.applies_iff w_frames).mpr ⟨w_running, w_runnable, w_alone, w_named, w_hears, w_ripe, w_room, w_tables⟩
theorem atStart : AtStart classFile x code maxLocals ret World_1 tables_1 room_1 Calls_1 rest_1 Pre_1 launch0 p0 e0 about1 theMethod args0 below0 :=
  ⟨lists_1, trivial, launch0.admits_env _ _ _, launch0.least_env, fairChoices_fair.cas, fairChoices_fair.clock, w_frames, w_args, w_heap, w_applies, trivial, trivial, w_case⟩
end start1
theorem witness_1 : WitnessClaimed_1 := ⟨start1.p0, start1.e0, start1.about1, start1.theMethod, start1.args0, start1.below0, start1.atStart⟩
end Jvm.Pilot.@@N@@
