import JvmDerived
import JvmDerived.Pilot.@@N@@Statement
import JvmDerived.Pilot.@@N@@Code
set_option linter.unusedVariables false
set_option linter.unusedSimpArgs false
namespace Jvm.Pilot.@@N@@
open Jvm Jvm.ClassFile Sem Op Lib Jvm.Free Jvm.Stand Jvm.LawKit Jvm.RoadKit Bundle Jvm.Pilot.@@N@@.Jvm.D
section OwnKit
variable {p : Program} {l : Launch} {e : Env} {R : Room} {s : State} {m : MethodId} {args : Array Value} {below : List Frame} {meth : Method} {c : Code} {T T' : State} {locs : List Loc} {cells slots : Nat} {Z : State} {a0 : Array Value} {h : Heap} {CC SS : Nat} {QQ : Option Value → Heap → List Loc → Prop} {pc : Nat} {Ls : Array Slot} {rest : List Value}
/-- the run from the frame g on comes back, with what QQ says -/
def Go (p : Program) (e : Env) (below : List Frame) (s : State) (CC SS : Nat) (QQ : Option Value → Heap → List Loc → Prop) (T : State) (g : JFrame) : Prop :=
  ∃ s₂ o, Steps p.tables e below (T.setTop g) s₂ ∧ s₂.status = .running ∧ Ended s₂ below o ∧ ∃ v L, o = .returned v ∧ QQ v s₂.heap L ∧ FrameEnd s o s₂ L CC SS
/-- a callee's contract -/
def Met (l : Launch) (Z : State) (y : MethodName) (bytes : ByteArray) (maxL : Nat) (ret : Option FieldType) (ws : List Jvm.Cond) (rm : Room) (as' : Array Value) (h0 : Heap) (QQ : Option Value → Heap → List Loc → Prop) : Prop :=
  MetFree l y (head1 (Jvm.Cond.code y bytes maxL ret :: ws) rm) (fun a U => a = as' ∧ Z.Warmed39 U.vm ∧ U.heap = h0) (fun _ _ _ _ _ => True) (fun _ U o U' => ∃ v L, o = .returned v ∧ QQ v U'.heap L ∧ FrameEnd U o U' L rm.cells rm.slots)
theorem met_of {y : MethodName} {bytes : ByteArray} {maxL : Nat} {ret : Option FieldType} {ws : List Jvm.Cond} {rm : Room} {as' : Array Value} {h0 : Heap} (hx : plainFor y = true) (hef : ∀ m, entryFrame m as' maxL = mkF m 0 Ls [])
    (body : ∀ (p : Program) (e : Env) (s : State) (m : MethodId) (below : List Frame) (meth : Method) (c : Code) (s₁ : State), p.tables.exec = Jvm.exec → c.code = bytes → c.maxLocals = maxL → s.vm.findClass y.cls = some m.cls → meth.name = y.name → meth.sig.returnType = ret → meth.locks = false → Z.Warmed39 s.vm →
      Stand p l e rm s m as' below meth c s₁ [] 0 0 → s₁.heap = h0 → Go p e below s rm.cells rm.slots QQ s₁ (mkF m 0 Ls [])) : Met l Z y bytes maxL ret ws rm as' h0 QQ := by
  refine MetFree.of_bodySF hx hisR ?_
  intro p e s m args below meth c s₁ Bd hml0 hP hK
  obtain ⟨rfl, hZ, hh⟩ := hP
  have e0 : s₁.heap = h0 := by rw [← hh, Bd.state]; rfl
  have k := body p e s m below meth c s₁ Bd.exec Bd.bytes hml0 (findClass_of_methodNamed Bd.named) (name_of_methodNamed Bd.named Bd.method).1 Bd.returns Bd.notSynchronized hZ (Stand.of_body Bd) e0
  rw [hef m]
  exact k
theorem Go.st {g g' : JFrame} (st : ∀ t, Steps p.tables e below (T'.setTop g') t → Steps p.tables e below (T.setTop g) t) (k : Go p e below s CC SS QQ T' g') : Go p e below s CC SS QQ T g := by
  obtain ⟨s₂, o, h1, h2⟩ := k
  exact ⟨s₂, o, st _ h1, h2⟩
theorem Go.tr {g g' : JFrame} (st : Steps p.tables e below (T.setTop g) (T'.setTop g')) (k : Go p e below s CC SS QQ T' g') : Go p e below s CC SS QQ T g := by
  obtain ⟨s₂, o, h1, h2⟩ := k
  exact ⟨s₂, o, st.trans h1, h2⟩
-- the returns
theorem gRetZ (X : Stand p l e R s m args below meth c T locs cells slots) (hx : p.tables.exec = Jvm.exec) (hlk : meth.locks = false) {z z' : Int32} {t : FieldType} (hret : meth.sig.returnType = some t) (ht : t = .boolean ∨ t = .byte ∨ t = .char ∨ t = .short) (hd : decode c.code pc = .ok (.ireturn, 1)) (hz : nar t z = z')
    (hc : cells ≤ CC) (hs : slots ≤ SS) (hQ : QQ (some (.int z')) T.heap locs) : Go p e below s CC SS QQ T (mkF m pc Ls (.int z :: rest)) := by
  obtain ⟨fs, hr, hrun, hended, hW, hsame⟩ := X.leave (v := some (.int z')) (fun h => by rw [hret] at h; cases h) hlk
  exact ⟨_, _, retN X hx hret ht hd (by rw [hz]; exact hr), hrun, hended, _, _, rfl, hQ, ⟨_, rfl⟩, hW, hsame.mono hc hs⟩
theorem gRetI (X : Stand p l e R s m args below meth c T locs cells slots) (hx : p.tables.exec = Jvm.exec) (hlk : meth.locks = false) {z : Int32} (hret : meth.sig.returnType = some .int) (hd : decode c.code pc = .ok (.ireturn, 1))
    (hc : cells ≤ CC) (hs : slots ≤ SS) (hQ : QQ (some (.int z)) T.heap locs) : Go p e below s CC SS QQ T (mkF m pc Ls (.int z :: rest)) := by
  obtain ⟨fs, hr, hrun, hended, hW, hsame⟩ := X.leave (v := some (.int z)) (fun h => by rw [hret] at h; cases h) hlk
  exact ⟨_, _, retOut X hx hret rfl (Or.inl ⟨rfl, Or.inl rfl, z, rfl⟩) hd hr, hrun, hended, _, _, rfl, hQ, ⟨_, rfl⟩, hW, hsame.mono hc hs⟩
theorem gRetA (X : Stand p l e R s m args below meth c T locs cells slots) (hx : p.tables.exec = Jvm.exec) (hlk : meth.locks = false) {w : Value} {t : FieldType} (hret : meth.sig.returnType = some t) (ht : t.isReference = true) (hn : narrow t w = w) (hw : w.isRef = true) (hd : decode c.code pc = .ok (.areturn, 1))
    (hc : cells ≤ CC) (hs : slots ≤ SS) (hQ : QQ (some w) T.heap locs) : Go p e below s CC SS QQ T (mkF m pc Ls (w :: rest)) := by
  obtain ⟨fs, hr, hrun, hended, hW, hsame⟩ := X.leave (v := some w) (fun h => by rw [hret] at h; cases h) hlk
  exact ⟨_, _, retOut X hx hret hn (Or.inr (Or.inr (Or.inr (Or.inr ⟨rfl, ht, hw⟩)))) hd hr, hrun, hended, _, _, rfl, hQ, ⟨_, rfl⟩, hW, hsame.mono hc hs⟩
theorem gRetV (X : Stand p l e R s m args below meth c T locs cells slots) (hx : p.tables.exec = Jvm.exec) (hlk : meth.locks = false) (hret : meth.sig.returnType = none) (hd : decode c.code pc = .ok (.return_, 1))
    (hc : cells ≤ CC) (hs : slots ≤ SS) (hQ : QQ none T.heap locs) : Go p e below s CC SS QQ T (mkF m pc Ls []) := by
  obtain ⟨fs, hr, hrun, hended, hW, hsame⟩ := X.leave (v := none) (fun _ => rfl) hlk
  exact ⟨_, _, X.returnOut hx hret hd hr, hrun, hended, _, _, rfl, hQ, ⟨_, rfl⟩, hW, hsame.mono hc hs⟩
-- the plain steps
theorem gAloadN (X : Stand p l e R s m args below meth c T locs cells slots) (hx : p.tables.exec = Jvm.exec) {k : Fin 4} {v : Value} (hd : decode c.code pc = .ok (.aload_n k, 1)) (hl : Ls[k.val]? = some (.val v)) (hv : v.isRef = true)
    (kk : Go p e below s CC SS QQ T (mkF m (pc + 1) Ls (v :: rest))) : Go p e below s CC SS QQ T (mkF m pc Ls rest) := Go.st (fun _ => XS.aloadN X.here hx rfl hd hl hv) kk
theorem gAload (X : Stand p l e R s m args below meth c T locs cells slots) (hx : p.tables.exec = Jvm.exec) {k : Nat} {v : Value} (hd : decode c.code pc = .ok (.aload k, 2)) (hl : Ls[k]? = some (.val v)) (hv : v.isRef = true)
    (kk : Go p e below s CC SS QQ T (mkF m (pc + 2) Ls (v :: rest))) : Go p e below s CC SS QQ T (mkF m pc Ls rest) := Go.st (fun _ => XS.aload X.here hx rfl hd hl hv) kk
theorem gIloadN (X : Stand p l e R s m args below meth c T locs cells slots) (hx : p.tables.exec = Jvm.exec) {k : Fin 4} {v : Int32} (hd : decode c.code pc = .ok (.iload_n k, 1)) (hl : Ls[k.val]? = some (.val (.int v)))
    (kk : Go p e below s CC SS QQ T (mkF m (pc + 1) Ls (.int v :: rest))) : Go p e below s CC SS QQ T (mkF m pc Ls rest) := Go.st (fun _ => XS.iloadN X.here hx rfl hd hl) kk
theorem gIload (X : Stand p l e R s m args below meth c T locs cells slots) (hx : p.tables.exec = Jvm.exec) {k : Nat} {v : Int32} (hd : decode c.code pc = .ok (.iload k, 2)) (hl : Ls[k]? = some (.val (.int v)))
    (kk : Go p e below s CC SS QQ T (mkF m (pc + 2) Ls (.int v :: rest))) : Go p e below s CC SS QQ T (mkF m pc Ls rest) := Go.st (fun _ => XS.iload X.here hx rfl hd hl) kk
theorem gIconst (X : Stand p l e R s m args below meth c T locs cells slots) (hx : p.tables.exec = Jvm.exec) {i : Int} (v : Int32) (hd : decode c.code pc = .ok (.iconst i, 1)) (hv : Int32.ofInt i = v)
    (kk : Go p e below s CC SS QQ T (mkF m (pc + 1) Ls (.int v :: rest))) : Go p e below s CC SS QQ T (mkF m pc Ls rest) := by subst hv; exact Go.st (fun _ => XS.iconst X.here hx rfl hd) kk
theorem gBipush (X : Stand p l e R s m args below meth c T locs cells slots) (hx : p.tables.exec = Jvm.exec) {i : Int} (v : Int32) (hd : decode c.code pc = .ok (.bipush i, 2)) (hv : (Int8.ofInt i).toInt32 = v)
    (kk : Go p e below s CC SS QQ T (mkF m (pc + 2) Ls (.int v :: rest))) : Go p e below s CC SS QQ T (mkF m pc Ls rest) := by subst hv; exact Go.st (fun _ => XS.bipush X.here hx rfl hd) kk
theorem gSipush (X : Stand p l e R s m args below meth c T locs cells slots) (hx : p.tables.exec = Jvm.exec) {i : Int} (v : Int32) (hd : decode c.code pc = .ok (.sipush i, 3)) (hv : (Int16.ofInt i).toInt32 = v)
    (kk : Go p e below s CC SS QQ T (mkF m (pc + 3) Ls (.int v :: rest))) : Go p e below s CC SS QQ T (mkF m pc Ls rest) := by subst hv; exact Go.st (fun _ => XS.sipush X.here hx rfl hd) kk
theorem gNull (X : Stand p l e R s m args below meth c T locs cells slots) (hx : p.tables.exec = Jvm.exec) (hd : decode c.code pc = .ok (.aconst_null, 1))
    (kk : Go p e below s CC SS QQ T (mkF m (pc + 1) Ls (.null :: rest))) : Go p e below s CC SS QQ T (mkF m pc Ls rest) := Go.st (fun _ => XS.aconstNull X.here hx rfl hd) kk
theorem gLdc (X : Stand p l e R s m args below meth c T locs cells slots) (hx : p.tables.exec = Jvm.exec) (hZ : Z.Warmed39 s.vm) {own : String} {index : Nat} (v : Int32) (hown : s.vm.findClass own = some m.cls) (w : (Cond.constant own index v).before a0 Z = true) (hd : decode c.code pc = .ok (.ldc index, 2))
    (kk : Go p e below s CC SS QQ T (mkF m (pc + 2) Ls (.int v :: rest))) : Go p e below s CC SS QQ T (mkF m pc Ls rest) := Go.st (X.ldcInt hx hown (mvT hZ w) rfl hd) kk
theorem gIadd (X : Stand p l e R s m args below meth c T locs cells slots) (hx : p.tables.exec = Jvm.exec) {x y : Int32} (hd : decode c.code pc = .ok (.iadd, 1))
    (kk : Go p e below s CC SS QQ T (mkF m (pc + 1) Ls (.int (x + y) :: rest))) : Go p e below s CC SS QQ T (mkF m pc Ls (.int y :: .int x :: rest)) := Go.st (fun _ => XS.iadd X.here hx rfl hd rfl) kk
theorem gIsub (X : Stand p l e R s m args below meth c T locs cells slots) (hx : p.tables.exec = Jvm.exec) {x y : Int32} (hd : decode c.code pc = .ok (.isub, 1))
    (kk : Go p e below s CC SS QQ T (mkF m (pc + 1) Ls (.int (x - y) :: rest))) : Go p e below s CC SS QQ T (mkF m pc Ls (.int y :: .int x :: rest)) := Go.st (fun _ => XS.isub X.here hx rfl hd rfl) kk
theorem gIand (X : Stand p l e R s m args below meth c T locs cells slots) (hx : p.tables.exec = Jvm.exec) {x y : Int32} (hd : decode c.code pc = .ok (.iand, 1))
    (kk : Go p e below s CC SS QQ T (mkF m (pc + 1) Ls (.int (x &&& y) :: rest))) : Go p e below s CC SS QQ T (mkF m pc Ls (.int y :: .int x :: rest)) := Go.st (fun _ => XS.iand X.here hx rfl hd rfl) kk
theorem gImul (X : Stand p l e R s m args below meth c T locs cells slots) (hx : p.tables.exec = Jvm.exec) {x y : Int32} (hd : decode c.code pc = .ok (.imul, 1))
    (kk : Go p e below s CC SS QQ T (mkF m (pc + 1) Ls (.int (x * y) :: rest))) : Go p e below s CC SS QQ T (mkF m pc Ls (.int y :: .int x :: rest)) := Go.st (fun _ => XS.imul X.here hx rfl hd rfl) kk
theorem gIxor (X : Stand p l e R s m args below meth c T locs cells slots) (hx : p.tables.exec = Jvm.exec) {x y : Int32} (hd : decode c.code pc = .ok (.ixor, 1))
    (kk : Go p e below s CC SS QQ T (mkF m (pc + 1) Ls (.int (x ^^^ y) :: rest))) : Go p e below s CC SS QQ T (mkF m pc Ls (.int y :: .int x :: rest)) := Go.st (fun _ => XT.ixor X.here hx rfl hd rfl) kk
theorem gIshl (X : Stand p l e R s m args below meth c T locs cells slots) (hx : p.tables.exec = Jvm.exec) {x y : Int32} (hd : decode c.code pc = .ok (.ishl, 1))
    (kk : Go p e below s CC SS QQ T (mkF m (pc + 1) Ls (.int (x <<< (y &&& 31)) :: rest))) : Go p e below s CC SS QQ T (mkF m pc Ls (.int y :: .int x :: rest)) := Go.st (fun _ => XT.ishl X.here hx rfl hd rfl) kk
theorem gIshr (X : Stand p l e R s m args below meth c T locs cells slots) (hx : p.tables.exec = Jvm.exec) {x y : Int32} (hd : decode c.code pc = .ok (.ishr, 1))
    (kk : Go p e below s CC SS QQ T (mkF m (pc + 1) Ls (.int (x >>> (y &&& 31)) :: rest))) : Go p e below s CC SS QQ T (mkF m pc Ls (.int y :: .int x :: rest)) := Go.st (fun _ => XT.ishr X.here hx rfl hd rfl) kk
theorem gIushr (X : Stand p l e R s m args below meth c T locs cells slots) (hx : p.tables.exec = Jvm.exec) {x y : Int32} (hd : decode c.code pc = .ok (.iushr, 1))
    (kk : Go p e below s CC SS QQ T (mkF m (pc + 1) Ls (.int (XT.ushr x y) :: rest))) : Go p e below s CC SS QQ T (mkF m pc Ls (.int y :: .int x :: rest)) := Go.st (fun _ => XT.iushr X.here hx rfl hd rfl) kk
theorem gIrem (X : Stand p l e R s m args below meth c T locs cells slots) (hx : p.tables.exec = Jvm.exec) {x y : Int32} (hd : decode c.code pc = .ok (.irem, 1)) (hy : y ≠ 0)
    (kk : Go p e below s CC SS QQ T (mkF m (pc + 1) Ls (.int (x % y) :: rest))) : Go p e below s CC SS QQ T (mkF m pc Ls (.int y :: .int x :: rest)) := Go.st (fun _ => iremM X hx rfl hd rfl hy) kk
theorem gI2b (X : Stand p l e R s m args below meth c T locs cells slots) (hx : p.tables.exec = Jvm.exec) {x : Int32} (hd : decode c.code pc = .ok (.i2b, 1))
    (kk : Go p e below s CC SS QQ T (mkF m (pc + 1) Ls (.int x.toInt8.toInt32 :: rest))) : Go p e below s CC SS QQ T (mkF m pc Ls (.int x :: rest)) := Go.st (fun _ => XT.i2b X.here hx rfl hd rfl) kk
theorem gI2c (X : Stand p l e R s m args below meth c T locs cells slots) (hx : p.tables.exec = Jvm.exec) {x : Int32} (hd : decode c.code pc = .ok (.i2c, 1))
    (kk : Go p e below s CC SS QQ T (mkF m (pc + 1) Ls (.int x.toUInt32.toUInt16.toUInt32.toInt32 :: rest))) : Go p e below s CC SS QQ T (mkF m pc Ls (.int x :: rest)) := Go.st (fun _ => XT.i2c X.here hx rfl hd rfl) kk
theorem gDup (X : Stand p l e R s m args below meth c T locs cells slots) (hx : p.tables.exec = Jvm.exec) {x : Value} (hd : decode c.code pc = .ok (.dup, 1)) (hc : x.category = 1)
    (kk : Go p e below s CC SS QQ T (mkF m (pc + 1) Ls (x :: x :: rest))) : Go p e below s CC SS QQ T (mkF m pc Ls (x :: rest)) := Go.st (fun _ => XS.dup X.here hx rfl hd rfl hc) kk
theorem gPop (X : Stand p l e R s m args below meth c T locs cells slots) (hx : p.tables.exec = Jvm.exec) {x : Value} (hd : decode c.code pc = .ok (.pop, 1)) (hc : x.category = 1)
    (kk : Go p e below s CC SS QQ T (mkF m (pc + 1) Ls rest)) : Go p e below s CC SS QQ T (mkF m pc Ls (x :: rest)) := Go.st (fun _ => XT.pop X.here hx rfl hd rfl hc) kk
theorem gIstoreN (X : Stand p l e R s m args below meth c T locs cells slots) (hx : p.tables.exec = Jvm.exec) {k : Fin 4} {x : Int32} (l' : Array Slot) (hd : decode c.code pc = .ok (.istore_n k, 1)) (hl : storeLocals Ls k.val (.int x) = some l')
    (kk : Go p e below s CC SS QQ T (mkF m (pc + 1) l' rest)) : Go p e below s CC SS QQ T (mkF m pc Ls (.int x :: rest)) := Go.st (fun _ => XS.istoreN X.here hx rfl hd rfl hl) kk
theorem gIstore (X : Stand p l e R s m args below meth c T locs cells slots) (hx : p.tables.exec = Jvm.exec) {k : Nat} {x : Int32} (l' : Array Slot) (hd : decode c.code pc = .ok (.istore k, 2)) (hl : storeLocals Ls k (.int x) = some l')
    (kk : Go p e below s CC SS QQ T (mkF m (pc + 2) l' rest)) : Go p e below s CC SS QQ T (mkF m pc Ls (.int x :: rest)) := Go.st (fun _ => XS.istore X.here hx rfl hd rfl hl) kk
theorem gAstoreN (X : Stand p l e R s m args below meth c T locs cells slots) (hx : p.tables.exec = Jvm.exec) {k : Fin 4} {x : Value} (l' : Array Slot) (hd : decode c.code pc = .ok (.astore_n k, 1)) (hv : x.isRef = true) (hl : storeLocals Ls k.val x = some l')
    (kk : Go p e below s CC SS QQ T (mkF m (pc + 1) l' rest)) : Go p e below s CC SS QQ T (mkF m pc Ls (x :: rest)) := Go.st (fun _ => XS.astoreN X.here hx rfl hd rfl hv hl) kk
theorem gAstore (X : Stand p l e R s m args below meth c T locs cells slots) (hx : p.tables.exec = Jvm.exec) {k : Nat} {x : Value} (l' : Array Slot) (hd : decode c.code pc = .ok (.astore k, 2)) (hv : x.isRef = true) (hl : storeLocals Ls k x = some l')
    (kk : Go p e below s CC SS QQ T (mkF m (pc + 2) l' rest)) : Go p e below s CC SS QQ T (mkF m pc Ls (x :: rest)) := Go.st (fun _ => XS.astore X.here hx rfl hd rfl hv hl) kk
theorem gIinc (X : Stand p l e R s m args below meth c T locs cells slots) (hx : p.tables.exec = Jvm.exec) {k : Nat} {cst : Int} {x : Int32} (v : Int32) (l' : Array Slot) (hd : decode c.code pc = .ok (.iinc k cst, 3)) (hv : Int32.ofInt cst = v) (hl : Ls[k]? = some (.val (.int x))) (hl' : storeLocals Ls k (.int (x + v)) = some l')
    (kk : Go p e below s CC SS QQ T (mkF m (pc + 3) l' rest)) : Go p e below s CC SS QQ T (mkF m pc Ls rest) := by subst hv; exact Go.st (fun _ => XS.iinc X.here hx rfl hd hl hl') kk
theorem gGoto (X : Stand p l e R s m args below meth c T locs cells slots) (hx : p.tables.exec = Jvm.exec) {o : Int} (pc' : Nat) (hd : decode c.code pc = .ok (.goto o, 3)) (ho : 0 ≤ (pc : Int) + o) (hp : ((pc : Int) + o).toNat = pc')
    (kk : Go p e below s CC SS QQ T (mkF m pc' Ls rest)) : Go p e below s CC SS QQ T (mkF m pc Ls rest) := Go.st (fun _ => XS.goto X.here hx rfl (pc0 := pc) rfl hd ho hp) kk
-- the branches: both roads
theorem gIcmp (X : Stand p l e R s m args below meth c T locs cells slots) (hx : p.tables.exec = Jvm.exec) {cd : ClassFile.Cond} {x y : Int32} {o : Int} (pc' : Nat) (hd : decode c.code pc = .ok (.if_icmp cd o, 3)) (ho : 0 ≤ (pc : Int) + o) (hp : ((pc : Int) + o).toNat = pc')
    (kt : if_icmp.holds cd x y = true → Go p e below s CC SS QQ T (mkF m pc' Ls rest)) (kf : if_icmp.holds cd x y = false → Go p e below s CC SS QQ T (mkF m (pc + 3) Ls rest)) : Go p e below s CC SS QQ T (mkF m pc Ls (.int y :: .int x :: rest)) := by
  cases hq : if_icmp.holds cd x y
  · exact Go.st (fun _ => XS.icmpNo X.here hx rfl hd rfl hq) (kf hq)
  · exact Go.st (fun _ => XS.icmpYes X.here hx rfl (pc0 := pc) rfl hd rfl hq ho hp) (kt hq)
theorem gIf (X : Stand p l e R s m args below meth c T locs cells slots) (hx : p.tables.exec = Jvm.exec) {cd : ClassFile.Cond} {x : Int32} {o : Int} (pc' : Nat) (hd : decode c.code pc = .ok (.ifCond cd o, 3)) (ho : 0 ≤ (pc : Int) + o) (hp : ((pc : Int) + o).toNat = pc')
    (kt : if_icmp.holds cd x 0 = true → Go p e below s CC SS QQ T (mkF m pc' Ls rest)) (kf : if_icmp.holds cd x 0 = false → Go p e below s CC SS QQ T (mkF m (pc + 3) Ls rest)) : Go p e below s CC SS QQ T (mkF m pc Ls (.int x :: rest)) := by
  cases hq : if_icmp.holds cd x 0
  · exact Go.st (fun _ => XS.ifNo X.here hx rfl hd rfl ((if0 _ _).trans hq)) (kf hq)
  · exact Go.st (fun _ => XS.ifYes X.here hx rfl (pc0 := pc) rfl hd rfl ((if0 _ _).trans hq) ho hp) (kt hq)
theorem o_eqT {x y : Int32} (h : if_icmp.holds .eq x y = true) : x = y := Decidable.byContradiction fun q => by rw [(feq q).1] at h; cases h
theorem o_eqF {x y : Int32} (h : if_icmp.holds .eq x y = false) : ¬ x = y := fun q => by rw [(teq q).1] at h; cases h
theorem o_neT {x y : Int32} (h : if_icmp.holds .ne x y = true) : ¬ x = y := fun q => by rw [(teq q).2] at h; cases h
theorem o_neF {x y : Int32} (h : if_icmp.holds .ne x y = false) : x = y := Decidable.byContradiction fun q => by rw [(feq q).2] at h; cases h
theorem o_ltT {x y : Int32} (h : if_icmp.holds .lt x y = true) : x < y := Decidable.byContradiction fun q => by rw [(flt q).1] at h; cases h
theorem o_ltF {x y : Int32} (h : if_icmp.holds .lt x y = false) : ¬ x < y := fun q => by rw [(tlt q).1] at h; cases h
theorem o_geT {x y : Int32} (h : if_icmp.holds .ge x y = true) : ¬ x < y := fun q => by rw [(tlt q).2.1] at h; cases h
theorem o_geF {x y : Int32} (h : if_icmp.holds .ge x y = false) : x < y := Decidable.byContradiction fun q => by rw [(flt q).2.1] at h; cases h
theorem o_gtT {x y : Int32} (h : if_icmp.holds .gt x y = true) : y < x := Decidable.byContradiction fun q => by rw [(flt q).2.2.1] at h; cases h
theorem o_gtF {x y : Int32} (h : if_icmp.holds .gt x y = false) : ¬ y < x := fun q => by rw [(tlt q).2.2.1] at h; cases h
theorem o_leT {x y : Int32} (h : if_icmp.holds .le x y = true) : ¬ y < x := fun q => by rw [(tlt q).2.2.2] at h; cases h
theorem o_leF {x y : Int32} (h : if_icmp.holds .le x y = false) : y < x := Decidable.byContradiction fun q => by rw [(flt q).2.2.2] at h; cases h
-- calls, by the callee's contract
theorem gStatic (X : Stand p l e R s m args below meth c T locs cells slots) (hx : p.tables.exec = Jvm.exec) (hZ : Z.Warmed39 s.vm) {own : String} {index : Nat} {y : MethodName} {bytes : ByteArray} {maxL : Nat} {ret : Option FieldType} {rm : Room} {Q' : Option Value → Heap → List Loc → Prop} {argsL rest : List Value} {W : Nat}
    (hown : s.vm.findClass own = some m.cls) (hy : y.cls ≠ "java/lang/invoke/MethodHandle" ∧ y.cls ≠ "java/lang/invoke/VarHandle") (w1 : (Cond.methodLink own index y).before a0 Z = true) (w2 : (Cond.static y).before a0 Z = true) (w3 : (Cond.initialized y.cls).before a0 Z = true) (w4 : (Cond.code y bytes maxL ret).before a0 Z = true)
    (hM : Met l Z y bytes maxL ret [] rm argsL.toArray h Q') (eT : T.heap = h) (hsize : Ls.size = c.maxLocals) (hlen : ∀ sig, parseMethodDescriptor y.desc = some sig → argsL.length = sig.parameters.length) {st : List Value} (hst : st = argsL.reverse ++ rest) (hW : (rest.map fun v => v.category).sum ≤ W)
    (hf : rm.frames + 1 ≤ R.frames) (hl : W + (maxL + 11) + rm.locals ≤ R.locals) (hc : cells + rm.cells ≤ R.cells) (hs : slots + rm.slots ≤ R.slots) (hd : decode c.code pc = .ok (.invokestatic index, 3))
    (kk : ∀ (v : Option Value) (T' : State) (L : List Loc), Stand p l e R s m args below meth c T' (locs ++ L) (cells + rm.cells) (slots + rm.slots) → Q' v T'.heap L → Go p e below s CC SS QQ T' (mkF m (pc + 3) Ls (v.toList ++ rest))) : Go p e below s CC SS QQ T (mkF m pc Ls st) := by
  subst hst
  obtain ⟨v, vm₁, ⟨T', L', k', n'⟩, -, X', ⟨Lc, hQ, l1, y1, z1⟩, st⟩ := Jvm.LawKit.callS X hx (y := y) hown (mvT hZ w1) (mvT hZ w2) (mvT hZ w3) (mvT hZ w4) hy (backOf (W := W) hM hZ w4 w3 hf hl) (g := mkF m pc Ls (argsL.reverse ++ rest)) rfl hsize (argsL := argsL) (rest := rest) hlen rfl (by show 2 * 0 + _ ≤ _; omega) hd (fun _ _ => ⟨rfl, eT, hc, hs⟩)
  dsimp only [Pt.U, Pt.locs, Pt.cells, Pt.slots] at X' l1 y1 z1 st hQ
  subst l1 y1 z1
  exact Go.st st (kk v T' Lc X' hQ)
theorem gInit (X : Stand p l e R s m args below meth c T locs cells slots) (hx : p.tables.exec = Jvm.exec) (hZ : Z.Warmed39 s.vm) {own : String} {index : Nat} {y : MethodName} {bytes : ByteArray} {maxL : Nat} {rm : Room} {Q' : Option Value → Heap → List Loc → Prop} {a : Addr} {argsL rest : List Value} {W : Nat}
    (hown : s.vm.findClass own = some m.cls) (hy1 : y.name = "<init>") (hy : y.cls ≠ "java/lang/invoke/MethodHandle" ∧ y.cls ≠ "java/lang/invoke/VarHandle") (w1 : (Cond.methodLink own index y).before a0 Z = true) (w2 : (Cond.instanceMethod y).before a0 Z = true) (w3 : (Cond.initialized y.cls).before a0 Z = true) (w4 : (Cond.code y bytes maxL none).before a0 Z = true)
    (hM : Met l Z y bytes maxL none [] rm (.ref a :: argsL).toArray h Q') (eT : T.heap = h) (hsize : Ls.size = c.maxLocals) (hlen : ∀ sig, parseMethodDescriptor y.desc = some sig → argsL.length = sig.parameters.length) {st : List Value} (hst : st = argsL.reverse ++ .ref a :: rest) (hW : (rest.map fun v => v.category).sum ≤ W)
    (hf : rm.frames + 1 ≤ R.frames) (hl : W + (maxL + 11) + rm.locals ≤ R.locals) (hc : cells + rm.cells ≤ R.cells) (hs : slots + rm.slots ≤ R.slots) (hd : decode c.code pc = .ok (.invokespecial index, 3))
    (kk : ∀ (v : Option Value) (T' : State) (L : List Loc), Stand p l e R s m args below meth c T' (locs ++ L) (cells + rm.cells) (slots + rm.slots) → Q' v T'.heap L → Go p e below s CC SS QQ T' (mkF m (pc + 3) Ls (v.toList ++ rest))) : Go p e below s CC SS QQ T (mkF m pc Ls st) := by
  subst hst
  obtain ⟨v, vm₁, ⟨T', L', k', n'⟩, -, X', ⟨Lc, hQ, l1, y1, z1⟩, st⟩ := X.specialBack hx (y := y) hy1 hown (mvT hZ w1) (mvT hZ w2) (mvT hZ w4) hy (backOf (W := W) hM hZ w4 w3 hf hl) (g := mkF m pc Ls (argsL.reverse ++ .ref a :: rest)) rfl hsize (Steps.refl _) (a := a) (argsL := argsL) (rest := rest) hlen rfl (by show 2 * 0 + _ ≤ _; omega) hd (fun _ _ => ⟨rfl, eT, hc, hs⟩)
  dsimp only [Pt.U, Pt.locs, Pt.cells, Pt.slots] at X' l1 y1 z1 st hQ
  subst l1 y1 z1
  exact Go.tr st (kk v T' Lc X' hQ)
theorem gVirtual (X : Stand p l e R s m args below meth c T locs cells slots) (hx : p.tables.exec = Jvm.exec) (hZ : Z.Warmed39 s.vm) {own : String} {index : Nat} {y : MethodName} {bytes : ByteArray} {maxL : Nat} {ret : Option FieldType} {rm : Room} {Q' : Option Value → Heap → List Loc → Prop} {a : Addr} {argsL rest : List Value} {W : Nat}
    (hown : s.vm.findClass own = some m.cls) (hy : y.cls ≠ "java/lang/invoke/MethodHandle" ∧ y.cls ≠ "java/lang/invoke/VarHandle") (w1 : (Cond.methodLink own index y).before a0 Z = true) (w2 : (Cond.declares y).before a0 Z = true) (w5 : (Cond.instanceMethod y).before a0 Z = true) (w6 : (Cond.selects y.cls y y).before a0 Z = true) (w3 : (Cond.initialized y.cls).before a0 Z = true) (w4 : (Cond.code y bytes maxL ret).before a0 Z = true)
    (E : Exa Z h a y.cls) (hM : Met l Z y bytes maxL ret [] rm (.ref a :: argsL).toArray h Q') (eT : T.heap = h) (hsize : Ls.size = c.maxLocals) (hlen : ∀ sig, parseMethodDescriptor y.desc = some sig → argsL.length = sig.parameters.length) {st : List Value} (hst : st = argsL.reverse ++ .ref a :: rest) (hW : (rest.map fun v => v.category).sum ≤ W)
    (hf : rm.frames + 1 ≤ R.frames) (hl : W + (maxL + 11) + rm.locals ≤ R.locals) (hc : cells + rm.cells ≤ R.cells) (hs : slots + rm.slots ≤ R.slots) (hd : decode c.code pc = .ok (.invokevirtual index, 3))
    (kk : ∀ (v : Option Value) (T' : State) (L : List Loc), Stand p l e R s m args below meth c T' (locs ++ L) (cells + rm.cells) (slots + rm.slots) → Q' v T'.heap L → Go p e below s CC SS QQ T' (mkF m (pc + 3) Ls (v.toList ++ rest))) : Go p e below s CC SS QQ T (mkF m pc Ls st) := by
  subst hst
  obtain ⟨cq, kq, qa, qb, qc⟩ := isOf hZ eT E
  obtain ⟨v, vm₁, ⟨T', L', k', n'⟩, -, X', ⟨Lc, hQ, l1, y1, z1⟩, st⟩ := X.virtualBack hx (y := y) (z := y) hown (mvT hZ w1) (mvT hZ w2) (notFace_of_selects (args := #[]) (mvT hZ w6)) (mvT hZ w6) (mvT hZ w5) hy (backOf (W := W) hM hZ w4 w3 hf hl) qa qc (g := mkF m pc Ls (argsL.reverse ++ .ref a :: rest)) rfl hsize (Steps.refl _) (argsL := argsL) (rest := rest) hlen rfl (by show 2 * 0 + _ ≤ _; omega) hd (fun _ _ => ⟨rfl, eT, hc, hs⟩)
  dsimp only [Pt.U, Pt.locs, Pt.cells, Pt.slots] at X' l1 y1 z1 st hQ
  subst l1 y1 z1
  exact Go.tr st (kk v T' Lc X' hQ)
theorem gPrivate (X : Stand p l e R s m args below meth c T locs cells slots) (hx : p.tables.exec = Jvm.exec) (hZ : Z.Warmed39 s.vm) {own : String} {index : Nat} {y : MethodName} {bytes : ByteArray} {maxL : Nat} {ret : Option FieldType} {rm : Room} {Q' : Option Value → Heap → List Loc → Prop} {a : Addr} {C : String} {argsL rest : List Value} {W : Nat}
    (hown : s.vm.findClass own = some m.cls) (hy : y.cls ≠ "java/lang/invoke/MethodHandle" ∧ y.cls ≠ "java/lang/invoke/VarHandle") (w1 : (Cond.methodLink own index y).before a0 Z = true) (w2 : (Cond.instanceMethod y).before a0 Z = true) {kq : Nat} (w6 : (Cond.instantiable y.cls kq).before a0 Z = true) (w5 : (Cond.privateMethod y).before a0 Z = true) (w3 : (Cond.initialized y.cls).before a0 Z = true) (w4 : (Cond.code y bytes maxL ret).before a0 Z = true)
    (E : Exa Z h a C) (hM : Met l Z y bytes maxL ret [] rm (.ref a :: argsL).toArray h Q') (eT : T.heap = h) (hsize : Ls.size = c.maxLocals) (hlen : ∀ sig, parseMethodDescriptor y.desc = some sig → argsL.length = sig.parameters.length) {st : List Value} (hst : st = argsL.reverse ++ .ref a :: rest) (hW : (rest.map fun v => v.category).sum ≤ W)
    (hf : rm.frames + 1 ≤ R.frames) (hl : W + (maxL + 11) + rm.locals ≤ R.locals) (hc : cells + rm.cells ≤ R.cells) (hs : slots + rm.slots ≤ R.slots) (hd : decode c.code pc = .ok (.invokevirtual index, 3))
    (kk : ∀ (v : Option Value) (T' : State) (L : List Loc), Stand p l e R s m args below meth c T' (locs ++ L) (cells + rm.cells) (slots + rm.slots) → Q' v T'.heap L → Go p e below s CC SS QQ T' (mkF m (pc + 3) Ls (v.toList ++ rest))) : Go p e below s CC SS QQ T (mkF m pc Ls st) := by
  subst hst
  obtain ⟨cq, q1, q2⟩ := E.cell
  obtain ⟨ci, ki, hi1, hi2, -, hi3, -⟩ := Cond.instantiable_spec (mvT (args := #[]) hZ w6)
  have hsel : (Cond.selects y.cls y y).before args s = true := selects_self_of_private hi1 hi2 (by simpa using (Bool.or_eq_false_iff.mp hi3).1) (Cond.privateMethod_at (mvP hZ w5 (args := #[]))) (mvT hZ w2) hy
  obtain ⟨v, vm₁, ⟨T', L', k', n'⟩, -, X', ⟨Lc, hQ, l1, y1, z1⟩, st⟩ := X.privateBack hx (y := y) hown (mvT hZ w1) (mvT hZ w2) hsel (Cond.privateMethod_at (mvP hZ w5 (args := #[]))) (mvT hZ w4) hy (backOf (W := W) hM hZ w4 w3 hf hl) (g := mkF m pc Ls (argsL.reverse ++ .ref a :: rest)) rfl hsize (Steps.refl _) (a := a) (by rw [eT]; exact q1) q2 (argsL := argsL) (rest := rest) hlen rfl (by show 2 * 0 + _ ≤ _; omega) hd (fun _ _ => ⟨rfl, eT, hc, hs⟩)
  dsimp only [Pt.U, Pt.locs, Pt.cells, Pt.slots] at X' l1 y1 z1 st hQ
  subst l1 y1 z1
  exact Go.tr st (kk v T' Lc X' hQ)
-- fields, new objects, arrays
theorem gGetF (X : Stand p l e R s m args below meth c T locs cells slots) (hx : p.tables.exec = Jvm.exec) (hZ : Z.Warmed39 s.vm) {own O n d : String} {index : Nat} (hown : s.vm.findClass own = some m.cls) (w : (Cond.fieldLink own index O n d).before a0 Z = true) (eT : T.heap = h) {a : Addr} {v : Value} (F : Fld Z h a O n d v) (hd : decode c.code pc = .ok (.getfield index, 3))
    (kk : ∀ T', Stand p l e R s m args below meth c T' locs cells slots → T'.heap = h → Go p e below s CC SS QQ T' (mkF m (pc + 3) Ls (v :: rest))) : Go p e below s CC SS QQ T (mkF m pc Ls (.ref a :: rest)) := by
  obtain ⟨T', X', e', st⟩ := getF X hx hZ hown (host := "") (Or.inl w) Via.refl eT F (g := mkF m pc Ls (.ref a :: rest)) rfl rfl hd
  exact Go.st st (kk T' X' e')
theorem gPutF (X : Stand p l e R s m args below meth c T locs cells slots) (hx : p.tables.exec = Jvm.exec) (hZ : Z.Warmed39 s.vm) {own O n d C : String} {index kq : Nat} {ty : FieldType} (hown : s.vm.findClass own = some m.cls) (w : (Cond.fieldLink own index O n d).before a0 Z = true) (eT : T.heap = h) {a : Addr} {v old : Value} (F : Fld Z h a O n d old) (E : Exa Z h a C)
    (L : (Cond.lays C O n d).before a0 Z = true ∨ ((Cond.laysFinal C O n d).before a0 Z = true ∧ own = O ∧ meth.name = "<init>")) (wi : (Cond.instantiable C kq).before a0 Z = true) (hty : parseFieldDescriptor d = some ty) (hn : narrow ty v = v) (hf : fits ty v = true) (hd : decode c.code pc = .ok (.putfield index, 3))
    (kk : ∀ T' h', Stand p l e R s m args below meth c T' (locs ++ [⟨a, Jvm.RoadKit.slotOf Z O n d⟩]) cells slots → T'.heap = h' → Wr h h' a (Jvm.RoadKit.slotOf Z O n d) v → Go p e below s CC SS QQ T' (mkF m (pc + 3) Ls rest)) : Go p e below s CC SS QQ T (mkF m pc Ls (v :: .ref a :: rest)) := by
  obtain ⟨T', h', X', e', W', st⟩ := putF X hx hZ hown (host := "") (Or.inl w) Via.refl eT F E L wi hty hn hf (g := mkF m pc Ls (v :: .ref a :: rest)) rfl rfl hd
  exact Go.st st (kk T' h' X' e' W')
theorem gPutFN (X : Stand p l e R s m args below meth c T locs cells slots) (hx : p.tables.exec = Jvm.exec) (hZ : Z.Warmed39 s.vm) {own O n d C : String} {index kq : Nat} {ty : FieldType} (hown : s.vm.findClass own = some m.cls) (w : (Cond.fieldLink own index O n d).before a0 Z = true) (eT : T.heap = h) {a : Addr} {v old : Value} (v' : Value) (F : Fld Z h a O n d old) (E : Exa Z h a C)
    (L : (Cond.lays C O n d).before a0 Z = true ∨ ((Cond.laysFinal C O n d).before a0 Z = true ∧ own = O ∧ meth.name = "<init>")) (wi : (Cond.instantiable C kq).before a0 Z = true) (hty : parseFieldDescriptor d = some ty) (hn : narrow ty v = v') (hf : fits ty v' = true) (hd : decode c.code pc = .ok (.putfield index, 3))
    (kk : ∀ T' h', Stand p l e R s m args below meth c T' (locs ++ [⟨a, Jvm.RoadKit.slotOf Z O n d⟩]) cells slots → T'.heap = h' → Wr h h' a (Jvm.RoadKit.slotOf Z O n d) v' → Go p e below s CC SS QQ T' (mkF m (pc + 3) Ls rest)) : Go p e below s CC SS QQ T (mkF m pc Ls (v :: .ref a :: rest)) := by
  obtain ⟨T', h', X', e', W', st⟩ := putFN X hx hZ hown w Via.refl eT F E L wi hty hn hf (g := mkF m pc Ls (v :: .ref a :: rest)) rfl rfl hd
  exact Go.st st (kk T' h' X' e' W')
theorem gNew (X : Stand p l e R s m args below meth c T locs cells slots) (hx : p.tables.exec = Jvm.exec) (hZ : Z.Warmed39 s.vm) {own C : String} {index n : Nat} (hown : s.vm.findClass own = some m.cls) (w : (Cond.classLink own index C).before a0 Z = true) (wi : (Cond.instantiable C n).before a0 Z = true) (wz : (Cond.initialized C).before a0 Z = true) (eT : T.heap = h)
    (hd : decode c.code pc = .ok (.new index, 3)) (hc : cells + 1 ≤ R.cells) (hl : slots + n ≤ R.slots)
    (kk : ∀ T' h' b, Stand p l e R s m args below meth c T' locs (cells + 1) (slots + n) → T'.heap = h' → Ext h h' → b = h.size → Exa Z h' b C → (∀ {O nm d : String} {ty : FieldType}, Laid Z a0 C O nm d → parseFieldDescriptor d = some ty → Fld Z h' b O nm d (defaultValue ty)) → Go p e below s CC SS QQ T' (mkF m (pc + 3) Ls (.ref b :: rest))) : Go p e below s CC SS QQ T (mkF m pc Ls rest) := by
  obtain ⟨T', h', X', e', E', A', D', -, st⟩ := newO X hx hZ hown w wi wz eT (g := mkF m pc Ls rest) rfl hd hc hl
  exact Go.st st (kk T' h' _ X' e' E' rfl A' D')
theorem gNewArr (X : Stand p l e R s m args below meth c T locs cells slots) (hx : p.tables.exec = Jvm.exec) (hZ : Z.Warmed39 s.vm) {aty : ArrayType} (w : (Cond.arrayClass (newarray.typeOf aty)).before a0 Z = true) (eT : T.heap = h) (hd : decode c.code pc = .ok (.newarray aty, 2)) {n : Int32} (hn : ¬ n < 0) {cap : Nat} (hcap : n.toNatClampNeg ≤ cap) (hb : cap * 8 ≤ 536870912) (hc : cells + 1 ≤ R.cells) (hl : slots + cap ≤ R.slots)
    (kk : ∀ T' h' b cA, Stand p l e R s m args below meth c T' locs (cells + 1) (slots + cap) → T'.heap = h' → Ext h h' → b = h.size → Arr Z h' b (newA cA (newarray.typeOf aty) n) (newarray.typeOf aty) → Go p e below s CC SS QQ T' (mkF m (pc + 2) Ls (.ref b :: rest))) : Go p e below s CC SS QQ T (mkF m pc Ls (.int n :: rest)) := by
  obtain ⟨T', h', cA, X', e', E', A', st⟩ := newP X hx hZ w eT (g := mkF m pc Ls (.int n :: rest)) rfl hd rfl hn (cap := cap) hcap hb hc hl
  exact Go.st st (kk T' h' _ cA X' e' E' rfl A')
/-- an array of ints (or of bytes): n places, the j-th holds f j -/
def IA (Z : State) (h : Heap) (a : Addr) (ty : FieldType) (n : Nat) (f : Nat → Int32) : Prop := ∃ cl : Cell, Arr Z h a cl ty ∧ cl.slots.size = n ∧ ∀ j, j < n → cl.slots[j]? = some (.int (f j))
def upd (f : Nat → Int32) (k : Nat) (v : Int32) : Nat → Int32 := fun j => if j = k then v else f j
theorem IA.lt {a : Addr} {ty : FieldType} {n : Nat} {f : Nat → Int32} (F : IA Z h a ty n f) : a < h.size := by obtain ⟨cl, A, -⟩ := F; exact A.lt
theorem IA.ext {h' : Heap} {a : Addr} {ty : FieldType} {n : Nat} {f : Nat → Int32} (F : IA Z h a ty n f) (E : Ext h h') : IA Z h' a ty n f := by obtain ⟨cl, A, r⟩ := F; exact ⟨cl, A.ext E, r⟩
theorem IA.other {h' : Heap} {a b : Addr} {sl : Nat} {v : Value} {ty : FieldType} {n : Nat} {f : Nat → Int32} (F : IA Z h a ty n f) (W : Wr h h' b sl v) (q : a ≠ b) : IA Z h' a ty n f := by obtain ⟨cl, A, r⟩ := F; exact ⟨cl, A.other W q, r⟩
theorem IA.keep {h' : Heap} {a : Addr} {ws : List Addr} {ty : FieldType} {n : Nat} {f : Nat → Int32} (F : IA Z h a ty n f) (K : Keep h h' ws) (q : a ∉ ws) : IA Z h' a ty n f := by
  obtain ⟨cl, A, r⟩ := F
  exact ⟨cl, ⟨K.2.1 a cl A.1 q, A.2⟩, r⟩
theorem IA.set {h' : Heap} {a : Addr} {k : Nat} {v : Int32} {ty : FieldType} {n : Nat} {f : Nat → Int32} (F : IA Z h a ty n f) (W : Wr h h' a k (.int v)) : IA Z h' a ty n (upd f k v) := by
  obtain ⟨cl, A, hs, hf⟩ := F
  refine ⟨_, A.same W, by rw [sz_set]; exact hs, fun j hj => ?_⟩
  show (cl.slots.setIfInBounds k (.int v))[j]? = _
  rw [Array.getElem?_setIfInBounds]
  by_cases q : k = j
  · subst q
    rw [if_pos rfl, if_pos (by rw [hs]; exact hj)]
    simp [upd]
  · rw [if_neg q, hf j hj]
    show _ = some (Value.int (if j = k then v else f j))
    rw [if_neg fun z => q z.symm]
theorem IA.congr {a : Addr} {ty : FieldType} {n : Nat} {f g : Nat → Int32} (F : IA Z h a ty n f) (q : ∀ j, j < n → f j = g j) : IA Z h a ty n g := by
  obtain ⟨cl, A, hs, hf⟩ := F
  exact ⟨cl, A, hs, fun j hj => by rw [hf j hj, q j hj]⟩
theorem IA.new {a : Addr} {cA : ClassId} {ty : FieldType} {z : Int32} (hty : defaultValue ty = .int 0) (A : Arr Z h a (newA cA ty z) ty) : IA Z h a ty z.toNatClampNeg (fun _ => 0) := by
  refine ⟨_, A, sz_new _ _ _, fun j hj => ?_⟩
  simp [newA, hj, hty]
theorem gIaload (X : Stand p l e R s m args below meth c T locs cells slots) (hx : p.tables.exec = Jvm.exec) (hZ : Z.Warmed39 s.vm) (eT : T.heap = h) {a : Addr} {n : Nat} {f : Nat → Int32} (F : IA Z h a .int n f) {j : Int32} (hj : ¬ j < 0 ∧ j.toNatClampNeg < n) (hd : decode c.code pc = .ok (.iaload, 1))
    (kk : Go p e below s CC SS QQ T (mkF m (pc + 1) Ls (.int (f j.toNatClampNeg) :: rest))) : Go p e below s CC SS QQ T (mkF m pc Ls (.int j :: .ref a :: rest)) := by
  obtain ⟨cl, A, hs, hf⟩ := F
  exact Go.st (X.iaload hx (j := j) (v := .int (f j.toNatClampNeg)) (by rw [eT]; exact A.1) (State.isArrayOf_alike hZ.alike A.2.1) A.2.2 (fun q => q.elim hj.1 fun r => absurd hj.2 (Nat.not_lt.mpr (hs ▸ r))) (hf _ hj.2) (g := mkF m pc Ls (.int j :: .ref a :: rest)) rfl rfl hd) kk
theorem gBaload (X : Stand p l e R s m args below meth c T locs cells slots) (hx : p.tables.exec = Jvm.exec) (hZ : Z.Warmed39 s.vm) (eT : T.heap = h) {a : Addr} {n : Nat} {f : Nat → Int32} (F : IA Z h a .byte n f) {j : Int32} (hj : ¬ j < 0 ∧ j.toNatClampNeg < n) (hd : decode c.code pc = .ok (.baload, 1))
    (kk : Go p e below s CC SS QQ T (mkF m (pc + 1) Ls (.int (f j.toNatClampNeg) :: rest))) : Go p e below s CC SS QQ T (mkF m pc Ls (.int j :: .ref a :: rest)) := by
  obtain ⟨cl, A, hs, hf⟩ := F
  exact Go.st (X.baloadBytes hx (j := j) (v := .int (f j.toNatClampNeg)) (by rw [eT]; exact A.1) (State.isArrayOf_alike hZ.alike A.2.1) A.2.2 (fun q => q.elim hj.1 fun r => absurd hj.2 (Nat.not_lt.mpr (hs ▸ r))) (hf _ hj.2) (g := mkF m pc Ls (.int j :: .ref a :: rest)) rfl rfl hd) kk
theorem gIastore (X : Stand p l e R s m args below meth c T locs cells slots) (hx : p.tables.exec = Jvm.exec) (hZ : Z.Warmed39 s.vm) (eT : T.heap = h) {a : Addr} {n : Nat} {f : Nat → Int32} (F : IA Z h a .int n f) {j x : Int32} (k : Nat) (hk : j.toNatClampNeg = k) (hj : ¬ j < 0 ∧ k < n) (hd : decode c.code pc = .ok (.iastore, 1))
    (kk : ∀ T' h', Stand p l e R s m args below meth c T' (locs ++ [⟨a, k⟩]) cells slots → T'.heap = h' → Wr h h' a k (.int x) → IA Z h' a .int n (upd f k x) → Go p e below s CC SS QQ T' (mkF m (pc + 1) Ls rest)) : Go p e below s CC SS QQ T (mkF m pc Ls (.int x :: .int j :: .ref a :: rest)) := by
  subst hk
  obtain ⟨cl, A, hs, hf⟩ := id F
  obtain ⟨T', h', X', e', W', st⟩ := stI X hx hZ eT A (j := j) (x := x) (fun q => q.elim hj.1 fun r => absurd hj.2 (Nat.not_lt.mpr (hs ▸ r))) (g := mkF m pc Ls (.int x :: .int j :: .ref a :: rest)) rfl rfl hd
  exact Go.st st (kk T' h' X' e' W' (F.set W'))
theorem gBastore (X : Stand p l e R s m args below meth c T locs cells slots) (hx : p.tables.exec = Jvm.exec) (hZ : Z.Warmed39 s.vm) (eT : T.heap = h) {a : Addr} {n : Nat} {f : Nat → Int32} (F : IA Z h a .byte n f) {j x : Int32} (k : Nat) (hk : j.toNatClampNeg = k) (hj : ¬ j < 0 ∧ k < n) (hd : decode c.code pc = .ok (.bastore, 1))
    (kk : ∀ T' h', Stand p l e R s m args below meth c T' (locs ++ [⟨a, k⟩]) cells slots → T'.heap = h' → Wr h h' a k (.int (nar .byte x)) → IA Z h' a .byte n (upd f k (nar .byte x)) → Go p e below s CC SS QQ T' (mkF m (pc + 1) Ls rest)) : Go p e below s CC SS QQ T (mkF m pc Ls (.int x :: .int j :: .ref a :: rest)) := by
  subst hk
  obtain ⟨cl, A, hs, hf⟩ := id F
  obtain ⟨T', h', X', e', W', st⟩ := stB X hx hZ eT A (j := j) (x := x) (fun q => q.elim hj.1 fun r => absurd hj.2 (Nat.not_lt.mpr (hs ▸ r))) (g := mkF m pc Ls (.int x :: .int j :: .ref a :: rest)) rfl rfl hd
  exact Go.st st (kk T' h' X' e' W' (F.set W'))
theorem gLength (X : Stand p l e R s m args below meth c T locs cells slots) (hx : p.tables.exec = Jvm.exec) (hZ : Z.Warmed39 s.vm) (eT : T.heap = h) {a : Addr} {ty : FieldType} {n : Nat} {f : Nat → Int32} (F : IA Z h a ty n f) (hd : decode c.code pc = .ok (.arraylength, 1))
    (kk : Go p e below s CC SS QQ T (mkF m (pc + 1) Ls (.int n.toInt32 :: rest))) : Go p e below s CC SS QQ T (mkF m pc Ls (.ref a :: rest)) := by
  obtain ⟨cl, A, hs, hf⟩ := F
  subst hs
  exact Go.st (X.arraylength hx (by rw [eT]; exact A.1) (State.isArrayOf_alike hZ.alike A.2.1) (g := mkF m pc Ls (.ref a :: rest)) rfl rfl hd) kk
theorem own_nb (x : Int32) : nar .byte x.toInt8.toInt32 = x.toInt8.toInt32 := by simp [nar]
theorem own_nz {b : Int32} (h : b = 0 ∨ b = 1) : narrow .boolean (.int b) = .int b := by rcases h with rfl | rfl <;> rfl
theorem own_fz {b : Int32} (h : b = 0 ∨ b = 1) : fits .boolean (.int b) = true := by rcases h with rfl | rfl <;> rfl
end OwnKit
theorem tw {a0 : Array Value} {Z : State} (hw : ∀ d ∈ tables_1, d.before a0 Z = true) (k : Nat) {d : Jvm.Cond} (h : tables_1[k]? = some d) : d.before a0 Z = true := hw _ (List.mem_of_getElem? h)
theorem d0_0 : decode prog_226_method_11_code 0 = .ok (.iload_n 0, 1) := by decide +kernel
theorem d0_1 : decode prog_226_method_11_code 1 = .ok (.bipush 9, 2) := by decide +kernel
theorem d0_3 : decode prog_226_method_11_code 3 = .ok (.if_icmp .eq 51, 3) := by decide +kernel
theorem d0_6 : decode prog_226_method_11_code 6 = .ok (.iload_n 0, 1) := by decide +kernel
theorem d0_7 : decode prog_226_method_11_code 7 = .ok (.bipush 10, 2) := by decide +kernel
theorem d0_9 : decode prog_226_method_11_code 9 = .ok (.if_icmp .eq 45, 3) := by decide +kernel
theorem d0_12 : decode prog_226_method_11_code 12 = .ok (.iload_n 0, 1) := by decide +kernel
theorem d0_13 : decode prog_226_method_11_code 13 = .ok (.bipush 13, 2) := by decide +kernel
theorem d0_15 : decode prog_226_method_11_code 15 = .ok (.if_icmp .eq 39, 3) := by decide +kernel
theorem d0_18 : decode prog_226_method_11_code 18 = .ok (.iload_n 0, 1) := by decide +kernel
theorem d0_19 : decode prog_226_method_11_code 19 = .ok (.bipush 32, 2) := by decide +kernel
theorem d0_21 : decode prog_226_method_11_code 21 = .ok (.if_icmp .lt 9, 3) := by decide +kernel
theorem d0_24 : decode prog_226_method_11_code 24 = .ok (.iload_n 0, 1) := by decide +kernel
theorem d0_25 : decode prog_226_method_11_code 25 = .ok (.ldc 7, 2) := by decide +kernel
theorem d0_27 : decode prog_226_method_11_code 27 = .ok (.if_icmp .le 27, 3) := by decide +kernel
theorem d0_30 : decode prog_226_method_11_code 30 = .ok (.iload_n 0, 1) := by decide +kernel
theorem d0_31 : decode prog_226_method_11_code 31 = .ok (.ldc 73, 2) := by decide +kernel
theorem d0_33 : decode prog_226_method_11_code 33 = .ok (.if_icmp .lt 9, 3) := by decide +kernel
theorem d0_36 : decode prog_226_method_11_code 36 = .ok (.iload_n 0, 1) := by decide +kernel
theorem d0_37 : decode prog_226_method_11_code 37 = .ok (.ldc 11, 2) := by decide +kernel
theorem d0_39 : decode prog_226_method_11_code 39 = .ok (.if_icmp .le 15, 3) := by decide +kernel
theorem d0_42 : decode prog_226_method_11_code 42 = .ok (.iload_n 0, 1) := by decide +kernel
theorem d0_43 : decode prog_226_method_11_code 43 = .ok (.ldc 12, 2) := by decide +kernel
theorem d0_45 : decode prog_226_method_11_code 45 = .ok (.if_icmp .lt 13, 3) := by decide +kernel
theorem d0_48 : decode prog_226_method_11_code 48 = .ok (.iload_n 0, 1) := by decide +kernel
theorem d0_49 : decode prog_226_method_11_code 49 = .ok (.ldc 74, 2) := by decide +kernel
theorem d0_51 : decode prog_226_method_11_code 51 = .ok (.if_icmp .gt 7, 3) := by decide +kernel
theorem d0_54 : decode prog_226_method_11_code 54 = .ok (.iconst 1, 1) := by decide +kernel
theorem d0_55 : decode prog_226_method_11_code 55 = .ok (.goto 4, 3) := by decide +kernel
theorem d0_58 : decode prog_226_method_11_code 58 = .ok (.iconst 0, 1) := by decide +kernel
theorem d0_59 : decode prog_226_method_11_code 59 = .ok (.ireturn, 1) := by decide +kernel
theorem own_pn0 : plainFor (⟨"com/example/deep_query/deepquery/xdm/XmlChars", "isXmlChar", "(I)Z"⟩ : MethodName) = true := plainFor_of_name (by first | (simp [plainName, overriddenIn]; done) | decide +kernel)
theorem own_ef0 (p0 : Int32) (m : MethodId) : entryFrame m #[(.int p0)] 1 = mkF m 0 #[.val (.int p0)] [] := by first | (simp [entryFrame, mkF, argsToLocals, Value.category]; done) | rfl
def own_f_58 (i0 : Int32) : Int32 := (0 : Int32)
def own_f_54 (i0 : Int32) : Int32 := (1 : Int32)
def own_f_42 (i0 : Int32) : Int32 := if i0 < (65536 : Int32) then (own_f_58 i0) else (if (1114111 : Int32) < i0 then (own_f_58 i0) else (own_f_54 i0))
def own_f_30 (i0 : Int32) : Int32 := if i0 < (57344 : Int32) then (own_f_42 i0) else (if (65533 : Int32) < i0 then (own_f_42 i0) else (own_f_54 i0))
def own_f (p0 : Int32) : Int32 := if p0 = (9 : Int32) then (own_f_54 p0) else (if p0 = (10 : Int32) then (own_f_54 p0) else (if p0 = (13 : Int32) then (own_f_54 p0) else (if p0 < (32 : Int32) then (own_f_30 p0) else (if (55295 : Int32) < p0 then (own_f_30 p0) else (own_f_54 p0)))))
theorem own_pd0 : parseMethodDescriptor "(I)Z" = some ⟨[.int], some .boolean⟩ := by decide +kernel
set_option maxRecDepth 65536 in
set_option maxHeartbeats 40000000 in
theorem own_rm0 (l : Launch) (Z : State) (a0 : Array Value) (hw : ∀ d ∈ tables_1, d.before a0 Z = true) (p0 : Int32) (h0 : Heap) (n0 : Nat) (Z0 : n0 ≤ h0.size)  :
    Met l Z (⟨"com/example/deep_query/deepquery/xdm/XmlChars", "isXmlChar", "(I)Z"⟩ : MethodName) prog_226_method_11_code 1 (some .boolean) [] ({ frames := 0, cells := 0, slots := 0, locals := 0 } : Room) #[(.int p0)] h0 (fun v h L => v = some (.int (own_f p0)) ∧ Fr n0 L ∧ h = h0) := by
  refine met_of (Ls := #[.val (.int p0)]) own_pn0 (own_ef0 p0) ?_
  intro p e s m below meth c s₁ hx hby hml hown hnm hret hlk hZ X0 e0
  have N0 := Fr.nil n0
  have B58 : ∀ i0 : Int32, own_f p0 = own_f_58 i0 → Go p e below s ({ frames := 0, cells := 0, slots := 0, locals := 0 } : Room).cells ({ frames := 0, cells := 0, slots := 0, locals := 0 } : Room).slots (fun v h L => v = some (.int (own_f p0)) ∧ Fr n0 L ∧ h = h0) s₁ (mkF m 58 #[.val (.int i0)] []) := by
    intro i0 hq
    replace hq : own_f p0 = ((0 : Int32)) := hq
    refine gIconst X0 hx (0 : Int32) (hb hby d0_58) rfl ?_
    exact gRetZ X0 hx hlk hret (by simp) (hb hby d0_59) (z' := (0 : Int32)) rfl (by decide) (by decide) ⟨congrArg (fun z => some (Value.int z)) hq.symm, N0, e0⟩
  have B54 : ∀ i0 : Int32, own_f p0 = own_f_54 i0 → Go p e below s ({ frames := 0, cells := 0, slots := 0, locals := 0 } : Room).cells ({ frames := 0, cells := 0, slots := 0, locals := 0 } : Room).slots (fun v h L => v = some (.int (own_f p0)) ∧ Fr n0 L ∧ h = h0) s₁ (mkF m 54 #[.val (.int i0)] []) := by
    intro i0 hq
    replace hq : own_f p0 = ((1 : Int32)) := hq
    refine gIconst X0 hx (1 : Int32) (hb hby d0_54) rfl ?_
    refine gGoto X0 hx 59 (hb hby d0_55) (by decide) (by decide) ?_
    exact gRetZ X0 hx hlk hret (by simp) (hb hby d0_59) (z' := (1 : Int32)) rfl (by decide) (by decide) ⟨congrArg (fun z => some (Value.int z)) hq.symm, N0, e0⟩
  have B42 : ∀ i0 : Int32, own_f p0 = own_f_42 i0 → Go p e below s ({ frames := 0, cells := 0, slots := 0, locals := 0 } : Room).cells ({ frames := 0, cells := 0, slots := 0, locals := 0 } : Room).slots (fun v h L => v = some (.int (own_f p0)) ∧ Fr n0 L ∧ h = h0) s₁ (mkF m 42 #[.val (.int i0)] []) := by
    intro i0 hq
    replace hq : own_f p0 = (if i0 < (65536 : Int32) then (own_f_58 i0) else (if (1114111 : Int32) < i0 then (own_f_58 i0) else (own_f_54 i0))) := hq
    refine gIloadN X0 hx (hb hby d0_42) rfl ?_
    refine gLdc X0 hx hZ (65536 : Int32) hown (tw hw 17 rfl) (hb hby d0_43) ?_
    refine gIcmp X0 hx 58 (hb hby d0_45) (by decide) (by decide) (fun hT => ?_) (fun hT => ?_)
    · have hc1 := o_ltT hT
      have q2 := hq.trans (if_pos hc1)
      show Go _ _ _ _ _ _ _ s₁ (mkF m 58 #[.val (.int i0)] [])
      exact B58 i0 q2
    · have hc1 := o_ltF hT
      have q3 := hq.trans (if_neg hc1)
      show Go _ _ _ _ _ _ _ s₁ (mkF m 48 #[.val (.int i0)] [])
      refine gIloadN X0 hx (hb hby d0_48) rfl ?_
      refine gLdc X0 hx hZ (1114111 : Int32) hown (tw hw 25 rfl) (hb hby d0_49) ?_
      refine gIcmp X0 hx 58 (hb hby d0_51) (by decide) (by decide) (fun hT => ?_) (fun hT => ?_)
      · have hc4 := o_gtT hT
        have q5 := q3.trans (if_pos hc4)
        show Go _ _ _ _ _ _ _ s₁ (mkF m 58 #[.val (.int i0)] [])
        exact B58 i0 q5
      · have hc4 := o_gtF hT
        have q6 := q3.trans (if_neg hc4)
        show Go _ _ _ _ _ _ _ s₁ (mkF m 54 #[.val (.int i0)] [])
        exact B54 i0 q6
  have B30 : ∀ i0 : Int32, own_f p0 = own_f_30 i0 → Go p e below s ({ frames := 0, cells := 0, slots := 0, locals := 0 } : Room).cells ({ frames := 0, cells := 0, slots := 0, locals := 0 } : Room).slots (fun v h L => v = some (.int (own_f p0)) ∧ Fr n0 L ∧ h = h0) s₁ (mkF m 30 #[.val (.int i0)] []) := by
    intro i0 hq
    replace hq : own_f p0 = (if i0 < (57344 : Int32) then (own_f_42 i0) else (if (65533 : Int32) < i0 then (own_f_42 i0) else (own_f_54 i0))) := hq
    refine gIloadN X0 hx (hb hby d0_30) rfl ?_
    refine gLdc X0 hx hZ (57344 : Int32) hown (tw hw 16 rfl) (hb hby d0_31) ?_
    refine gIcmp X0 hx 42 (hb hby d0_33) (by decide) (by decide) (fun hT => ?_) (fun hT => ?_)
    · have hc7 := o_ltT hT
      have q8 := hq.trans (if_pos hc7)
      show Go _ _ _ _ _ _ _ s₁ (mkF m 42 #[.val (.int i0)] [])
      exact B42 i0 q8
    · have hc7 := o_ltF hT
      have q9 := hq.trans (if_neg hc7)
      show Go _ _ _ _ _ _ _ s₁ (mkF m 36 #[.val (.int i0)] [])
      refine gIloadN X0 hx (hb hby d0_36) rfl ?_
      refine gLdc X0 hx hZ (65533 : Int32) hown (tw hw 24 rfl) (hb hby d0_37) ?_
      refine gIcmp X0 hx 54 (hb hby d0_39) (by decide) (by decide) (fun hT => ?_) (fun hT => ?_)
      · have hc10 := o_leT hT
        have q11 := q9.trans (if_neg hc10)
        show Go _ _ _ _ _ _ _ s₁ (mkF m 54 #[.val (.int i0)] [])
        exact B54 i0 q11
      · have hc10 := o_leF hT
        have q12 := q9.trans (if_pos hc10)
        show Go _ _ _ _ _ _ _ s₁ (mkF m 42 #[.val (.int i0)] [])
        exact B42 i0 q12
  have hq : own_f p0 = (if p0 = (9 : Int32) then (own_f_54 p0) else (if p0 = (10 : Int32) then (own_f_54 p0) else (if p0 = (13 : Int32) then (own_f_54 p0) else (if p0 < (32 : Int32) then (own_f_30 p0) else (if (55295 : Int32) < p0 then (own_f_30 p0) else (own_f_54 p0)))))) := rfl
  refine gIloadN X0 hx (hb hby d0_0) rfl ?_
  refine gBipush X0 hx (9 : Int32) (hb hby d0_1) rfl ?_
  refine gIcmp X0 hx 54 (hb hby d0_3) (by decide) (by decide) (fun hT => ?_) (fun hT => ?_)
  · have hc13 := o_eqT hT
    have q14 := hq.trans (if_pos hc13)
    show Go _ _ _ _ _ _ _ s₁ (mkF m 54 #[.val (.int p0)] [])
    exact B54 p0 q14
  · have hc13 := o_eqF hT
    have q15 := hq.trans (if_neg hc13)
    show Go _ _ _ _ _ _ _ s₁ (mkF m 6 #[.val (.int p0)] [])
    refine gIloadN X0 hx (hb hby d0_6) rfl ?_
    refine gBipush X0 hx (10 : Int32) (hb hby d0_7) rfl ?_
    refine gIcmp X0 hx 54 (hb hby d0_9) (by decide) (by decide) (fun hT => ?_) (fun hT => ?_)
    · have hc16 := o_eqT hT
      have q17 := q15.trans (if_pos hc16)
      show Go _ _ _ _ _ _ _ s₁ (mkF m 54 #[.val (.int p0)] [])
      exact B54 p0 q17
    · have hc16 := o_eqF hT
      have q18 := q15.trans (if_neg hc16)
      show Go _ _ _ _ _ _ _ s₁ (mkF m 12 #[.val (.int p0)] [])
      refine gIloadN X0 hx (hb hby d0_12) rfl ?_
      refine gBipush X0 hx (13 : Int32) (hb hby d0_13) rfl ?_
      refine gIcmp X0 hx 54 (hb hby d0_15) (by decide) (by decide) (fun hT => ?_) (fun hT => ?_)
      · have hc19 := o_eqT hT
        have q20 := q18.trans (if_pos hc19)
        show Go _ _ _ _ _ _ _ s₁ (mkF m 54 #[.val (.int p0)] [])
        exact B54 p0 q20
      · have hc19 := o_eqF hT
        have q21 := q18.trans (if_neg hc19)
        show Go _ _ _ _ _ _ _ s₁ (mkF m 18 #[.val (.int p0)] [])
        refine gIloadN X0 hx (hb hby d0_18) rfl ?_
        refine gBipush X0 hx (32 : Int32) (hb hby d0_19) rfl ?_
        refine gIcmp X0 hx 30 (hb hby d0_21) (by decide) (by decide) (fun hT => ?_) (fun hT => ?_)
        · have hc22 := o_ltT hT
          have q23 := q21.trans (if_pos hc22)
          show Go _ _ _ _ _ _ _ s₁ (mkF m 30 #[.val (.int p0)] [])
          exact B30 p0 q23
        · have hc22 := o_ltF hT
          have q24 := q21.trans (if_neg hc22)
          show Go _ _ _ _ _ _ _ s₁ (mkF m 24 #[.val (.int p0)] [])
          refine gIloadN X0 hx (hb hby d0_24) rfl ?_
          refine gLdc X0 hx hZ (55295 : Int32) hown (tw hw 23 rfl) (hb hby d0_25) ?_
          refine gIcmp X0 hx 54 (hb hby d0_27) (by decide) (by decide) (fun hT => ?_) (fun hT => ?_)
          · have hc25 := o_leT hT
            have q26 := q24.trans (if_neg hc25)
            show Go _ _ _ _ _ _ _ s₁ (mkF m 54 #[.val (.int p0)] [])
            exact B54 p0 q26
          · have hc25 := o_leF hT
            have q27 := q24.trans (if_pos hc25)
            show Go _ _ _ _ _ _ _ s₁ (mkF m 30 #[.val (.int p0)] [])
            exact B30 p0 q27
theorem d1_0 : decode method_2_code 0 = .ok (.iload_n 0, 1) := by decide +kernel
theorem d1_1 : decode method_2_code 1 = .ok (.ifCond .lt 9, 3) := by decide +kernel
theorem d1_4 : decode method_2_code 4 = .ok (.iload_n 0, 1) := by decide +kernel
theorem d1_5 : decode method_2_code 5 = .ok (.ldc 7, 2) := by decide +kernel
theorem d1_7 : decode method_2_code 7 = .ok (.if_icmp .le 5, 3) := by decide +kernel
theorem d1_10 : decode method_2_code 10 = .ok (.iconst 0, 1) := by decide +kernel
theorem d1_11 : decode method_2_code 11 = .ok (.ireturn, 1) := by decide +kernel
theorem d1_12 : decode method_2_code 12 = .ok (.iload_n 0, 1) := by decide +kernel
theorem d1_13 : decode method_2_code 13 = .ok (.ldc 8, 2) := by decide +kernel
theorem d1_15 : decode method_2_code 15 = .ok (.if_icmp .lt 11, 3) := by decide +kernel
theorem d1_18 : decode method_2_code 18 = .ok (.iload_n 0, 1) := by decide +kernel
theorem d1_19 : decode method_2_code 19 = .ok (.ldc 9, 2) := by decide +kernel
theorem d1_21 : decode method_2_code 21 = .ok (.if_icmp .gt 5, 3) := by decide +kernel
theorem d1_24 : decode method_2_code 24 = .ok (.iconst 0, 1) := by decide +kernel
theorem d1_25 : decode method_2_code 25 = .ok (.ireturn, 1) := by decide +kernel
theorem d1_26 : decode method_2_code 26 = .ok (.iload_n 0, 1) := by decide +kernel
theorem d1_27 : decode method_2_code 27 = .ok (.ldc 10, 2) := by decide +kernel
theorem d1_29 : decode method_2_code 29 = .ok (.if_icmp .eq 9, 3) := by decide +kernel
theorem d1_32 : decode method_2_code 32 = .ok (.iload_n 0, 1) := by decide +kernel
theorem d1_33 : decode method_2_code 33 = .ok (.ldc 11, 2) := by decide +kernel
theorem d1_35 : decode method_2_code 35 = .ok (.if_icmp .ne 5, 3) := by decide +kernel
theorem d1_38 : decode method_2_code 38 = .ok (.iconst 0, 1) := by decide +kernel
theorem d1_39 : decode method_2_code 39 = .ok (.ireturn, 1) := by decide +kernel
theorem d1_40 : decode method_2_code 40 = .ok (.iload_n 0, 1) := by decide +kernel
theorem d1_41 : decode method_2_code 41 = .ok (.bipush 32, 2) := by decide +kernel
theorem d1_43 : decode method_2_code 43 = .ok (.if_icmp .ge 27, 3) := by decide +kernel
theorem d1_46 : decode method_2_code 46 = .ok (.iload_n 0, 1) := by decide +kernel
theorem d1_47 : decode method_2_code 47 = .ok (.bipush 9, 2) := by decide +kernel
theorem d1_49 : decode method_2_code 49 = .ok (.if_icmp .eq 15, 3) := by decide +kernel
theorem d1_52 : decode method_2_code 52 = .ok (.iload_n 0, 1) := by decide +kernel
theorem d1_53 : decode method_2_code 53 = .ok (.bipush 10, 2) := by decide +kernel
theorem d1_55 : decode method_2_code 55 = .ok (.if_icmp .eq 9, 3) := by decide +kernel
theorem d1_58 : decode method_2_code 58 = .ok (.iload_n 0, 1) := by decide +kernel
theorem d1_59 : decode method_2_code 59 = .ok (.bipush 13, 2) := by decide +kernel
theorem d1_61 : decode method_2_code 61 = .ok (.if_icmp .ne 7, 3) := by decide +kernel
theorem d1_64 : decode method_2_code 64 = .ok (.iconst 1, 1) := by decide +kernel
theorem d1_65 : decode method_2_code 65 = .ok (.goto 4, 3) := by decide +kernel
theorem d1_68 : decode method_2_code 68 = .ok (.iconst 0, 1) := by decide +kernel
theorem d1_69 : decode method_2_code 69 = .ok (.ireturn, 1) := by decide +kernel
theorem d1_70 : decode method_2_code 70 = .ok (.iconst 1, 1) := by decide +kernel
theorem d1_71 : decode method_2_code 71 = .ok (.ireturn, 1) := by decide +kernel
theorem own_pn1 : plainFor (⟨"com/example/deep_query/deepquery/xdm/XmlCharsIsXmlCharPinLaw", "ref", "(I)Z"⟩ : MethodName) = true := plainFor_of_name (by first | (simp [plainName, overriddenIn]; done) | decide +kernel)
theorem own_ef1 (p0 : Int32) (m : MethodId) : entryFrame m #[(.int p0)] 1 = mkF m 0 #[.val (.int p0)] [] := by first | (simp [entryFrame, mkF, argsToLocals, Value.category]; done) | rfl
def own_r_64 (i0 : Int32) : Int32 := (1 : Int32)
def own_r_38 (i0 : Int32) : Int32 := (0 : Int32)
def own_r_26 (i0 : Int32) : Int32 := if i0 = (65534 : Int32) then (own_r_38 i0) else (if i0 = (65535 : Int32) then (own_r_38 i0) else (if i0 < (32 : Int32) then (if i0 = (9 : Int32) then (own_r_64 i0) else (if i0 = (10 : Int32) then (own_r_64 i0) else (if i0 = (13 : Int32) then (own_r_64 i0) else (0 : Int32)))) else (1 : Int32)))
def own_r_10 (i0 : Int32) : Int32 := (0 : Int32)
def own_r (p0 : Int32) : Int32 := if p0 < (0 : Int32) then (own_r_10 p0) else (if (1114111 : Int32) < p0 then (own_r_10 p0) else (if p0 < (55296 : Int32) then (own_r_26 p0) else (if (57343 : Int32) < p0 then (own_r_26 p0) else (0 : Int32))))
set_option maxRecDepth 65536 in
set_option maxHeartbeats 40000000 in
theorem own_rm1 (l : Launch) (Z : State) (a0 : Array Value) (hw : ∀ d ∈ tables_1, d.before a0 Z = true) (p0 : Int32) (h0 : Heap) (n0 : Nat) (Z0 : n0 ≤ h0.size)  :
    Met l Z (⟨"com/example/deep_query/deepquery/xdm/XmlCharsIsXmlCharPinLaw", "ref", "(I)Z"⟩ : MethodName) method_2_code 1 (some .boolean) [] ({ frames := 0, cells := 0, slots := 0, locals := 0 } : Room) #[(.int p0)] h0 (fun v h L => v = some (.int (own_r p0)) ∧ Fr n0 L ∧ h = h0) := by
  refine met_of (Ls := #[.val (.int p0)]) own_pn1 (own_ef1 p0) ?_
  intro p e s m below meth c s₁ hx hby hml hown hnm hret hlk hZ X0 e0
  have N0 := Fr.nil n0
  have B64 : ∀ i0 : Int32, own_r p0 = own_r_64 i0 → Go p e below s ({ frames := 0, cells := 0, slots := 0, locals := 0 } : Room).cells ({ frames := 0, cells := 0, slots := 0, locals := 0 } : Room).slots (fun v h L => v = some (.int (own_r p0)) ∧ Fr n0 L ∧ h = h0) s₁ (mkF m 64 #[.val (.int i0)] []) := by
    intro i0 hq
    replace hq : own_r p0 = ((1 : Int32)) := hq
    refine gIconst X0 hx (1 : Int32) (hb hby d1_64) rfl ?_
    refine gGoto X0 hx 69 (hb hby d1_65) (by decide) (by decide) ?_
    exact gRetZ X0 hx hlk hret (by simp) (hb hby d1_69) (z' := (1 : Int32)) rfl (by decide) (by decide) ⟨congrArg (fun z => some (Value.int z)) hq.symm, N0, e0⟩
  have B38 : ∀ i0 : Int32, own_r p0 = own_r_38 i0 → Go p e below s ({ frames := 0, cells := 0, slots := 0, locals := 0 } : Room).cells ({ frames := 0, cells := 0, slots := 0, locals := 0 } : Room).slots (fun v h L => v = some (.int (own_r p0)) ∧ Fr n0 L ∧ h = h0) s₁ (mkF m 38 #[.val (.int i0)] []) := by
    intro i0 hq
    replace hq : own_r p0 = ((0 : Int32)) := hq
    refine gIconst X0 hx (0 : Int32) (hb hby d1_38) rfl ?_
    exact gRetZ X0 hx hlk hret (by simp) (hb hby d1_39) (z' := (0 : Int32)) rfl (by decide) (by decide) ⟨congrArg (fun z => some (Value.int z)) hq.symm, N0, e0⟩
  have B26 : ∀ i0 : Int32, own_r p0 = own_r_26 i0 → Go p e below s ({ frames := 0, cells := 0, slots := 0, locals := 0 } : Room).cells ({ frames := 0, cells := 0, slots := 0, locals := 0 } : Room).slots (fun v h L => v = some (.int (own_r p0)) ∧ Fr n0 L ∧ h = h0) s₁ (mkF m 26 #[.val (.int i0)] []) := by
    intro i0 hq
    replace hq : own_r p0 = (if i0 = (65534 : Int32) then (own_r_38 i0) else (if i0 = (65535 : Int32) then (own_r_38 i0) else (if i0 < (32 : Int32) then (if i0 = (9 : Int32) then (own_r_64 i0) else (if i0 = (10 : Int32) then (own_r_64 i0) else (if i0 = (13 : Int32) then (own_r_64 i0) else (0 : Int32)))) else (1 : Int32)))) := hq
    refine gIloadN X0 hx (hb hby d1_26) rfl ?_
    refine gLdc X0 hx hZ (65534 : Int32) hown (tw hw 6 rfl) (hb hby d1_27) ?_
    refine gIcmp X0 hx 38 (hb hby d1_29) (by decide) (by decide) (fun hT => ?_) (fun hT => ?_)
    · have hc1 := o_eqT hT
      have q2 := hq.trans (if_pos hc1)
      show Go _ _ _ _ _ _ _ s₁ (mkF m 38 #[.val (.int i0)] [])
      exact B38 i0 q2
    · have hc1 := o_eqF hT
      have q3 := hq.trans (if_neg hc1)
      show Go _ _ _ _ _ _ _ s₁ (mkF m 32 #[.val (.int i0)] [])
      refine gIloadN X0 hx (hb hby d1_32) rfl ?_
      refine gLdc X0 hx hZ (65535 : Int32) hown (tw hw 22 rfl) (hb hby d1_33) ?_
      refine gIcmp X0 hx 40 (hb hby d1_35) (by decide) (by decide) (fun hT => ?_) (fun hT => ?_)
      · have hc4 := o_neT hT
        have q5 := q3.trans (if_neg hc4)
        show Go _ _ _ _ _ _ _ s₁ (mkF m 40 #[.val (.int i0)] [])
        refine gIloadN X0 hx (hb hby d1_40) rfl ?_
        refine gBipush X0 hx (32 : Int32) (hb hby d1_41) rfl ?_
        refine gIcmp X0 hx 70 (hb hby d1_43) (by decide) (by decide) (fun hT => ?_) (fun hT => ?_)
        · have hc6 := o_geT hT
          have q7 := q5.trans (if_neg hc6)
          show Go _ _ _ _ _ _ _ s₁ (mkF m 70 #[.val (.int i0)] [])
          refine gIconst X0 hx (1 : Int32) (hb hby d1_70) rfl ?_
          exact gRetZ X0 hx hlk hret (by simp) (hb hby d1_71) (z' := (1 : Int32)) rfl (by decide) (by decide) ⟨congrArg (fun z => some (Value.int z)) q7.symm, N0, e0⟩
        · have hc6 := o_geF hT
          have q8 := q5.trans (if_pos hc6)
          show Go _ _ _ _ _ _ _ s₁ (mkF m 46 #[.val (.int i0)] [])
          refine gIloadN X0 hx (hb hby d1_46) rfl ?_
          refine gBipush X0 hx (9 : Int32) (hb hby d1_47) rfl ?_
          refine gIcmp X0 hx 64 (hb hby d1_49) (by decide) (by decide) (fun hT => ?_) (fun hT => ?_)
          · have hc9 := o_eqT hT
            have q10 := q8.trans (if_pos hc9)
            show Go _ _ _ _ _ _ _ s₁ (mkF m 64 #[.val (.int i0)] [])
            exact B64 i0 q10
          · have hc9 := o_eqF hT
            have q11 := q8.trans (if_neg hc9)
            show Go _ _ _ _ _ _ _ s₁ (mkF m 52 #[.val (.int i0)] [])
            refine gIloadN X0 hx (hb hby d1_52) rfl ?_
            refine gBipush X0 hx (10 : Int32) (hb hby d1_53) rfl ?_
            refine gIcmp X0 hx 64 (hb hby d1_55) (by decide) (by decide) (fun hT => ?_) (fun hT => ?_)
            · have hc12 := o_eqT hT
              have q13 := q11.trans (if_pos hc12)
              show Go _ _ _ _ _ _ _ s₁ (mkF m 64 #[.val (.int i0)] [])
              exact B64 i0 q13
            · have hc12 := o_eqF hT
              have q14 := q11.trans (if_neg hc12)
              show Go _ _ _ _ _ _ _ s₁ (mkF m 58 #[.val (.int i0)] [])
              refine gIloadN X0 hx (hb hby d1_58) rfl ?_
              refine gBipush X0 hx (13 : Int32) (hb hby d1_59) rfl ?_
              refine gIcmp X0 hx 68 (hb hby d1_61) (by decide) (by decide) (fun hT => ?_) (fun hT => ?_)
              · have hc15 := o_neT hT
                have q16 := q14.trans (if_neg hc15)
                show Go _ _ _ _ _ _ _ s₁ (mkF m 68 #[.val (.int i0)] [])
                refine gIconst X0 hx (0 : Int32) (hb hby d1_68) rfl ?_
                exact gRetZ X0 hx hlk hret (by simp) (hb hby d1_69) (z' := (0 : Int32)) rfl (by decide) (by decide) ⟨congrArg (fun z => some (Value.int z)) q16.symm, N0, e0⟩
              · have hc15 := o_neF hT
                have q17 := q14.trans (if_pos hc15)
                show Go _ _ _ _ _ _ _ s₁ (mkF m 64 #[.val (.int i0)] [])
                exact B64 i0 q17
      · have hc4 := o_neF hT
        have q18 := q3.trans (if_pos hc4)
        show Go _ _ _ _ _ _ _ s₁ (mkF m 38 #[.val (.int i0)] [])
        exact B38 i0 q18
  have B10 : ∀ i0 : Int32, own_r p0 = own_r_10 i0 → Go p e below s ({ frames := 0, cells := 0, slots := 0, locals := 0 } : Room).cells ({ frames := 0, cells := 0, slots := 0, locals := 0 } : Room).slots (fun v h L => v = some (.int (own_r p0)) ∧ Fr n0 L ∧ h = h0) s₁ (mkF m 10 #[.val (.int i0)] []) := by
    intro i0 hq
    replace hq : own_r p0 = ((0 : Int32)) := hq
    refine gIconst X0 hx (0 : Int32) (hb hby d1_10) rfl ?_
    exact gRetZ X0 hx hlk hret (by simp) (hb hby d1_11) (z' := (0 : Int32)) rfl (by decide) (by decide) ⟨congrArg (fun z => some (Value.int z)) hq.symm, N0, e0⟩
  have hq : own_r p0 = (if p0 < (0 : Int32) then (own_r_10 p0) else (if (1114111 : Int32) < p0 then (own_r_10 p0) else (if p0 < (55296 : Int32) then (own_r_26 p0) else (if (57343 : Int32) < p0 then (own_r_26 p0) else (0 : Int32))))) := rfl
  refine gIloadN X0 hx (hb hby d1_0) rfl ?_
  refine gIf X0 hx 10 (hb hby d1_1) (by decide) (by decide) (fun hT => ?_) (fun hT => ?_)
  · have hc19 := o_ltT hT
    have q20 := hq.trans (if_pos hc19)
    show Go _ _ _ _ _ _ _ s₁ (mkF m 10 #[.val (.int p0)] [])
    exact B10 p0 q20
  · have hc19 := o_ltF hT
    have q21 := hq.trans (if_neg hc19)
    show Go _ _ _ _ _ _ _ s₁ (mkF m 4 #[.val (.int p0)] [])
    refine gIloadN X0 hx (hb hby d1_4) rfl ?_
    refine gLdc X0 hx hZ (1114111 : Int32) hown (tw hw 8 rfl) (hb hby d1_5) ?_
    refine gIcmp X0 hx 12 (hb hby d1_7) (by decide) (by decide) (fun hT => ?_) (fun hT => ?_)
    · have hc22 := o_leT hT
      have q23 := q21.trans (if_neg hc22)
      show Go _ _ _ _ _ _ _ s₁ (mkF m 12 #[.val (.int p0)] [])
      refine gIloadN X0 hx (hb hby d1_12) rfl ?_
      refine gLdc X0 hx hZ (55296 : Int32) hown (tw hw 2 rfl) (hb hby d1_13) ?_
      refine gIcmp X0 hx 26 (hb hby d1_15) (by decide) (by decide) (fun hT => ?_) (fun hT => ?_)
      · have hc24 := o_ltT hT
        have q25 := q23.trans (if_pos hc24)
        show Go _ _ _ _ _ _ _ s₁ (mkF m 26 #[.val (.int p0)] [])
        exact B26 p0 q25
      · have hc24 := o_ltF hT
        have q26 := q23.trans (if_neg hc24)
        show Go _ _ _ _ _ _ _ s₁ (mkF m 18 #[.val (.int p0)] [])
        refine gIloadN X0 hx (hb hby d1_18) rfl ?_
        refine gLdc X0 hx hZ (57343 : Int32) hown (tw hw 3 rfl) (hb hby d1_19) ?_
        refine gIcmp X0 hx 26 (hb hby d1_21) (by decide) (by decide) (fun hT => ?_) (fun hT => ?_)
        · have hc27 := o_gtT hT
          have q28 := q26.trans (if_pos hc27)
          show Go _ _ _ _ _ _ _ s₁ (mkF m 26 #[.val (.int p0)] [])
          exact B26 p0 q28
        · have hc27 := o_gtF hT
          have q29 := q26.trans (if_neg hc27)
          show Go _ _ _ _ _ _ _ s₁ (mkF m 24 #[.val (.int p0)] [])
          refine gIconst X0 hx (0 : Int32) (hb hby d1_24) rfl ?_
          exact gRetZ X0 hx hlk hret (by simp) (hb hby d1_25) (z' := (0 : Int32)) rfl (by decide) (by decide) ⟨congrArg (fun z => some (Value.int z)) q29.symm, N0, e0⟩
    · have hc22 := o_leF hT
      have q30 := q21.trans (if_pos hc22)
      show Go _ _ _ _ _ _ _ s₁ (mkF m 10 #[.val (.int p0)] [])
      exact B10 p0 q30
set_option maxRecDepth 65536 in
set_option maxHeartbeats 40000000 in
theorem own_same (x : Int32) : own_f x = own_r x := by
  have l0 : (0 : Int32).toInt = 0 := by decide
  have l9 : (9 : Int32).toInt = 9 := by decide
  have l10 : (10 : Int32).toInt = 10 := by decide
  have l13 : (13 : Int32).toInt = 13 := by decide
  have l32 : (32 : Int32).toInt = 32 := by decide
  have l55295 : (55295 : Int32).toInt = 55295 := by decide
  have l55296 : (55296 : Int32).toInt = 55296 := by decide
  have l57343 : (57343 : Int32).toInt = 57343 := by decide
  have l57344 : (57344 : Int32).toInt = 57344 := by decide
  have l65533 : (65533 : Int32).toInt = 65533 := by decide
  have l65534 : (65534 : Int32).toInt = 65534 := by decide
  have l65535 : (65535 : Int32).toInt = 65535 := by decide
  have l65536 : (65536 : Int32).toInt = 65536 := by decide
  have l1114111 : (1114111 : Int32).toInt = 1114111 := by decide
  simp only [own_f_58, own_f_54, own_f_42, own_f_30, own_f, own_r_64, own_r_38, own_r_26, own_r_10, own_r, Int32.lt_iff_toInt_lt, ← Int32.toInt_inj (x := x), l0, l9, l10, l13, l32, l55295, l55296, l57343, l57344, l65533, l65534, l65535, l65536, l1114111]
  generalize x.toInt = i
  clear l0 l9 l10 l13 l32 l55295 l55296 l57343 l57344 l65533 l65534 l65535 l65536 l1114111
  have hlo : True := trivial
  by_cases h : i < 0
  · repeat first | rw [if_pos (by omega)] | rw [if_neg (by omega)]
  replace hlo : 0 ≤ i := by omega
  clear h
  by_cases h : i < 1
  · repeat first | rw [if_pos (by omega)] | rw [if_neg (by omega)]
  replace hlo : 1 ≤ i := by omega
  clear h
  by_cases h : i < 9
  · repeat first | rw [if_pos (by omega)] | rw [if_neg (by omega)]
  replace hlo : 9 ≤ i := by omega
  clear h
  by_cases h : i < 10
  · repeat first | rw [if_pos (by omega)] | rw [if_neg (by omega)]
  replace hlo : 10 ≤ i := by omega
  clear h
  by_cases h : i < 11
  · repeat first | rw [if_pos (by omega)] | rw [if_neg (by omega)]
  replace hlo : 11 ≤ i := by omega
  clear h
  by_cases h : i < 13
  · repeat first | rw [if_pos (by omega)] | rw [if_neg (by omega)]
  replace hlo : 13 ≤ i := by omega
  clear h
  by_cases h : i < 14
  · repeat first | rw [if_pos (by omega)] | rw [if_neg (by omega)]
  replace hlo : 14 ≤ i := by omega
  clear h
  by_cases h : i < 32
  · repeat first | rw [if_pos (by omega)] | rw [if_neg (by omega)]
  replace hlo : 32 ≤ i := by omega
  clear h
  by_cases h : i < 33
  · repeat first | rw [if_pos (by omega)] | rw [if_neg (by omega)]
  replace hlo : 33 ≤ i := by omega
  clear h
  by_cases h : i < 55295
  · repeat first | rw [if_pos (by omega)] | rw [if_neg (by omega)]
  replace hlo : 55295 ≤ i := by omega
  clear h
  by_cases h : i < 55296
  · repeat first | rw [if_pos (by omega)] | rw [if_neg (by omega)]
  replace hlo : 55296 ≤ i := by omega
  clear h
  by_cases h : i < 55297
  · repeat first | rw [if_pos (by omega)] | rw [if_neg (by omega)]
  replace hlo : 55297 ≤ i := by omega
  clear h
  by_cases h : i < 57343
  · repeat first | rw [if_pos (by omega)] | rw [if_neg (by omega)]
  replace hlo : 57343 ≤ i := by omega
  clear h
  by_cases h : i < 57344
  · repeat first | rw [if_pos (by omega)] | rw [if_neg (by omega)]
  replace hlo : 57344 ≤ i := by omega
  clear h
  by_cases h : i < 57345
  · repeat first | rw [if_pos (by omega)] | rw [if_neg (by omega)]
  replace hlo : 57345 ≤ i := by omega
  clear h
  by_cases h : i < 65533
  · repeat first | rw [if_pos (by omega)] | rw [if_neg (by omega)]
  replace hlo : 65533 ≤ i := by omega
  clear h
  by_cases h : i < 65534
  · repeat first | rw [if_pos (by omega)] | rw [if_neg (by omega)]
  replace hlo : 65534 ≤ i := by omega
  clear h
  by_cases h : i < 65535
  · repeat first | rw [if_pos (by omega)] | rw [if_neg (by omega)]
  replace hlo : 65535 ≤ i := by omega
  clear h
  by_cases h : i < 65536
  · repeat first | rw [if_pos (by omega)] | rw [if_neg (by omega)]
  replace hlo : 65536 ≤ i := by omega
  clear h
  by_cases h : i < 65537
  · repeat first | rw [if_pos (by omega)] | rw [if_neg (by omega)]
  replace hlo : 65537 ≤ i := by omega
  clear h
  by_cases h : i < 1114111
  · repeat first | rw [if_pos (by omega)] | rw [if_neg (by omega)]
  replace hlo : 1114111 ≤ i := by omega
  clear h
  by_cases h : i < 1114112
  · repeat first | rw [if_pos (by omega)] | rw [if_neg (by omega)]
  replace hlo : 1114112 ≤ i := by omega
  clear h
  repeat first | rw [if_pos (by omega)] | rw [if_neg (by omega)]
theorem own_idx (x : Int32) : ¬ (x &&& (15 : Int32)) < 0 ∧ (x &&& (15 : Int32)).toNatClampNeg < 16 := by
  have h := c_mask x 15 4 (by decide) (by decide)
  rw [Int32.lt_iff_toInt_lt, show (0 : Int32).toInt = 0 from rfl, Int32.toNatClampNeg, h]
  omega
theorem own_pn2 : plainFor x = true := plainFor_of_name (by first | (simp [plainName, overriddenIn]; done) | decide +kernel)
theorem own_ef2 (p0 : Int32) (p1 : Int32) (p2 : Int32) (m : MethodId) : entryFrame m #[(.int p0), (.int p1), (.int p2)] maxLocals = mkF m 0 #[.val (.int p0), .val (.int p1), .val (.int p2), .unset, .unset, .unset, .unset] [] := by first | (simp [entryFrame, mkF, argsToLocals, Value.category, maxLocals]; done) | rfl
theorem own_pd1 : parseMethodDescriptor "(III)Z" = some ⟨[.int, .int, .int], some .boolean⟩ := by decide +kernel
set_option maxRecDepth 65536 in
set_option maxHeartbeats 40000000 in
theorem own_rm2 (l : Launch) (Z : State) (a0 : Array Value) (hw : ∀ d ∈ tables_1, d.before a0 Z = true) (p0 : Int32) (p1 : Int32) (p2 : Int32) (h0 : Heap) (n0 : Nat) (Z0 : n0 ≤ h0.size)  :
    Met l Z x code maxLocals ret tables_1 room_1 #[(.int p0), (.int p1), (.int p2)] h0 (fun v h L => v = some (.int 1) ∧ Fr n0 L) := by
  refine met_of (Ls := #[.val (.int p0), .val (.int p1), .val (.int p2), .unset, .unset, .unset, .unset]) own_pn2 (own_ef2 p0 p1 p2) ?_
  intro p e s m below meth c s₁ hx hby hml hown hnm hret hlk hZ X0 e0
  have N0 := Fr.nil n0
  refine gBipush X0 hx (16 : Int32) (hb hby at_0) rfl ?_
  refine gNewArr X0 hx hZ (tw hw 0 rfl) e0 (hb hby at_2) (by decide) (cap := 16) (by decide) (by decide) (by decide) (by decide) ?_
  intro T1 h1 b1 cA1 X1 e1 E1 g1 A1
  have g_b1 : n0 ≤ b1 := by rw [g1]; exact Z0
  have Z_1 := Nat.le_trans Z0 E1.1
  have V1 : IA Z h1 b1 .int 16 (fun _ => 0) := (IA.new rfl A1)
  show Go _ _ _ _ _ _ _ T1 (mkF m 4 #[.val (.int p0), .val (.int p1), .val (.int p2), .unset, .unset, .unset, .unset] [(.ref b1)])
  refine gDup X1 hx (hb hby at_4) rfl ?_
  refine gIconst X1 hx (0 : Int32) (hb hby at_5) rfl ?_
  refine gIconst X1 hx (0 : Int32) (hb hby at_6) rfl ?_
  refine gIastore X1 hx hZ e1 V1 0 rfl ⟨by decide, by decide⟩ (hb hby at_7) ?_
  intro T2 h2 X2 e2 W2 V1__2
  have Z_2 := Nat.le_trans Z_1 (Nat.le_of_eq W2.size.symm)
  have N_2 := Fr.snoc X2 N0 g_b1
  show Go _ _ _ _ _ _ _ T2 (mkF m 8 #[.val (.int p0), .val (.int p1), .val (.int p2), .unset, .unset, .unset, .unset] [(.ref b1)])
  obtain ⟨f2, V2_⟩ : ∃ f, IA Z h2 b1 .int 16 f := ⟨_, V1__2⟩
  refine gDup X2 hx (hb hby at_8) rfl ?_
  refine gIconst X2 hx (1 : Int32) (hb hby at_9) rfl ?_
  refine gBipush X2 hx (9 : Int32) (hb hby at_10) rfl ?_
  refine gIastore X2 hx hZ e2 V2_ 1 rfl ⟨by decide, by decide⟩ (hb hby at_12) ?_
  intro T3 h3 X3 e3 W3 V2___3
  have Z_3 := Nat.le_trans Z_2 (Nat.le_of_eq W3.size.symm)
  have N_3 := Fr.snoc X3 N_2 g_b1
  show Go _ _ _ _ _ _ _ T3 (mkF m 13 #[.val (.int p0), .val (.int p1), .val (.int p2), .unset, .unset, .unset, .unset] [(.ref b1)])
  obtain ⟨f3, V3_⟩ : ∃ f, IA Z h3 b1 .int 16 f := ⟨_, V2___3⟩
  refine gDup X3 hx (hb hby at_13) rfl ?_
  refine gIconst X3 hx (2 : Int32) (hb hby at_14) rfl ?_
  refine gBipush X3 hx (10 : Int32) (hb hby at_15) rfl ?_
  refine gIastore X3 hx hZ e3 V3_ 2 rfl ⟨by decide, by decide⟩ (hb hby at_17) ?_
  intro T4 h4 X4 e4 W4 V3___4
  have Z_4 := Nat.le_trans Z_3 (Nat.le_of_eq W4.size.symm)
  have N_4 := Fr.snoc X4 N_3 g_b1
  show Go _ _ _ _ _ _ _ T4 (mkF m 18 #[.val (.int p0), .val (.int p1), .val (.int p2), .unset, .unset, .unset, .unset] [(.ref b1)])
  obtain ⟨f4, V4_⟩ : ∃ f, IA Z h4 b1 .int 16 f := ⟨_, V3___4⟩
  refine gDup X4 hx (hb hby at_18) rfl ?_
  refine gIconst X4 hx (3 : Int32) (hb hby at_19) rfl ?_
  refine gBipush X4 hx (13 : Int32) (hb hby at_20) rfl ?_
  refine gIastore X4 hx hZ e4 V4_ 3 rfl ⟨by decide, by decide⟩ (hb hby at_22) ?_
  intro T5 h5 X5 e5 W5 V4___5
  have Z_5 := Nat.le_trans Z_4 (Nat.le_of_eq W5.size.symm)
  have N_5 := Fr.snoc X5 N_4 g_b1
  show Go _ _ _ _ _ _ _ T5 (mkF m 23 #[.val (.int p0), .val (.int p1), .val (.int p2), .unset, .unset, .unset, .unset] [(.ref b1)])
  obtain ⟨f5, V5_⟩ : ∃ f, IA Z h5 b1 .int 16 f := ⟨_, V4___5⟩
  refine gDup X5 hx (hb hby at_23) rfl ?_
  refine gIconst X5 hx (4 : Int32) (hb hby at_24) rfl ?_
  refine gBipush X5 hx (32 : Int32) (hb hby at_25) rfl ?_
  refine gIastore X5 hx hZ e5 V5_ 4 rfl ⟨by decide, by decide⟩ (hb hby at_27) ?_
  intro T6 h6 X6 e6 W6 V5___6
  have Z_6 := Nat.le_trans Z_5 (Nat.le_of_eq W6.size.symm)
  have N_6 := Fr.snoc X6 N_5 g_b1
  show Go _ _ _ _ _ _ _ T6 (mkF m 28 #[.val (.int p0), .val (.int p1), .val (.int p2), .unset, .unset, .unset, .unset] [(.ref b1)])
  obtain ⟨f6, V6_⟩ : ∃ f, IA Z h6 b1 .int 16 f := ⟨_, V5___6⟩
  refine gDup X6 hx (hb hby at_28) rfl ?_
  refine gIconst X6 hx (5 : Int32) (hb hby at_29) rfl ?_
  refine gLdc X6 hx hZ (55295 : Int32) hown (tw hw 1 rfl) (hb hby at_30) ?_
  refine gIastore X6 hx hZ e6 V6_ 5 rfl ⟨by decide, by decide⟩ (hb hby at_32) ?_
  intro T7 h7 X7 e7 W7 V6___7
  have Z_7 := Nat.le_trans Z_6 (Nat.le_of_eq W7.size.symm)
  have N_7 := Fr.snoc X7 N_6 g_b1
  show Go _ _ _ _ _ _ _ T7 (mkF m 33 #[.val (.int p0), .val (.int p1), .val (.int p2), .unset, .unset, .unset, .unset] [(.ref b1)])
  obtain ⟨f7, V7_⟩ : ∃ f, IA Z h7 b1 .int 16 f := ⟨_, V6___7⟩
  refine gDup X7 hx (hb hby at_33) rfl ?_
  refine gBipush X7 hx (6 : Int32) (hb hby at_34) rfl ?_
  refine gLdc X7 hx hZ (55296 : Int32) hown (tw hw 2 rfl) (hb hby at_36) ?_
  refine gIastore X7 hx hZ e7 V7_ 6 rfl ⟨by decide, by decide⟩ (hb hby at_38) ?_
  intro T8 h8 X8 e8 W8 V7___8
  have Z_8 := Nat.le_trans Z_7 (Nat.le_of_eq W8.size.symm)
  have N_8 := Fr.snoc X8 N_7 g_b1
  show Go _ _ _ _ _ _ _ T8 (mkF m 39 #[.val (.int p0), .val (.int p1), .val (.int p2), .unset, .unset, .unset, .unset] [(.ref b1)])
  obtain ⟨f8, V8_⟩ : ∃ f, IA Z h8 b1 .int 16 f := ⟨_, V7___8⟩
  refine gDup X8 hx (hb hby at_39) rfl ?_
  refine gBipush X8 hx (7 : Int32) (hb hby at_40) rfl ?_
  refine gLdc X8 hx hZ (57343 : Int32) hown (tw hw 3 rfl) (hb hby at_42) ?_
  refine gIastore X8 hx hZ e8 V8_ 7 rfl ⟨by decide, by decide⟩ (hb hby at_44) ?_
  intro T9 h9 X9 e9 W9 V8___9
  have Z_9 := Nat.le_trans Z_8 (Nat.le_of_eq W9.size.symm)
  have N_9 := Fr.snoc X9 N_8 g_b1
  show Go _ _ _ _ _ _ _ T9 (mkF m 45 #[.val (.int p0), .val (.int p1), .val (.int p2), .unset, .unset, .unset, .unset] [(.ref b1)])
  obtain ⟨f9, V9_⟩ : ∃ f, IA Z h9 b1 .int 16 f := ⟨_, V8___9⟩
  refine gDup X9 hx (hb hby at_45) rfl ?_
  refine gBipush X9 hx (8 : Int32) (hb hby at_46) rfl ?_
  refine gLdc X9 hx hZ (57344 : Int32) hown (tw hw 4 rfl) (hb hby at_48) ?_
  refine gIastore X9 hx hZ e9 V9_ 8 rfl ⟨by decide, by decide⟩ (hb hby at_50) ?_
  intro T10 h10 X10 e10 W10 V9___10
  have Z_10 := Nat.le_trans Z_9 (Nat.le_of_eq W10.size.symm)
  have N_10 := Fr.snoc X10 N_9 g_b1
  show Go _ _ _ _ _ _ _ T10 (mkF m 51 #[.val (.int p0), .val (.int p1), .val (.int p2), .unset, .unset, .unset, .unset] [(.ref b1)])
  obtain ⟨f10, V10_⟩ : ∃ f, IA Z h10 b1 .int 16 f := ⟨_, V9___10⟩
  refine gDup X10 hx (hb hby at_51) rfl ?_
  refine gBipush X10 hx (9 : Int32) (hb hby at_52) rfl ?_
  refine gLdc X10 hx hZ (65533 : Int32) hown (tw hw 5 rfl) (hb hby at_54) ?_
  refine gIastore X10 hx hZ e10 V10_ 9 rfl ⟨by decide, by decide⟩ (hb hby at_56) ?_
  intro T11 h11 X11 e11 W11 V10___11
  have Z_11 := Nat.le_trans Z_10 (Nat.le_of_eq W11.size.symm)
  have N_11 := Fr.snoc X11 N_10 g_b1
  show Go _ _ _ _ _ _ _ T11 (mkF m 57 #[.val (.int p0), .val (.int p1), .val (.int p2), .unset, .unset, .unset, .unset] [(.ref b1)])
  obtain ⟨f11, V11_⟩ : ∃ f, IA Z h11 b1 .int 16 f := ⟨_, V10___11⟩
  refine gDup X11 hx (hb hby at_57) rfl ?_
  refine gBipush X11 hx (10 : Int32) (hb hby at_58) rfl ?_
  refine gLdc X11 hx hZ (65534 : Int32) hown (tw hw 6 rfl) (hb hby at_60) ?_
  refine gIastore X11 hx hZ e11 V11_ 10 rfl ⟨by decide, by decide⟩ (hb hby at_62) ?_
  intro T12 h12 X12 e12 W12 V11___12
  have Z_12 := Nat.le_trans Z_11 (Nat.le_of_eq W12.size.symm)
  have N_12 := Fr.snoc X12 N_11 g_b1
  show Go _ _ _ _ _ _ _ T12 (mkF m 63 #[.val (.int p0), .val (.int p1), .val (.int p2), .unset, .unset, .unset, .unset] [(.ref b1)])
  obtain ⟨f12, V12_⟩ : ∃ f, IA Z h12 b1 .int 16 f := ⟨_, V11___12⟩
  refine gDup X12 hx (hb hby at_63) rfl ?_
  refine gBipush X12 hx (11 : Int32) (hb hby at_64) rfl ?_
  refine gLdc X12 hx hZ (65536 : Int32) hown (tw hw 7 rfl) (hb hby at_66) ?_
  refine gIastore X12 hx hZ e12 V12_ 11 rfl ⟨by decide, by decide⟩ (hb hby at_68) ?_
  intro T13 h13 X13 e13 W13 V12___13
  have Z_13 := Nat.le_trans Z_12 (Nat.le_of_eq W13.size.symm)
  have N_13 := Fr.snoc X13 N_12 g_b1
  show Go _ _ _ _ _ _ _ T13 (mkF m 69 #[.val (.int p0), .val (.int p1), .val (.int p2), .unset, .unset, .unset, .unset] [(.ref b1)])
  obtain ⟨f13, V13_⟩ : ∃ f, IA Z h13 b1 .int 16 f := ⟨_, V12___13⟩
  refine gDup X13 hx (hb hby at_69) rfl ?_
  refine gBipush X13 hx (12 : Int32) (hb hby at_70) rfl ?_
  refine gLdc X13 hx hZ (1114111 : Int32) hown (tw hw 8 rfl) (hb hby at_72) ?_
  refine gIastore X13 hx hZ e13 V13_ 12 rfl ⟨by decide, by decide⟩ (hb hby at_74) ?_
  intro T14 h14 X14 e14 W14 V13___14
  have Z_14 := Nat.le_trans Z_13 (Nat.le_of_eq W14.size.symm)
  have N_14 := Fr.snoc X14 N_13 g_b1
  show Go _ _ _ _ _ _ _ T14 (mkF m 75 #[.val (.int p0), .val (.int p1), .val (.int p2), .unset, .unset, .unset, .unset] [(.ref b1)])
  obtain ⟨f14, V14_⟩ : ∃ f, IA Z h14 b1 .int 16 f := ⟨_, V13___14⟩
  refine gDup X14 hx (hb hby at_75) rfl ?_
  refine gBipush X14 hx (13 : Int32) (hb hby at_76) rfl ?_
  refine gLdc X14 hx hZ (1114112 : Int32) hown (tw hw 9 rfl) (hb hby at_78) ?_
  refine gIastore X14 hx hZ e14 V14_ 13 rfl ⟨by decide, by decide⟩ (hb hby at_80) ?_
  intro T15 h15 X15 e15 W15 V14___15
  have Z_15 := Nat.le_trans Z_14 (Nat.le_of_eq W15.size.symm)
  have N_15 := Fr.snoc X15 N_14 g_b1
  show Go _ _ _ _ _ _ _ T15 (mkF m 81 #[.val (.int p0), .val (.int p1), .val (.int p2), .unset, .unset, .unset, .unset] [(.ref b1)])
  obtain ⟨f15, V15_⟩ : ∃ f, IA Z h15 b1 .int 16 f := ⟨_, V14___15⟩
  refine gDup X15 hx (hb hby at_81) rfl ?_
  refine gBipush X15 hx (14 : Int32) (hb hby at_82) rfl ?_
  refine gLdc X15 hx hZ (-2147483648 : Int32) hown (tw hw 10 rfl) (hb hby at_84) ?_
  refine gIastore X15 hx hZ e15 V15_ 14 rfl ⟨by decide, by decide⟩ (hb hby at_86) ?_
  intro T16 h16 X16 e16 W16 V15___16
  have Z_16 := Nat.le_trans Z_15 (Nat.le_of_eq W16.size.symm)
  have N_16 := Fr.snoc X16 N_15 g_b1
  show Go _ _ _ _ _ _ _ T16 (mkF m 87 #[.val (.int p0), .val (.int p1), .val (.int p2), .unset, .unset, .unset, .unset] [(.ref b1)])
  obtain ⟨f16, V16_⟩ : ∃ f, IA Z h16 b1 .int 16 f := ⟨_, V15___16⟩
  refine gDup X16 hx (hb hby at_87) rfl ?_
  refine gBipush X16 hx (15 : Int32) (hb hby at_88) rfl ?_
  refine gLdc X16 hx hZ (2147483647 : Int32) hown (tw hw 11 rfl) (hb hby at_90) ?_
  refine gIastore X16 hx hZ e16 V16_ 15 rfl ⟨by decide, by decide⟩ (hb hby at_92) ?_
  intro T17 h17 X17 e17 W17 V16___17
  have Z_17 := Nat.le_trans Z_16 (Nat.le_of_eq W17.size.symm)
  have N_17 := Fr.snoc X17 N_16 g_b1
  show Go _ _ _ _ _ _ _ T17 (mkF m 93 #[.val (.int p0), .val (.int p1), .val (.int p2), .unset, .unset, .unset, .unset] [(.ref b1)])
  obtain ⟨f17, V17_⟩ : ∃ f, IA Z h17 b1 .int 16 f := ⟨_, V16___17⟩
  refine gAstoreN X17 hx #[.val (.int p0), .val (.int p1), .val (.int p2), .val (.ref b1), .unset, .unset, .unset] (hb hby at_93) rfl rfl ?_
  refine gAloadN X17 hx (hb hby at_94) rfl rfl ?_
  refine gIloadN X17 hx (hb hby at_95) rfl ?_
  refine gBipush X17 hx (15 : Int32) (hb hby at_96) rfl ?_
  refine gIand X17 hx (hb hby at_98) ?_
  refine gIaload X17 hx hZ e17 V17_ (own_idx p1) (hb hby at_99) ?_
  show Go _ _ _ _ _ _ _ T17 (mkF m 100 #[.val (.int p0), .val (.int p1), .val (.int p2), .val (.ref b1), .unset, .unset, .unset] [(.int (f17 (p1 &&& (15 : Int32)).toNatClampNeg))])
  refine gIloadN X17 hx (hb hby at_100) rfl ?_
  refine gBipush X17 hx (7 : Int32) (hb hby at_101) rfl ?_
  refine gIand X17 hx (hb hby at_103) ?_
  refine gIconst X17 hx (4 : Int32) (hb hby at_104) rfl ?_
  refine gIsub X17 hx (hb hby at_105) ?_
  refine gIadd X17 hx (hb hby at_106) ?_
  generalize ((f17 (p1 &&& (15 : Int32)).toNatClampNeg) + ((p2 &&& (7 : Int32)) - (4 : Int32))) = cc
  refine gIstore X17 hx #[.val (.int p0), .val (.int p1), .val (.int p2), .val (.ref b1), .val (.int cc), .unset, .unset] (hb hby at_107) rfl ?_
  refine gIloadN X17 hx (hb hby at_109) rfl ?_
  refine gStatic X17 hx hZ (y := (⟨"com/example/deep_query/deepquery/xdm/XmlChars", "isXmlChar", "(I)Z"⟩ : MethodName)) hown (by decide) (tw hw 12 rfl) (tw hw 13 rfl) (tw hw 14 rfl) (tw hw 15 rfl) (own_rm0 l Z a0 hw p0 h17 n0 Z_17) e17 (by rw [hml]; rfl) (argsL := [(.int p0)]) (rest := []) (W := 0) (lenOf own_pd0 rfl) rfl (Nat.le_of_eq rfl) (by decide) (by decide) (by decide) (by decide) (hb hby at_110) ?_
  rintro _ T18 L18 X18 ⟨rfl, Nq18, e18⟩
  have N_18 := Fr.app N_17 Nq18
  show Go _ _ _ _ _ _ _ T18 (mkF m 113 #[.val (.int p0), .val (.int p1), .val (.int p2), .val (.ref b1), .val (.int cc), .unset, .unset] [(.int (own_f p0))])
  refine gIloadN X18 hx (hb hby at_113) rfl ?_
  refine gStatic X18 hx hZ (y := (⟨"com/example/deep_query/deepquery/xdm/XmlCharsIsXmlCharPinLaw", "ref", "(I)Z"⟩ : MethodName)) hown (by decide) (tw hw 18 rfl) (tw hw 19 rfl) (tw hw 20 rfl) (tw hw 21 rfl) (own_rm1 l Z a0 hw p0 h17 n0 Z_17) e18 (by rw [hml]; rfl) (argsL := [(.int p0)]) (rest := [(.int (own_f p0))]) (W := 1) (lenOf own_pd0 rfl) rfl (Nat.le_of_eq rfl) (by decide) (by decide) (by decide) (by decide) (hb hby at_114) ?_
  rintro _ T19 L19 X19 ⟨rfl, Nq19, e19⟩
  have N_19 := Fr.app N_18 Nq19
  show Go _ _ _ _ _ _ _ T19 (mkF m 117 #[.val (.int p0), .val (.int p1), .val (.int p2), .val (.ref b1), .val (.int cc), .unset, .unset] [(.int (own_r p0)), (.int (own_f p0))])
  refine gIcmp X19 hx 124 (hb hby at_117) (by decide) (by decide) (fun q => absurd (own_same p0) (o_neT q)) (fun _ => ?_)
  show Go _ _ _ _ _ _ _ T19 (mkF m 120 #[.val (.int p0), .val (.int p1), .val (.int p2), .val (.ref b1), .val (.int cc), .unset, .unset] [])
  refine gIconst X19 hx (1 : Int32) (hb hby at_120) rfl ?_
  refine gGoto X19 hx 125 (hb hby at_121) (by decide) (by decide) ?_
  refine gIstore X19 hx #[.val (.int p0), .val (.int p1), .val (.int p2), .val (.ref b1), .val (.int cc), .val (.int (1 : Int32)), .unset] (hb hby at_125) rfl ?_
  refine gIload X19 hx (hb hby at_127) rfl ?_
  refine gStatic X19 hx hZ (y := (⟨"com/example/deep_query/deepquery/xdm/XmlChars", "isXmlChar", "(I)Z"⟩ : MethodName)) hown (by decide) (tw hw 12 rfl) (tw hw 13 rfl) (tw hw 14 rfl) (tw hw 15 rfl) (own_rm0 l Z a0 hw cc h17 n0 Z_17) e19 (by rw [hml]; rfl) (argsL := [(.int cc)]) (rest := []) (W := 0) (lenOf own_pd0 rfl) rfl (Nat.le_of_eq rfl) (by decide) (by decide) (by decide) (by decide) (hb hby at_129) ?_
  rintro _ T20 L20 X20 ⟨rfl, Nq20, e20⟩
  have N_20 := Fr.app N_19 Nq20
  show Go _ _ _ _ _ _ _ T20 (mkF m 132 #[.val (.int p0), .val (.int p1), .val (.int p2), .val (.ref b1), .val (.int cc), .val (.int (1 : Int32)), .unset] [(.int (own_f cc))])
  refine gIload X20 hx (hb hby at_132) rfl ?_
  refine gStatic X20 hx hZ (y := (⟨"com/example/deep_query/deepquery/xdm/XmlCharsIsXmlCharPinLaw", "ref", "(I)Z"⟩ : MethodName)) hown (by decide) (tw hw 18 rfl) (tw hw 19 rfl) (tw hw 20 rfl) (tw hw 21 rfl) (own_rm1 l Z a0 hw cc h17 n0 Z_17) e20 (by rw [hml]; rfl) (argsL := [(.int cc)]) (rest := [(.int (own_f cc))]) (W := 1) (lenOf own_pd0 rfl) rfl (Nat.le_of_eq rfl) (by decide) (by decide) (by decide) (by decide) (hb hby at_134) ?_
  rintro _ T21 L21 X21 ⟨rfl, Nq21, e21⟩
  have N_21 := Fr.app N_20 Nq21
  show Go _ _ _ _ _ _ _ T21 (mkF m 137 #[.val (.int p0), .val (.int p1), .val (.int p2), .val (.ref b1), .val (.int cc), .val (.int (1 : Int32)), .unset] [(.int (own_r cc)), (.int (own_f cc))])
  refine gIcmp X21 hx 144 (hb hby at_137) (by decide) (by decide) (fun q => absurd (own_same cc) (o_neT q)) (fun _ => ?_)
  show Go _ _ _ _ _ _ _ T21 (mkF m 140 #[.val (.int p0), .val (.int p1), .val (.int p2), .val (.ref b1), .val (.int cc), .val (.int (1 : Int32)), .unset] [])
  refine gIconst X21 hx (1 : Int32) (hb hby at_140) rfl ?_
  refine gGoto X21 hx 145 (hb hby at_141) (by decide) (by decide) ?_
  refine gIstore X21 hx #[.val (.int p0), .val (.int p1), .val (.int p2), .val (.ref b1), .val (.int cc), .val (.int (1 : Int32)), .val (.int (1 : Int32))] (hb hby at_145) rfl ?_
  refine gIload X21 hx (hb hby at_147) rfl ?_
  refine gIf X21 hx 161 (hb hby at_149) (by decide) (by decide) (fun q => absurd (o_eqT q) (by decide)) (fun _ => ?_)
  show Go _ _ _ _ _ _ _ T21 (mkF m 152 #[.val (.int p0), .val (.int p1), .val (.int p2), .val (.ref b1), .val (.int cc), .val (.int (1 : Int32)), .val (.int (1 : Int32))] [])
  refine gIload X21 hx (hb hby at_152) rfl ?_
  refine gIf X21 hx 161 (hb hby at_154) (by decide) (by decide) (fun q => absurd (o_eqT q) (by decide)) (fun _ => ?_)
  show Go _ _ _ _ _ _ _ T21 (mkF m 157 #[.val (.int p0), .val (.int p1), .val (.int p2), .val (.ref b1), .val (.int cc), .val (.int (1 : Int32)), .val (.int (1 : Int32))] [])
  refine gIconst X21 hx (1 : Int32) (hb hby at_157) rfl ?_
  refine gGoto X21 hx 162 (hb hby at_158) (by decide) (by decide) ?_
  subst e21
  exact gRetZ X21 hx hlk hret (by simp) (hb hby at_162) (z' := (1 : Int32)) rfl (by decide) (by decide) ⟨rfl, N_21⟩
set_option maxRecDepth 65536 in
set_option maxHeartbeats 40000000 in
theorem comes_1 {Post : Tables → Env → Array Value → State → Outcome → State → Prop} (hpost : ∀ tb e args s v u, (limb_1_1.after args s (.returned v) u = true ∧ limb_1_2.after args s (.returned v) u = true ∧ True) → FrameEnd s (.returned v) u (Jvm.fieldLocs frame_1_writes args s ++ Jvm.arrayLocs frame_1_arrays args s ++ Jvm.staticLocs frame_1_statics s) 16 128 → Post tb e args s (.returned v) u) :
    ArmFor flags0 classFile x code maxLocals ret World_1 tables_1 room_1 Calls_1 rest_1 Pre_1 Post := by
  intro l hfl _ _ p e ha hc hk s m args below hf hA hF happ hP
  obtain ⟨hcalls, hrest, hpre⟩ := hP
  obtain ⟨-, -, -, hnamed, -, -, -, hat⟩ := (Spec.applies_iff hf).mp happ
  obtain ⟨hg, hn⟩ := and_e (Cond.before_iff.mp (show (Jvm.Cond.and given_1 narrow_1).before args s = true from hpre))
  obtain ⟨h1, hr0⟩ := and_e hg
  obtain ⟨hv0, hr1⟩ := and_e hr0
  obtain ⟨hv1, hr2⟩ := and_e hr1
  have hv2 := hr2
  obtain ⟨w0, w1, w2, rfl⟩ : ∃ w0 w1 w2 : Value, args = #[w0, w1, w2] := by
    have hs : args.size = 3 := by simpa [Cond.value, given_1] using h1
    obtain ⟨L⟩ := args
    match L, hs with
    | [w0, w1, w2], _ => exact ⟨w0, w1, w2, rfl⟩
  have hw := fun d (hd : d ∈ tables_1) => atoms_spec (ws := Jvm.Cond.code x code maxLocals ret :: tables_1) hat d (List.mem_cons_of_mem _ hd)
  obtain ⟨i0, ei0⟩ := is_v hv0
  obtain rfl : w0 = (.int i0) := Option.some.inj ei0
  obtain ⟨i1, ei1⟩ := is_v hv1
  obtain rfl : w1 = (.int i1) := Option.some.inj ei1
  obtain ⟨i2, ei2⟩ := is_v hv2
  obtain rfl : w2 = (.int i2) := Option.some.inj ei2
  obtain ⟨n, o, h1, h2, h3, _, L, rfl, ⟨rfl, N⟩, hq⟩ := own_rm2 l s _ hw i0 i1 i2 s.heap s.heap.size (Nat.le_refl _) p e ha hc hk s m _ below hf ((Spec.applies_iff_loose hf).mp happ).1 ⟨rfl, State.Warmed39.refl s, rfl⟩ trivial
  refine ⟨n, _, h1, h2, h3, hpost _ _ _ _ _ _ ⟨Cond.after_iff.mpr rfl, Cond.after_iff.mpr (eq_i res_at (Term.int_eval (1)) rfl), trivial⟩ ⟨hq.1, hq.2.1, (hq.2.2.sift fun y hy => Or.inr (N y hy)).mono (by decide) (by decide)⟩⟩
theorem main_1_1 : Claimed_1_1 := comes_1 fun _ _ _ _ _ _ h hF => ⟨h.1, hF⟩
theorem main_1_2 : Claimed_1_2 := comes_1 fun _ _ _ _ _ _ h hF => ⟨h.2.1, hF⟩
end Jvm.Pilot.@@N@@
namespace Jvm.Pilot.@@N@@
open Jvm Jvm.ClassFile Sem Op Lib Jvm.Free Jvm.Stand Jvm.Pilot.@@N@@.Jvm.D
/-! MADE BY PROGRAM (witnessworld.py) out of the Statement's table words and the real class files: 9 classes; the members and pool entries that the words name. The judged class is class 1, her method 2. -/
namespace start1
open Jvm.ClassFile
def u (s : String) : CpInfo := .utf8 (stringToUtf16 s)
/-- a pool by its gaps: so many unusable entries, then the entry; so many at the end -/
def gap : Nat → List CpInfo → List CpInfo
  | 0, r => r
  | n + 1, r => .unusable :: gap n r
def poolList (es : List (Nat × CpInfo)) (last : Nat) : List CpInfo := es.foldr (fun e r => gap e.1 (e.2 :: r)) (gap last [])
def pool (es : List (Nat × CpInfo)) (last : Nat) : Array CpInfo := ⟨poolList es last⟩
def fileOf (pool : Array CpInfo) (this : Nat) (attrs : Array Attribute := #[]) (ms : Array MethodInfo := #[]) (fl : Nat := 33) (sup : Nat := 0) (ifs : Array Nat := #[]) (fds : Array FieldInfo := #[]) : ClassFile where
  minorVersion := 0
  majorVersion := 65
  constantPool := pool
  accessFlags := fl
  thisClass := this
  superClass := sup
  interfaces := ifs
  fields := fds
  methods := ms
  attributes := attrs
def plain (name : String) (sup : Option ClassId) : Class where
  name := name
  kind := .ordinary
  loader := none
  accessFlags := 33
  super := sup
  interfaces := #[]
  cf := none
  fields := #[]
  methods := #[]
  instanceTypes := #[]
  staticTypes := #[]
  resolved := #[]
  callSites := []
  init := .initialized
  statics := none
  mirror := none

def pool0 : Array CpInfo := pool [(5, u "<init>"), (0, u "()V"), (1, .class_ 10), (1, u "java/lang/Object")] 113

def k0m0 : Method := { name := "<init>", desc := "()V", sig := { parameters := [], returnType := none }, accessFlags := 1, code := none }
/-- java/lang/Object -/
def k0 : Class := { plain "java/lang/Object" none with
  accessFlags := 33
  interfaces := #[]
  cf := some (fileOf pool0 8 #[] #[{ accessFlags := 1, nameIndex := 5, descriptorIndex := 6, attributes := #[] }] 33 0 #[] #[])
  fields := #[]
  methods := #[k0m0]
  instanceTypes := #[]
  staticTypes := #[]
  resolved := Array.replicate 124 none
  statics := none }

def pool1 : Array CpInfo := pool [(2, .class_ 4), (1, u "java/lang/Object"), (0, u "<init>"), (0, u "()V"), (0, .integer 1114111), (0, .integer 55296), (0, .integer 57343), (0, .integer 65534), (0, .integer 65535), (0, .integer 55295), (0, .integer 57344), (0, .integer 65533), (0, .integer 65536), (0, .integer 1114112), (2, .integer 2147483648), (0, .integer 2147483647), (0, .methodref 22 23), (0, .class_ 24), (0, .nameAndType 25 26), (0, u "com/example/deep_query/deepquery/xdm/XmlChars"), (0, u "isXmlChar"), (0, u "(I)Z"), (0, .methodref 28 29), (0, .class_ 30), (0, .nameAndType 31 26), (0, u "com/example/deep_query/deepquery/xdm/XmlCharsIsXmlCharPinLaw"), (0, u "ref"), (3, u "law"), (0, u "(III)Z")] 4

def k1m0 : Method := { name := "<init>", desc := "()V", sig := { parameters := [], returnType := none }, accessFlags := 2, code := none }
def k1c1 : Code := { maxStack := 2, maxLocals := 1, code := method_2_code, exceptionTable := #[], attributes := #[] }
def k1m1 : Method := { name := "ref", desc := "(I)Z", sig := { parameters := [.int], returnType := some .boolean }, accessFlags := 10, code := some k1c1 }
def k1c2 : Code := { maxStack := 4, maxLocals := 7, code := code, exceptionTable := #[], attributes := #[] }
def k1m2 : Method := { name := "law", desc := "(III)Z", sig := { parameters := [.int, .int, .int], returnType := some .boolean }, accessFlags := 9, code := some k1c2 }
/-- com/example/deep_query/deepquery/xdm/XmlCharsIsXmlCharPinLaw -/
def k1 : Class := { plain "com/example/deep_query/deepquery/xdm/XmlCharsIsXmlCharPinLaw" (some 0) with
  accessFlags := 49
  interfaces := #[]
  cf := some (fileOf pool1 28 #[] #[{ accessFlags := 2, nameIndex := 5, descriptorIndex := 6, attributes := #[] }, { accessFlags := 10, nameIndex := 31, descriptorIndex := 26, attributes := #[] }, { accessFlags := 9, nameIndex := 35, descriptorIndex := 36, attributes := #[] }] 49 2 #[] #[])
  fields := #[]
  methods := #[k1m0, k1m1, k1m2]
  instanceTypes := #[]
  staticTypes := #[]
  resolved := Array.replicate 41 none
  statics := none }

def pool2 : Array CpInfo := pool [(2, .class_ 4), (1, u "java/lang/Object"), (0, u "<init>"), (0, u "()V"), (0, .integer 55295), (3, .integer 65533), (0, .integer 65536), (2, .class_ 17), (1, u "com/example/deep_query/deepquery/xdm/XmlChars"), (1, u "(I)Z"), (53, .integer 57344), (0, .integer 1114111), (9, u "isXmlChar")] 2

def k2m0 : Method := { name := "<init>", desc := "()V", sig := { parameters := [], returnType := none }, accessFlags := 2, code := none }
def k2c1 : Code := { maxStack := 2, maxLocals := 1, code := prog_226_method_11_code, exceptionTable := #[], attributes := #[] }
def k2m1 : Method := { name := "isXmlChar", desc := "(I)Z", sig := { parameters := [.int], returnType := some .boolean }, accessFlags := 9, code := some k2c1 }
/-- com/example/deep_query/deepquery/xdm/XmlChars -/
def k2 : Class := { plain "com/example/deep_query/deepquery/xdm/XmlChars" (some 0) with
  accessFlags := 33
  interfaces := #[]
  cf := some (fileOf pool2 15 #[] #[{ accessFlags := 2, nameIndex := 5, descriptorIndex := 6, attributes := #[] }, { accessFlags := 9, nameIndex := 84, descriptorIndex := 19, attributes := #[] }] 33 2 #[] #[])
  fields := #[]
  methods := #[k2m0, k2m1]
  instanceTypes := #[]
  staticTypes := #[]
  resolved := Array.replicate 87 none
  statics := none }

def pool3 : Array CpInfo := pool [(1, u "java/lang/Cloneable"), (0, .class_ 1), (0, u "java/lang/Object"), (0, .class_ 3)] 3

/-- java/lang/Cloneable -/
def k3 : Class := { plain "java/lang/Cloneable" (some 0) with
  accessFlags := 1537
  interfaces := #[]
  cf := some (fileOf pool3 2 #[] #[] 1537 4 #[] #[])
  fields := #[]
  methods := #[]
  instanceTypes := #[]
  staticTypes := #[]
  resolved := Array.replicate 8 none
  statics := none }

def pool4 : Array CpInfo := pool [(1, u "java/io/Serializable"), (0, .class_ 1), (0, u "java/lang/Object"), (0, .class_ 3)] 3

/-- java/io/Serializable -/
def k4 : Class := { plain "java/io/Serializable" (some 0) with
  accessFlags := 1537
  interfaces := #[]
  cf := some (fileOf pool4 2 #[] #[] 1537 4 #[] #[])
  fields := #[]
  methods := #[]
  instanceTypes := #[]
  staticTypes := #[]
  resolved := Array.replicate 8 none
  statics := none }

/-- the primitive byte -/
def k5 : Class := { plain "byte" none with kind := .primitive 'B', accessFlags := 0x411 }
/-- [B -/
def k6 : Class := { plain "[B" (some 0) with kind := .array 5 .byte, interfaces := #[3, 4], accessFlags := 1041 }

/-- the primitive int -/
def k7 : Class := { plain "int" none with kind := .primitive 'I', accessFlags := 0x411 }
/-- [I -/
def k8 : Class := { plain "[I" (some 0) with kind := .array 7 .int, interfaces := #[3, 4], accessFlags := 1041 }

def heap : Heap := #[]
def classes : Array Class := #[k0, k1, k2, k3, k4, k5, k6, k7, k8]
def interned : List (Array UInt16 × Addr) := []
def slotsUsed : Nat := 0
def theMethod : MethodId := ⟨1, 2⟩
def args0 : Array Value := #[.int 5, .int 1, .int 2]
def aboutOver (below : List Frame) : State where
  vm := { classes := classes, interned := interned.toArray }
  heap := heap
  slotsUsed := slotsUsed
  threads := #[{ frames := .invoking theMethod args0 :: below }]
def below0 : List Frame := [.native { method := ⟨0, 0⟩, args := #[] }]
def about1 : State := aboutOver below0
def p0 : Program := .bare "" "" ""
def e0 : Env := launch0.env 0 0 0
theorem w_frames : about1.frames = Frame.invoking theMethod args0 :: below0 := rfl
set_option maxRecDepth 65536 in
theorem w_args : argsFit about1.vm theMethod args0 = true := by decide +kernel
set_option maxRecDepth 65536 in
theorem w_heap : heapFits about1 = true := by decide +kernel
set_option maxRecDepth 65536 in
theorem w_runnable : about1.curStatus? = some .runnable := by decide +kernel
set_option maxRecDepth 65536 in
theorem w_alone : about1.alone = true := by decide +kernel
set_option maxRecDepth 65536 in
theorem w_named : about1.methodNamed? x = some theMethod := by decide +kernel
set_option maxRecDepth 65536 in
theorem w_hears : about1.hears theMethod below0 = true := by decide +kernel
set_option maxRecDepth 65536 in
theorem w_ripe : about1.ripe theMethod args0 below0 = true := by decide +kernel
theorem w_running : about1.status = .running := rfl
set_option maxRecDepth 65536 in
theorem w_room : about1.hasRoom e0.platform room_1 = true :=
  launch0.hasRoom_least _ room_1 (by decide +kernel) (by decide +kernel) (by decide +kernel) (by decide +kernel) (by decide +kernel) (by decide +kernel)
theorem allAtoms_all (ts : List Jvm.Cond) (a : Array Jvm.Value) (st : Jvm.State) : (allAtoms ts).before a st = ts.all (fun c => c.before a st) := by
  induction ts with
  | nil => rfl
  | cons c t ih =>
    show (Jvm.Cond.and c (allAtoms t)).before a st = _
    rw [Jvm.Cond.before_and, ih, List.all_cons]
def words1 : List Jvm.Cond := Jvm.Cond.code x code maxLocals ret :: tables_1
/-- a 'code' word, met by the world's own term for the bytes: nothing is compared byte by byte -/
theorem code_word {y : MethodName} {bytes : ByteArray} {mx : Nat} {rt : Option FieldType} {a : Array Value} {s : State} {m : MethodId} {meth : Method} {c : Code} (h1 : s.methodNamed? y = some m) (h2 : s.vm.method? m = some meth) (h3 : meth.code = some c) (h4 : c.code = bytes)
    (h5 : (c.maxLocals == mx && c.exceptionTable.isEmpty && decide (c.maxStack ≤ mostOperands) && decide (meth.sig.returnType = rt) && !meth.locks && decide (parseMethodDescriptor y.desc = some meth.sig)) = true) : (Jvm.Cond.code y bytes mx rt).before a s = true := by
  simp only [Bool.and_eq_true, beq_iff_eq, Bool.not_eq_true', decide_eq_true_eq] at h5
  obtain ⟨⟨⟨⟨⟨g1, g2⟩, g3⟩, g4⟩, g5⟩, g6⟩ := h5
  simp [Cond.before, Cond.holds, Cond.value, h1, h2, h3, h4, g1, g2, g3, g4, g5, g6]
def isCode : Jvm.Cond → Bool
  | .code _ _ _ _ => true
  | _ => false
theorem all_split {L : List Jvm.Cond} {P : Jvm.Cond → Bool} (h1 : L.all (fun c => isCode c || P c) = true) (h2 : ∀ c ∈ L.filter isCode, P c = true) : L.all P = true := by
  refine List.all_eq_true.mpr fun c hc => ?_
  have h := List.all_eq_true.mp h1 c hc
  rcases Bool.eq_false_or_eq_true (isCode c) with hi | hi
  · exact h2 c (List.mem_filter.mpr ⟨hc, hi⟩)
  · simpa [hi] using h
set_option maxRecDepth 65536 in
theorem w_c0 : (Jvm.Cond.code x code maxLocals ret).before args0 about1 = true := code_word (m := ⟨1, 2⟩) (meth := k1m2) (c := k1c2) (by decide +kernel) rfl rfl rfl (by decide +kernel)
set_option maxRecDepth 65536 in
theorem w_c1 : (Jvm.Cond.code ({ cls := "com/example/deep_query/deepquery/xdm/XmlChars", name := "isXmlChar", desc := "(I)Z" } : Jvm.MethodName) prog_226_method_11_code (1 : Nat) (Option.some Jvm.ClassFile.FieldType.boolean)).before args0 about1 = true := code_word (m := ⟨2, 1⟩) (meth := k2m1) (c := k2c1) (by decide +kernel) rfl rfl rfl (by decide +kernel)
set_option maxRecDepth 65536 in
theorem w_c2 : (Jvm.Cond.code ({ cls := "com/example/deep_query/deepquery/xdm/XmlCharsIsXmlCharPinLaw", name := "ref", desc := "(I)Z" } : Jvm.MethodName) method_2_code (1 : Nat) (Option.some Jvm.ClassFile.FieldType.boolean)).before args0 about1 = true := code_word (m := ⟨1, 1⟩) (meth := k1m1) (c := k1c1) (by decide +kernel) rfl rfl rfl (by decide +kernel)
def codes1 : List Jvm.Cond := [Jvm.Cond.code x code maxLocals ret, Jvm.Cond.code ({ cls := "com/example/deep_query/deepquery/xdm/XmlChars", name := "isXmlChar", desc := "(I)Z" } : Jvm.MethodName) prog_226_method_11_code (1 : Nat) (Option.some Jvm.ClassFile.FieldType.boolean), Jvm.Cond.code ({ cls := "com/example/deep_query/deepquery/xdm/XmlCharsIsXmlCharPinLaw", name := "ref", desc := "(I)Z" } : Jvm.MethodName) method_2_code (1 : Nat) (Option.some Jvm.ClassFile.FieldType.boolean)]
set_option maxRecDepth 65536 in
theorem codes_eq : words1.filter isCode = codes1 := rfl
theorem w_codes : ∀ c ∈ words1.filter isCode, c.before args0 about1 = true := by
  rw [codes_eq]
  intro c hc
  simp only [codes1, List.mem_cons, List.not_mem_nil, or_false] at hc
  rcases hc with rfl | rfl | rfl
  · exact w_c0
  · exact w_c1
  · exact w_c2
set_option maxRecDepth 65536 in
theorem w_t1 : (words1.take 24).all (fun c => isCode c || c.before args0 about1) = true := by decide +kernel
set_option maxRecDepth 65536 in
theorem w_t2 : (words1.drop 24).all (fun c => isCode c || c.before args0 about1) = true := by decide +kernel
theorem w_tables : (allAtoms (Jvm.Cond.code x code maxLocals ret :: tables_1)).before args0 about1 = true := by
  rw [allAtoms_all]
  show words1.all (fun c => c.before args0 about1) = true
  refine all_split ?_ w_codes
  rw [← List.take_append_drop 24 words1, List.all_append, w_t1, w_t2]
  rfl
set_option maxRecDepth 65536 in
theorem w_case : (Jvm.Cond.and given_1 narrow_1).before args0 about1 = true := by decide +kernel
theorem w_applies : (headSpec (Jvm.Cond.code x code maxLocals ret :: tables_1) room_1).applies x e0.platform about1 = true :=
  (Spec.applies_iff w_frames).mpr ⟨w_running, w_runnable, w_alone, w_named, w_hears, w_ripe, w_room, w_tables⟩
theorem atStart : AtStart classFile x code maxLocals ret World_1 tables_1 room_1 Calls_1 rest_1 Pre_1 launch0 p0 e0 about1 theMethod args0 below0 :=
  ⟨lists_1, trivial, launch0.admits_env _ _ _, launch0.least_env, fairChoices_fair.cas, fairChoices_fair.clock, w_frames, w_args, w_heap, w_applies, trivial, trivial, w_case⟩
end start1
theorem witness_1 : WitnessClaimed_1 := ⟨start1.p0, start1.e0, start1.about1, start1.theMethod, start1.args0, start1.below0, start1.atStart⟩
end Jvm.Pilot.@@N@@
