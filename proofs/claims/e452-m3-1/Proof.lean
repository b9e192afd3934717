import JvmDerived
import JvmDerived.Pilot.@@N@@Statement
import JvmDerived.Pilot.@@N@@Code
set_option linter.unusedVariables false
set_option linter.unusedSimpArgs false
namespace Jvm.Pilot.@@N@@
open Jvm Jvm.ClassFile Sem Op Lib Jvm.Free Jvm.Stand Jvm.LawKit Jvm.RoadKit Bundle Jvm.Pilot.@@N@@.Jvm.D
section OwnKit
variable {p : Program} {l : Launch} {e : Env} {R : Room} {s : State} {m : MethodId} {args : Array Value} {below : List Frame} {meth : Method} {c : Code} {T T' : State} {locs : List Loc} {cells slots : Nat} {Z : State} {a0 : Array Value} {h : Heap} {CC SS : Nat} {QQ : Option Value → Heap → List Loc → Prop} {pc : Nat} {Ls : Array Slot} {rest : List Value}
/-- the run from the frame g on comes back, with what QQ says -/
def Go (p : Program) (e : Env) (below : List Frame) (s : State) (CC SS : Nat) (QQ : Option Value → Heap → List Loc → Prop) (T : State) (g : JFrame) : Prop :=
  ∃ s₂ o, Steps p.tables e below (T.setTop g) s₂ ∧ s₂.status = .running ∧ Ended s₂ below o ∧ ∃ v L, o = .returned v ∧ QQ v s₂.heap L ∧ FrameEnd s o s₂ L CC SS
/-- a callee's contract -/
def Met (l : Launch) (Z : State) (y : MethodName) (bytes : ByteArray) (maxL : Nat) (ret : Option FieldType) (ws : List Jvm.Cond) (rm : Room) (as' : Array Value) (h0 : Heap) (QQ : Option Value → Heap → List Loc → Prop) : Prop :=
  MetFree l y (head1 (Jvm.Cond.code y bytes maxL ret :: ws) rm) (fun a U => a = as' ∧ Z.Warmed39 U.vm ∧ U.heap = h0) (fun _ _ _ _ _ => True) (fun _ U o U' => ∃ v L, o = .returned v ∧ QQ v U'.heap L ∧ FrameEnd U o U' L rm.cells rm.slots)
theorem met_of {y : MethodName} {bytes : ByteArray} {maxL : Nat} {ret : Option FieldType} {ws : List Jvm.Cond} {rm : Room} {as' : Array Value} {h0 : Heap} (hx : plainFor y = true) (hef : ∀ m, entryFrame m as' maxL = mkF m 0 Ls [])
    (body : ∀ (p : Program) (e : Env) (s : State) (m : MethodId) (below : List Frame) (meth : Method) (c : Code) (s₁ : State), p.tables.exec = Jvm.exec → c.code = bytes → c.maxLocals = maxL → s.vm.findClass y.cls = some m.cls → meth.name = y.name → meth.sig.returnType = ret → meth.locks = false → Z.Warmed39 s.vm →
      Stand p l e rm s m as' below meth c s₁ [] 0 0 → s₁.heap = h0 → Go p e below s rm.cells rm.slots QQ s₁ (mkF m 0 Ls [])) : Met l Z y bytes maxL ret ws rm as' h0 QQ := by
  refine MetFree.of_bodySF hx hisR ?_
  intro p e s m args below meth c s₁ Bd hml0 hP hK
  obtain ⟨rfl, hZ, hh⟩ := hP
  have e0 : s₁.heap = h0 := by rw [← hh, Bd.state]; rfl
  have k := body p e s m below meth c s₁ Bd.exec Bd.bytes hml0 (findClass_of_methodNamed Bd.named) (name_of_methodNamed Bd.named Bd.method).1 Bd.returns Bd.notSynchronized hZ (Stand.of_body Bd) e0
  rw [hef m]
  exact k
theorem Go.st {g g' : JFrame} (st : ∀ t, Steps p.tables e below (T'.setTop g') t → Steps p.tables e below (T.setTop g) t) (k : Go p e below s CC SS QQ T' g') : Go p e below s CC SS QQ T g := by
  obtain ⟨s₂, o, h1, h2⟩ := k
  exact ⟨s₂, o, st _ h1, h2⟩
theorem Go.tr {g g' : JFrame} (st : Steps p.tables e below (T.setTop g) (T'.setTop g')) (k : Go p e below s CC SS QQ T' g') : Go p e below s CC SS QQ T g := by
  obtain ⟨s₂, o, h1, h2⟩ := k
  exact ⟨s₂, o, st.trans h1, h2⟩
-- the returns
theorem gRetZ (X : Stand p l e R s m args below meth c T locs cells slots) (hx : p.tables.exec = Jvm.exec) (hlk : meth.locks = false) {z z' : Int32} {t : FieldType} (hret : meth.sig.returnType = some t) (ht : t = .boolean ∨ t = .byte ∨ t = .char ∨ t = .short) (hd : decode c.code pc = .ok (.ireturn, 1)) (hz : nar t z = z')
    (hc : cells ≤ CC) (hs : slots ≤ SS) (hQ : QQ (some (.int z')) T.heap locs) : Go p e below s CC SS QQ T (mkF m pc Ls (.int z :: rest)) := by
  obtain ⟨fs, hr, hrun, hended, hW, hsame⟩ := X.leave (v := some (.int z')) (fun h => by rw [hret] at h; cases h) hlk
  exact ⟨_, _, retN X hx hret ht hd (by rw [hz]; exact hr), hrun, hended, _, _, rfl, hQ, ⟨_, rfl⟩, hW, hsame.mono hc hs⟩
theorem gRetI (X : Stand p l e R s m args below meth c T locs cells slots) (hx : p.tables.exec = Jvm.exec) (hlk : meth.locks = false) {z : Int32} (hret : meth.sig.returnType = some .int) (hd : decode c.code pc = .ok (.ireturn, 1))
    (hc : cells ≤ CC) (hs : slots ≤ SS) (hQ : QQ (some (.int z)) T.heap locs) : Go p e below s CC SS QQ T (mkF m pc Ls (.int z :: rest)) := by
  obtain ⟨fs, hr, hrun, hended, hW, hsame⟩ := X.leave (v := some (.int z)) (fun h => by rw [hret] at h; cases h) hlk
  exact ⟨_, _, retOut X hx hret rfl (Or.inl ⟨rfl, Or.inl rfl, z, rfl⟩) hd hr, hrun, hended, _, _, rfl, hQ, ⟨_, rfl⟩, hW, hsame.mono hc hs⟩
theorem gRetA (X : Stand p l e R s m args below meth c T locs cells slots) (hx : p.tables.exec = Jvm.exec) (hlk : meth.locks = false) {w : Value} {t : FieldType} (hret : meth.sig.returnType = some t) (ht : t.isReference = true) (hn : narrow t w = w) (hw : w.isRef = true) (hd : decode c.code pc = .ok (.areturn, 1))
    (hc : cells ≤ CC) (hs : slots ≤ SS) (hQ : QQ (some w) T.heap locs) : Go p e below s CC SS QQ T (mkF m pc Ls (w :: rest)) := by
  obtain ⟨fs, hr, hrun, hended, hW, hsame⟩ := X.leave (v := some w) (fun h => by rw [hret] at h; cases h) hlk
  exact ⟨_, _, retOut X hx hret hn (Or.inr (Or.inr (Or.inr (Or.inr ⟨rfl, ht, hw⟩)))) hd hr, hrun, hended, _, _, rfl, hQ, ⟨_, rfl⟩, hW, hsame.mono hc hs⟩
theorem gRetV (X : Stand p l e R s m args below meth c T locs cells slots) (hx : p.tables.exec = Jvm.exec) (hlk : meth.locks = false) (hret : meth.sig.returnType = none) (hd : decode c.code pc = .ok (.return_, 1))
    (hc : cells ≤ CC) (hs : slots ≤ SS) (hQ : QQ none T.heap locs) : Go p e below s CC SS QQ T (mkF m pc Ls []) := by
  obtain ⟨fs, hr, hrun, hended, hW, hsame⟩ := X.leave (v := none) (fun _ => rfl) hlk
  exact ⟨_, _, X.returnOut hx hret hd hr, hrun, hended, _, _, rfl, hQ, ⟨_, rfl⟩, hW, hsame.mono hc hs⟩
-- the plain steps
theorem gAloadN (X : Stand p l e R s m args below meth c T locs cells slots) (hx : p.tables.exec = Jvm.exec) {k : Fin 4} {v : Value} (hd : decode c.code pc = .ok (.aload_n k, 1)) (hl : Ls[k.val]? = some (.val v)) (hv : v.isRef = true)
    (kk : Go p e below s CC SS QQ T (mkF m (pc + 1) Ls (v :: rest))) : Go p e below s CC SS QQ T (mkF m pc Ls rest) := Go.st (fun _ => XS.aloadN X.here hx rfl hd hl hv) kk
theorem gAload (X : Stand p l e R s m args below meth c T locs cells slots) (hx : p.tables.exec = Jvm.exec) {k : Nat} {v : Value} (hd : decode c.code pc = .ok (.aload k, 2)) (hl : Ls[k]? = some (.val v)) (hv : v.isRef = true)
    (kk : Go p e below s CC SS QQ T (mkF m (pc + 2) Ls (v :: rest))) : Go p e below s CC SS QQ T (mkF m pc Ls rest) := Go.st (fun _ => XS.aload X.here hx rfl hd hl hv) kk
theorem gIloadN (X : Stand p l e R s m args below meth c T locs cells slots) (hx : p.tables.exec = Jvm.exec) {k : Fin 4} {v : Int32} (hd : decode c.code pc = .ok (.iload_n k, 1)) (hl : Ls[k.val]? = some (.val (.int v)))
    (kk : Go p e below s CC SS QQ T (mkF m (pc + 1) Ls (.int v :: rest))) : Go p e below s CC SS QQ T (mkF m pc Ls rest) := Go.st (fun _ => XS.iloadN X.here hx rfl hd hl) kk
theorem gIload (X : Stand p l e R s m args below meth c T locs cells slots) (hx : p.tables.exec = Jvm.exec) {k : Nat} {v : Int32} (hd : decode c.code pc = .ok (.iload k, 2)) (hl : Ls[k]? = some (.val (.int v)))
    (kk : Go p e below s CC SS QQ T (mkF m (pc + 2) Ls (.int v :: rest))) : Go p e below s CC SS QQ T (mkF m pc Ls rest) := Go.st (fun _ => XS.iload X.here hx rfl hd hl) kk
theorem gIconst (X : Stand p l e R s m args below meth c T locs cells slots) (hx : p.tables.exec = Jvm.exec) {i : Int} (v : Int32) (hd : decode c.code pc = .ok (.iconst i, 1)) (hv : Int32.ofInt i = v)
    (kk : Go p e below s CC SS QQ T (mkF m (pc + 1) Ls (.int v :: rest))) : Go p e below s CC SS QQ T (mkF m pc Ls rest) := by subst hv; exact Go.st (fun _ => XS.iconst X.here hx rfl hd) kk
theorem gBipush (X : Stand p l e R s m args below meth c T locs cells slots) (hx : p.tables.exec = Jvm.exec) {i : Int} (v : Int32) (hd : decode c.code pc = .ok (.bipush i, 2)) (hv : (Int8.ofInt i).toInt32 = v)
    (kk : Go p e below s CC SS QQ T (mkF m (pc + 2) Ls (.int v :: rest))) : Go p e below s CC SS QQ T (mkF m pc Ls rest) := by subst hv; exact Go.st (fun _ => XS.bipush X.here hx rfl hd) kk
theorem gSipush (X : Stand p l e R s m args below meth c T locs cells slots) (hx : p.tables.exec = Jvm.exec) {i : Int} (v : Int32) (hd : decode c.code pc = .ok (.sipush i, 3)) (hv : (Int16.ofInt i).toInt32 = v)
    (kk : Go p e below s CC SS QQ T (mkF m (pc + 3) Ls (.int v :: rest))) : Go p e below s CC SS QQ T (mkF m pc Ls rest) := by subst hv; exact Go.st (fun _ => XS.sipush X.here hx rfl hd) kk
theorem gNull (X : Stand p l e R s m args below meth c T locs cells slots) (hx : p.tables.exec = Jvm.exec) (hd : decode c.code pc = .ok (.aconst_null, 1))
    (kk : Go p e below s CC SS QQ T (mkF m (pc + 1) Ls (.null :: rest))) : Go p e below s CC SS QQ T (mkF m pc Ls rest) := Go.st (fun _ => XS.aconstNull X.here hx rfl hd) kk
theorem gLdc (X : Stand p l e R s m args below meth c T locs cells slots) (hx : p.tables.exec = Jvm.exec) (hZ : Z.Warmed39 s.vm) {own : String} {index : Nat} (v : Int32) (hown : s.vm.findClass own = some m.cls) (w : (Cond.constant own index v).before a0 Z = true) (hd : decode c.code pc = .ok (.ldc index, 2))
    (kk : Go p e below s CC SS QQ T (mkF m (pc + 2) Ls (.int v :: rest))) : Go p e below s CC SS QQ T (mkF m pc Ls rest) := Go.st (X.ldcInt hx hown (mvT hZ w) rfl hd) kk
theorem gIadd (X : Stand p l e R s m args below meth c T locs cells slots) (hx : p.tables.exec = Jvm.exec) {x y : Int32} (hd : decode c.code pc = .ok (.iadd, 1))
    (kk : Go p e below s CC SS QQ T (mkF m (pc + 1) Ls (.int (x + y) :: rest))) : Go p e below s CC SS QQ T (mkF m pc Ls (.int y :: .int x :: rest)) := Go.st (fun _ => XS.iadd X.here hx rfl hd rfl) kk
theorem gIsub (X : Stand p l e R s m args below meth c T locs cells slots) (hx : p.tables.exec = Jvm.exec) {x y : Int32} (hd : decode c.code pc = .ok (.isub, 1))
    (kk : Go p e below s CC SS QQ T (mkF m (pc + 1) Ls (.int (x - y) :: rest))) : Go p e below s CC SS QQ T (mkF m pc Ls (.int y :: .int x :: rest)) := Go.st (fun _ => XS.isub X.here hx rfl hd rfl) kk
theorem gIand (X : Stand p l e R s m args below meth c T locs cells slots) (hx : p.tables.exec = Jvm.exec) {x y : Int32} (hd : decode c.code pc = .ok (.iand, 1))
    (kk : Go p e below s CC SS QQ T (mkF m (pc + 1) Ls (.int (x &&& y) :: rest))) : Go p e below s CC SS QQ T (mkF m pc Ls (.int y :: .int x :: rest)) := Go.st (fun _ => XS.iand X.here hx rfl hd rfl) kk
theorem gImul (X : Stand p l e R s m args below meth c T locs cells slots) (hx : p.tables.exec = Jvm.exec) {x y : Int32} (hd : decode c.code pc = .ok (.imul, 1))
    (kk : Go p e below s CC SS QQ T (mkF m (pc + 1) Ls (.int (x * y) :: rest))) : Go p e below s CC SS QQ T (mkF m pc Ls (.int y :: .int x :: rest)) := Go.st (fun _ => XS.imul X.here hx rfl hd rfl) kk
theorem gIxor (X : Stand p l e R s m args below meth c T locs cells slots) (hx : p.tables.exec = Jvm.exec) {x y : Int32} (hd : decode c.code pc = .ok (.ixor, 1))
    (kk : Go p e below s CC SS QQ T (mkF m (pc + 1) Ls (.int (x ^^^ y) :: rest))) : Go p e below s CC SS QQ T (mkF m pc Ls (.int y :: .int x :: rest)) := Go.st (fun _ => XT.ixor X.here hx rfl hd rfl) kk
theorem gIshl (X : Stand p l e R s m args below meth c T locs cells slots) (hx : p.tables.exec = Jvm.exec) {x y : Int32} (hd : decode c.code pc = .ok (.ishl, 1))
    (kk : Go p e below s CC SS QQ T (mkF m (pc + 1) Ls (.int (x <<< (y &&& 31)) :: rest))) : Go p e below s CC SS QQ T (mkF m pc Ls (.int y :: .int x :: rest)) := Go.st (fun _ => XT.ishl X.here hx rfl hd rfl) kk
theorem gIshr (X : Stand p l e R s m args below meth c T locs cells slots) (hx : p.tables.exec = Jvm.exec) {x y : Int32} (hd : decode c.code pc = .ok (.ishr, 1))
    (kk : Go p e below s CC SS QQ T (mkF m (pc + 1) Ls (.int (x >>> (y &&& 31)) :: rest))) : Go p e below s CC SS QQ T (mkF m pc Ls (.int y :: .int x :: rest)) := Go.st (fun _ => XT.ishr X.here hx rfl hd rfl) kk
theorem gIushr (X : Stand p l e R s m args below meth c T locs cells slots) (hx : p.tables.exec = Jvm.exec) {x y : Int32} (hd : decode c.code pc = .ok (.iushr, 1))
    (kk : Go p e below s CC SS QQ T (mkF m (pc + 1) Ls (.int (XT.ushr x y) :: rest))) : Go p e below s CC SS QQ T (mkF m pc Ls (.int y :: .int x :: rest)) := Go.st (fun _ => XT.iushr X.here hx rfl hd rfl) kk
theorem gIrem (X : Stand p l e R s m args below meth c T locs cells slots) (hx : p.tables.exec = Jvm.exec) {x y : Int32} (hd : decode c.code pc = .ok (.irem, 1)) (hy : y ≠ 0)
    (kk : Go p e below s CC SS QQ T (mkF m (pc + 1) Ls (.int (x % y) :: rest))) : Go p e below s CC SS QQ T (mkF m pc Ls (.int y :: .int x :: rest)) := Go.st (fun _ => iremM X hx rfl hd rfl hy) kk
theorem gI2b (X : Stand p l e R s m args below meth c T locs cells slots) (hx : p.tables.exec = Jvm.exec) {x : Int32} (hd : decode c.code pc = .ok (.i2b, 1))
    (kk : Go p e below s CC SS QQ T (mkF m (pc + 1) Ls (.int x.toInt8.toInt32 :: rest))) : Go p e below s CC SS QQ T (mkF m pc Ls (.int x :: rest)) := Go.st (fun _ => XT.i2b X.here hx rfl hd rfl) kk
theorem gI2c (X : Stand p l e R s m args below meth c T locs cells slots) (hx : p.tables.exec = Jvm.exec) {x : Int32} (hd : decode c.code pc = .ok (.i2c, 1))
    (kk : Go p e below s CC SS QQ T (mkF m (pc + 1) Ls (.int x.toUInt32.toUInt16.toUInt32.toInt32 :: rest))) : Go p e below s CC SS QQ T (mkF m pc Ls (.int x :: rest)) := Go.st (fun _ => XT.i2c X.here hx rfl hd rfl) kk
theorem gDup (X : Stand p l e R s m args below meth c T locs cells slots) (hx : p.tables.exec = Jvm.exec) {x : Value} (hd : decode c.code pc = .ok (.dup, 1)) (hc : x.category = 1)
    (kk : Go p e below s CC SS QQ T (mkF m (pc + 1) Ls (x :: x :: rest))) : Go p e below s CC SS QQ T (mkF m pc Ls (x :: rest)) := Go.st (fun _ => XS.dup X.here hx rfl hd rfl hc) kk
theorem gPop (X : Stand p l e R s m args below meth c T locs cells slots) (hx : p.tables.exec = Jvm.exec) {x : Value} (hd : decode c.code pc = .ok (.pop, 1)) (hc : x.category = 1)
    (kk : Go p e below s CC SS QQ T (mkF m (pc + 1) Ls rest)) : Go p e below s CC SS QQ T (mkF m pc Ls (x :: rest)) := Go.st (fun _ => XT.pop X.here hx rfl hd rfl hc) kk
theorem gIstoreN (X : Stand p l e R s m args below meth c T locs cells slots) (hx : p.tables.exec = Jvm.exec) {k : Fin 4} {x : Int32} (l' : Array Slot) (hd : decode c.code pc = .ok (.istore_n k, 1)) (hl : storeLocals Ls k.val (.int x) = some l')
    (kk : Go p e below s CC SS QQ T (mkF m (pc + 1) l' rest)) : Go p e below s CC SS QQ T (mkF m pc Ls (.int x :: rest)) := Go.st (fun _ => XS.istoreN X.here hx rfl hd rfl hl) kk
theorem gIstore (X : Stand p l e R s m args below meth c T locs cells slots) (hx : p.tables.exec = Jvm.exec) {k : Nat} {x : Int32} (l' : Array Slot) (hd : decode c.code pc = .ok (.istore k, 2)) (hl : storeLocals Ls k (.int x) = some l')
    (kk : Go p e below s CC SS QQ T (mkF m (pc + 2) l' rest)) : Go p e below s CC SS QQ T (mkF m pc Ls (.int x :: rest)) := Go.st (fun _ => XS.istore X.here hx rfl hd rfl hl) kk
theorem gAstoreN (X : Stand p l e R s m args below meth c T locs cells slots) (hx : p.tables.exec = Jvm.exec) {k : Fin 4} {x : Value} (l' : Array Slot) (hd : decode c.code pc = .ok (.astore_n k, 1)) (hv : x.isRef = true) (hl : storeLocals Ls k.val x = some l')
    (kk : Go p e below s CC SS QQ T (mkF m (pc + 1) l' rest)) : Go p e below s CC SS QQ T (mkF m pc Ls (x :: rest)) := Go.st (fun _ => XS.astoreN X.here hx rfl hd rfl hv hl) kk
theorem gAstore (X : Stand p l e R s m args below meth c T locs cells slots) (hx : p.tables.exec = Jvm.exec) {k : Nat} {x : Value} (l' : Array Slot) (hd : decode c.code pc = .ok (.astore k, 2)) (hv : x.isRef = true) (hl : storeLocals Ls k x = some l')
    (kk : Go p e below s CC SS QQ T (mkF m (pc + 2) l' rest)) : Go p e below s CC SS QQ T (mkF m pc Ls (x :: rest)) := Go.st (fun _ => XS.astore X.here hx rfl hd rfl hv hl) kk
theorem gIinc (X : Stand p l e R s m args below meth c T locs cells slots) (hx : p.tables.exec = Jvm.exec) {k : Nat} {cst : Int} {x : Int32} (v : Int32) (l' : Array Slot) (hd : decode c.code pc = .ok (.iinc k cst, 3)) (hv : Int32.ofInt cst = v) (hl : Ls[k]? = some (.val (.int x))) (hl' : storeLocals Ls k (.int (x + v)) = some l')
    (kk : Go p e below s CC SS QQ T (mkF m (pc + 3) l' rest)) : Go p e below s CC SS QQ T (mkF m pc Ls rest) := by subst hv; exact Go.st (fun _ => XS.iinc X.here hx rfl hd hl hl') kk
theorem gGoto (X : Stand p l e R s m args below meth c T locs cells slots) (hx : p.tables.exec = Jvm.exec) {o : Int} (pc' : Nat) (hd : decode c.code pc = .ok (.goto o, 3)) (ho : 0 ≤ (pc : Int) + o) (hp : ((pc : Int) + o).toNat = pc')
    (kk : Go p e below s CC SS QQ T (mkF m pc' Ls rest)) : Go p e below s CC SS QQ T (mkF m pc Ls rest) := Go.st (fun _ => XS.goto X.here hx rfl (pc0 := pc) rfl hd ho hp) kk
-- the branches: both roads
theorem gIcmp (X : Stand p l e R s m args below meth c T locs cells slots) (hx : p.tables.exec = Jvm.exec) {cd : ClassFile.Cond} {x y : Int32} {o : Int} (pc' : Nat) (hd : decode c.code pc = .ok (.if_icmp cd o, 3)) (ho : 0 ≤ (pc : Int) + o) (hp : ((pc : Int) + o).toNat = pc')
    (kt : if_icmp.holds cd x y = true → Go p e below s CC SS QQ T (mkF m pc' Ls rest)) (kf : if_icmp.holds cd x y = false → Go p e below s CC SS QQ T (mkF m (pc + 3) Ls rest)) : Go p e below s CC SS QQ T (mkF m pc Ls (.int y :: .int x :: rest)) := by
  cases hq : if_icmp.holds cd x y
  · exact Go.st (fun _ => XS.icmpNo X.here hx rfl hd rfl hq) (kf hq)
  · exact Go.st (fun _ => XS.icmpYes X.here hx rfl (pc0 := pc) rfl hd rfl hq ho hp) (kt hq)
theorem gIf (X : Stand p l e R s m args below meth c T locs cells slots) (hx : p.tables.exec = Jvm.exec) {cd : ClassFile.Cond} {x : Int32} {o : Int} (pc' : Nat) (hd : decode c.code pc = .ok (.ifCond cd o, 3)) (ho : 0 ≤ (pc : Int) + o) (hp : ((pc : Int) + o).toNat = pc')
    (kt : if_icmp.holds cd x 0 = true → Go p e below s CC SS QQ T (mkF m pc' Ls rest)) (kf : if_icmp.holds cd x 0 = false → Go p e below s CC SS QQ T (mkF m (pc + 3) Ls rest)) : Go p e below s CC SS QQ T (mkF m pc Ls (.int x :: rest)) := by
  cases hq : if_icmp.holds cd x 0
  · exact Go.st (fun _ => XS.ifNo X.here hx rfl hd rfl ((if0 _ _).trans hq)) (kf hq)
  · exact Go.st (fun _ => XS.ifYes X.here hx rfl (pc0 := pc) rfl hd rfl ((if0 _ _).trans hq) ho hp) (kt hq)
theorem o_eqT {x y : Int32} (h : if_icmp.holds .eq x y = true) : x = y := Decidable.byContradiction fun q => by rw [(feq q).1] at h; cases h
theorem o_eqF {x y : Int32} (h : if_icmp.holds .eq x y = false) : ¬ x = y := fun q => by rw [(teq q).1] at h; cases h
theorem o_neT {x y : Int32} (h : if_icmp.holds .ne x y = true) : ¬ x = y := fun q => by rw [(teq q).2] at h; cases h
theorem o_neF {x y : Int32} (h : if_icmp.holds .ne x y = false) : x = y := Decidable.byContradiction fun q => by rw [(feq q).2] at h; cases h
theorem o_ltT {x y : Int32} (h : if_icmp.holds .lt x y = true) : x < y := Decidable.byContradiction fun q => by rw [(flt q).1] at h; cases h
theorem o_ltF {x y : Int32} (h : if_icmp.holds .lt x y = false) : ¬ x < y := fun q => by rw [(tlt q).1] at h; cases h
theorem o_geT {x y : Int32} (h : if_icmp.holds .ge x y = true) : ¬ x < y := fun q => by rw [(tlt q).2.1] at h; cases h
theorem o_geF {x y : Int32} (h : if_icmp.holds .ge x y = false) : x < y := Decidable.byContradiction fun q => by rw [(flt q).2.1] at h; cases h
theorem o_gtT {x y : Int32} (h : if_icmp.holds .gt x y = true) : y < x := Decidable.byContradiction fun q => by rw [(flt q).2.2.1] at h; cases h
theorem o_gtF {x y : Int32} (h : if_icmp.holds .gt x y = false) : ¬ y < x := fun q => by rw [(tlt q).2.2.1] at h; cases h
theorem o_leT {x y : Int32} (h : if_icmp.holds .le x y = true) : ¬ y < x := fun q => by rw [(tlt q).2.2.2] at h; cases h
theorem o_leF {x y : Int32} (h : if_icmp.holds .le x y = false) : y < x := Decidable.byContradiction fun q => by rw [(flt q).2.2.2] at h; cases h
-- calls, by the callee's contract
theorem gStatic (X : Stand p l e R s m args below meth c T locs cells slots) (hx : p.tables.exec = Jvm.exec) (hZ : Z.Warmed39 s.vm) {own : String} {index : Nat} {y : MethodName} {bytes : ByteArray} {maxL : Nat} {ret : Option FieldType} {rm : Room} {Q' : Option Value → Heap → List Loc → Prop} {argsL rest : List Value} {W : Nat}
    (hown : s.vm.findClass own = some m.cls) (hy : y.cls ≠ "java/lang/invoke/MethodHandle" ∧ y.cls ≠ "java/lang/invoke/VarHandle") (w1 : (Cond.methodLink own index y).before a0 Z = true) (w2 : (Cond.static y).before a0 Z = true) (w3 : (Cond.initialized y.cls).before a0 Z = true) (w4 : (Cond.code y bytes maxL ret).before a0 Z = true)
    (hM : Met l Z y bytes maxL ret [] rm argsL.toArray h Q') (eT : T.heap = h) (hsize : Ls.size = c.maxLocals) (hlen : ∀ sig, parseMethodDescriptor y.desc = some sig → argsL.length = sig.parameters.length) {st : List Value} (hst : st = argsL.reverse ++ rest) (hW : (rest.map fun v => v.category).sum ≤ W)
    (hf : rm.frames + 1 ≤ R.frames) (hl : W + (maxL + 11) + rm.locals ≤ R.locals) (hc : cells + rm.cells ≤ R.cells) (hs : slots + rm.slots ≤ R.slots) (hd : decode c.code pc = .ok (.invokestatic index, 3))
    (kk : ∀ (v : Option Value) (T' : State) (L : List Loc), Stand p l e R s m args below meth c T' (locs ++ L) (cells + rm.cells) (slots + rm.slots) → Q' v T'.heap L → Go p e below s CC SS QQ T' (mkF m (pc + 3) Ls (v.toList ++ rest))) : Go p e below s CC SS QQ T (mkF m pc Ls st) := by
  subst hst
  obtain ⟨v, vm₁, ⟨T', L', k', n'⟩, -, X', ⟨Lc, hQ, l1, y1, z1⟩, st⟩ := Jvm.LawKit.callS X hx (y := y) hown (mvT hZ w1) (mvT hZ w2) (mvT hZ w3) (mvT hZ w4) hy (backOf (W := W) hM hZ w4 w3 hf hl) (g := mkF m pc Ls (argsL.reverse ++ rest)) rfl hsize (argsL := argsL) (rest := rest) hlen rfl (by show 2 * 0 + _ ≤ _; omega) hd (fun _ _ => ⟨rfl, eT, hc, hs⟩)
  dsimp only [Pt.U, Pt.locs, Pt.cells, Pt.slots] at X' l1 y1 z1 st hQ
  subst l1 y1 z1
  exact Go.st st (kk v T' Lc X' hQ)
theorem gInit (X : Stand p l e R s m args below meth c T locs cells slots) (hx : p.tables.exec = Jvm.exec) (hZ : Z.Warmed39 s.vm) {own : String} {index : Nat} {y : MethodName} {bytes : ByteArray} {maxL : Nat} {rm : Room} {Q' : Option Value → Heap → List Loc → Prop} {a : Addr} {argsL rest : List Value} {W : Nat}
    (hown : s.vm.findClass own = some m.cls) (hy1 : y.name = "<init>") (hy : y.cls ≠ "java/lang/invoke/MethodHandle" ∧ y.cls ≠ "java/lang/invoke/VarHandle") (w1 : (Cond.methodLink own index y).before a0 Z = true) (w2 : (Cond.instanceMethod y).before a0 Z = true) (w3 : (Cond.initialized y.cls).before a0 Z = true) (w4 : (Cond.code y bytes maxL none).before a0 Z = true)
    (hM : Met l Z y bytes maxL none [] rm (.ref a :: argsL).toArray h Q') (eT : T.heap = h) (hsize : Ls.size = c.maxLocals) (hlen : ∀ sig, parseMethodDescriptor y.desc = some sig → argsL.length = sig.parameters.length) {st : List Value} (hst : st = argsL.reverse ++ .ref a :: rest) (hW : (rest.map fun v => v.category).sum ≤ W)
    (hf : rm.frames + 1 ≤ R.frames) (hl : W + (maxL + 11) + rm.locals ≤ R.locals) (hc : cells + rm.cells ≤ R.cells) (hs : slots + rm.slots ≤ R.slots) (hd : decode c.code pc = .ok (.invokespecial index, 3))
    (kk : ∀ (v : Option Value) (T' : State) (L : List Loc), Stand p l e R s m args below meth c T' (locs ++ L) (cells + rm.cells) (slots + rm.slots) → Q' v T'.heap L → Go p e below s CC SS QQ T' (mkF m (pc + 3) Ls (v.toList ++ rest))) : Go p e below s CC SS QQ T (mkF m pc Ls st) := by
  subst hst
  obtain ⟨v, vm₁, ⟨T', L', k', n'⟩, -, X', ⟨Lc, hQ, l1, y1, z1⟩, st⟩ := X.specialBack hx (y := y) hy1 hown (mvT hZ w1) (mvT hZ w2) (mvT hZ w4) hy (backOf (W := W) hM hZ w4 w3 hf hl) (g := mkF m pc Ls (argsL.reverse ++ .ref a :: rest)) rfl hsize (Steps.refl _) (a := a) (argsL := argsL) (rest := rest) hlen rfl (by show 2 * 0 + _ ≤ _; omega) hd (fun _ _ => ⟨rfl, eT, hc, hs⟩)
  dsimp only [Pt.U, Pt.locs, Pt.cells, Pt.slots] at X' l1 y1 z1 st hQ
  subst l1 y1 z1
  exact Go.tr st (kk v T' Lc X' hQ)
theorem gVirtual (X : Stand p l e R s m args below meth c T locs cells slots) (hx : p.tables.exec = Jvm.exec) (hZ : Z.Warmed39 s.vm) {own : String} {index : Nat} {y : MethodName} {bytes : ByteArray} {maxL : Nat} {ret : Option FieldType} {rm : Room} {Q' : Option Value → Heap → List Loc → Prop} {a : Addr} {argsL rest : List Value} {W : Nat}
    (hown : s.vm.findClass own = some m.cls) (hy : y.cls ≠ "java/lang/invoke/MethodHandle" ∧ y.cls ≠ "java/lang/invoke/VarHandle") (w1 : (Cond.methodLink own index y).before a0 Z = true) (w2 : (Cond.declares y).before a0 Z = true) (w5 : (Cond.instanceMethod y).before a0 Z = true) (w6 : (Cond.selects y.cls y y).before a0 Z = true) (w3 : (Cond.initialized y.cls).before a0 Z = true) (w4 : (Cond.code y bytes maxL ret).before a0 Z = true)
    (E : Exa Z h a y.cls) (hM : Met l Z y bytes maxL ret [] rm (.ref a :: argsL).toArray h Q') (eT : T.heap = h) (hsize : Ls.size = c.maxLocals) (hlen : ∀ sig, parseMethodDescriptor y.desc = some sig → argsL.length = sig.parameters.length) {st : List Value} (hst : st = argsL.reverse ++ .ref a :: rest) (hW : (rest.map fun v => v.category).sum ≤ W)
    (hf : rm.frames + 1 ≤ R.frames) (hl : W + (maxL + 11) + rm.locals ≤ R.locals) (hc : cells + rm.cells ≤ R.cells) (hs : slots + rm.slots ≤ R.slots) (hd : decode c.code pc = .ok (.invokevirtual index, 3))
    (kk : ∀ (v : Option Value) (T' : State) (L : List Loc), Stand p l e R s m args below meth c T' (locs ++ L) (cells + rm.cells) (slots + rm.slots) → Q' v T'.heap L → Go p e below s CC SS QQ T' (mkF m (pc + 3) Ls (v.toList ++ rest))) : Go p e below s CC SS QQ T (mkF m pc Ls st) := by
  subst hst
  obtain ⟨cq, kq, qa, qb, qc⟩ := isOf hZ eT E
  obtain ⟨v, vm₁, ⟨T', L', k', n'⟩, -, X', ⟨Lc, hQ, l1, y1, z1⟩, st⟩ := X.virtualBack hx (y := y) (z := y) hown (mvT hZ w1) (mvT hZ w2) (notFace_of_selects (args := #[]) (mvT hZ w6)) (mvT hZ w6) (mvT hZ w5) hy (backOf (W := W) hM hZ w4 w3 hf hl) qa qc (g := mkF m pc Ls (argsL.reverse ++ .ref a :: rest)) rfl hsize (Steps.refl _) (argsL := argsL) (rest := rest) hlen rfl (by show 2 * 0 + _ ≤ _; omega) hd (fun _ _ => ⟨rfl, eT, hc, hs⟩)
  dsimp only [Pt.U, Pt.locs, Pt.cells, Pt.slots] at X' l1 y1 z1 st hQ
  subst l1 y1 z1
  exact Go.tr st (kk v T' Lc X' hQ)
theorem gPrivate (X : Stand p l e R s m args below meth c T locs cells slots) (hx : p.tables.exec = Jvm.exec) (hZ : Z.Warmed39 s.vm) {own : String} {index : Nat} {y : MethodName} {bytes : ByteArray} {maxL : Nat} {ret : Option FieldType} {rm : Room} {Q' : Option Value → Heap → List Loc → Prop} {a : Addr} {C : String} {argsL rest : List Value} {W : Nat}
    (hown : s.vm.findClass own = some m.cls) (hy : y.cls ≠ "java/lang/invoke/MethodHandle" ∧ y.cls ≠ "java/lang/invoke/VarHandle") (w1 : (Cond.methodLink own index y).before a0 Z = true) (w2 : (Cond.instanceMethod y).before a0 Z = true) {kq : Nat} (w6 : (Cond.instantiable y.cls kq).before a0 Z = true) (w5 : (Cond.privateMethod y).before a0 Z = true) (w3 : (Cond.initialized y.cls).before a0 Z = true) (w4 : (Cond.code y bytes maxL ret).before a0 Z = true)
    (E : Exa Z h a C) (hM : Met l Z y bytes maxL ret [] rm (.ref a :: argsL).toArray h Q') (eT : T.heap = h) (hsize : Ls.size = c.maxLocals) (hlen : ∀ sig, parseMethodDescriptor y.desc = some sig → argsL.length = sig.parameters.length) {st : List Value} (hst : st = argsL.reverse ++ .ref a :: rest) (hW : (rest.map fun v => v.category).sum ≤ W)
    (hf : rm.frames + 1 ≤ R.frames) (hl : W + (maxL + 11) + rm.locals ≤ R.locals) (hc : cells + rm.cells ≤ R.cells) (hs : slots + rm.slots ≤ R.slots) (hd : decode c.code pc = .ok (.invokevirtual index, 3))
    (kk : ∀ (v : Option Value) (T' : State) (L : List Loc), Stand p l e R s m args below meth c T' (locs ++ L) (cells + rm.cells) (slots + rm.slots) → Q' v T'.heap L → Go p e below s CC SS QQ T' (mkF m (pc + 3) Ls (v.toList ++ rest))) : Go p e below s CC SS QQ T (mkF m pc Ls st) := by
  subst hst
  obtain ⟨cq, q1, q2⟩ := E.cell
  obtain ⟨ci, ki, hi1, hi2, -, hi3, -⟩ := Cond.instantiable_spec (mvT (args := #[]) hZ w6)
  have hsel : (Cond.selects y.cls y y).before args s = true := selects_self_of_private hi1 hi2 (by simpa using (Bool.or_eq_false_iff.mp hi3).1) (Cond.privateMethod_at (mvP hZ w5 (args := #[]))) (mvT hZ w2) hy
  obtain ⟨v, vm₁, ⟨T', L', k', n'⟩, -, X', ⟨Lc, hQ, l1, y1, z1⟩, st⟩ := X.privateBack hx (y := y) hown (mvT hZ w1) (mvT hZ w2) hsel (Cond.privateMethod_at (mvP hZ w5 (args := #[]))) (mvT hZ w4) hy (backOf (W := W) hM hZ w4 w3 hf hl) (g := mkF m pc Ls (argsL.reverse ++ .ref a :: rest)) rfl hsize (Steps.refl _) (a := a) (by rw [eT]; exact q1) q2 (argsL := argsL) (rest := rest) hlen rfl (by show 2 * 0 + _ ≤ _; omega) hd (fun _ _ => ⟨rfl, eT, hc, hs⟩)
  dsimp only [Pt.U, Pt.locs, Pt.cells, Pt.slots] at X' l1 y1 z1 st hQ
  subst l1 y1 z1
  exact Go.tr st (kk v T' Lc X' hQ)
-- fields, new objects, arrays
theorem gGetF (X : Stand p l e R s m args below meth c T locs cells slots) (hx : p.tables.exec = Jvm.exec) (hZ : Z.Warmed39 s.vm) {own O n d : String} {index : Nat} (hown : s.vm.findClass own = some m.cls) (w : (Cond.fieldLink own index O n d).before a0 Z = true) (eT : T.heap = h) {a : Addr} {v : Value} (F : Fld Z h a O n d v) (hd : decode c.code pc = .ok (.getfield index, 3))
    (kk : ∀ T', Stand p l e R s m args below meth c T' locs cells slots → T'.heap = h → Go p e below s CC SS QQ T' (mkF m (pc + 3) Ls (v :: rest))) : Go p e below s CC SS QQ T (mkF m pc Ls (.ref a :: rest)) := by
  obtain ⟨T', X', e', st⟩ := getF X hx hZ hown (host := "") (Or.inl w) Via.refl eT F (g := mkF m pc Ls (.ref a :: rest)) rfl rfl hd
  exact Go.st st (kk T' X' e')
theorem gPutF (X : Stand p l e R s m args below meth c T locs cells slots) (hx : p.tables.exec = Jvm.exec) (hZ : Z.Warmed39 s.vm) {own O n d C : String} {index kq : Nat} {ty : FieldType} (hown : s.vm.findClass own = some m.cls) (w : (Cond.fieldLink own index O n d).before a0 Z = true) (eT : T.heap = h) {a : Addr} {v old : Value} (F : Fld Z h a O n d old) (E : Exa Z h a C)
    (L : (Cond.lays C O n d).before a0 Z = true ∨ ((Cond.laysFinal C O n d).before a0 Z = true ∧ own = O ∧ meth.name = "<init>")) (wi : (Cond.instantiable C kq).before a0 Z = true) (hty : parseFieldDescriptor d = some ty) (hn : narrow ty v = v) (hf : fits ty v = true) (hd : decode c.code pc = .ok (.putfield index, 3))
    (kk : ∀ T' h', Stand p l e R s m args below meth c T' (locs ++ [⟨a, Jvm.RoadKit.slotOf Z O n d⟩]) cells slots → T'.heap = h' → Wr h h' a (Jvm.RoadKit.slotOf Z O n d) v → Go p e below s CC SS QQ T' (mkF m (pc + 3) Ls rest)) : Go p e below s CC SS QQ T (mkF m pc Ls (v :: .ref a :: rest)) := by
  obtain ⟨T', h', X', e', W', st⟩ := putF X hx hZ hown (host := "") (Or.inl w) Via.refl eT F E L wi hty hn hf (g := mkF m pc Ls (v :: .ref a :: rest)) rfl rfl hd
  exact Go.st st (kk T' h' X' e' W')
theorem gPutFN (X : Stand p l e R s m args below meth c T locs cells slots) (hx : p.tables.exec = Jvm.exec) (hZ : Z.Warmed39 s.vm) {own O n d C : String} {index kq : Nat} {ty : FieldType} (hown : s.vm.findClass own = some m.cls) (w : (Cond.fieldLink own index O n d).before a0 Z = true) (eT : T.heap = h) {a : Addr} {v old : Value} (v' : Value) (F : Fld Z h a O n d old) (E : Exa Z h a C)
    (L : (Cond.lays C O n d).before a0 Z = true ∨ ((Cond.laysFinal C O n d).before a0 Z = true ∧ own = O ∧ meth.name = "<init>")) (wi : (Cond.instantiable C kq).before a0 Z = true) (hty : parseFieldDescriptor d = some ty) (hn : narrow ty v = v') (hf : fits ty v' = true) (hd : decode c.code pc = .ok (.putfield index, 3))
    (kk : ∀ T' h', Stand p l e R s m args below meth c T' (locs ++ [⟨a, Jvm.RoadKit.slotOf Z O n d⟩]) cells slots → T'.heap = h' → Wr h h' a (Jvm.RoadKit.slotOf Z O n d) v' → Go p e below s CC SS QQ T' (mkF m (pc + 3) Ls rest)) : Go p e below s CC SS QQ T (mkF m pc Ls (v :: .ref a :: rest)) := by
  obtain ⟨T', h', X', e', W', st⟩ := putFN X hx hZ hown w Via.refl eT F E L wi hty hn hf (g := mkF m pc Ls (v :: .ref a :: rest)) rfl rfl hd
  exact Go.st st (kk T' h' X' e' W')
theorem gNew (X : Stand p l e R s m args below meth c T locs cells slots) (hx : p.tables.exec = Jvm.exec) (hZ : Z.Warmed39 s.vm) {own C : String} {index n : Nat} (hown : s.vm.findClass own = some m.cls) (w : (Cond.classLink own index C).before a0 Z = true) (wi : (Cond.instantiable C n).before a0 Z = true) (wz : (Cond.initialized C).before a0 Z = true) (eT : T.heap = h)
    (hd : decode c.code pc = .ok (.new index, 3)) (hc : cells + 1 ≤ R.cells) (hl : slots + n ≤ R.slots)
    (kk : ∀ T' h' b, Stand p l e R s m args below meth c T' locs (cells + 1) (slots + n) → T'.heap = h' → Ext h h' → b = h.size → Exa Z h' b C → (∀ {O nm d : String} {ty : FieldType}, Laid Z a0 C O nm d → parseFieldDescriptor d = some ty → Fld Z h' b O nm d (defaultValue ty)) → Go p e below s CC SS QQ T' (mkF m (pc + 3) Ls (.ref b :: rest))) : Go p e below s CC SS QQ T (mkF m pc Ls rest) := by
  obtain ⟨T', h', X', e', E', A', D', -, st⟩ := newO X hx hZ hown w wi wz eT (g := mkF m pc Ls rest) rfl hd hc hl
  exact Go.st st (kk T' h' _ X' e' E' rfl A' D')
theorem gNewArr (X : Stand p l e R s m args below meth c T locs cells slots) (hx : p.tables.exec = Jvm.exec) (hZ : Z.Warmed39 s.vm) {aty : ArrayType} (w : (Cond.arrayClass (newarray.typeOf aty)).before a0 Z = true) (eT : T.heap = h) (hd : decode c.code pc = .ok (.newarray aty, 2)) {n : Int32} (hn : ¬ n < 0) {cap : Nat} (hcap : n.toNatClampNeg ≤ cap) (hb : cap * 8 ≤ 536870912) (hc : cells + 1 ≤ R.cells) (hl : slots + cap ≤ R.slots)
    (kk : ∀ T' h' b cA, Stand p l e R s m args below meth c T' locs (cells + 1) (slots + cap) → T'.heap = h' → Ext h h' → b = h.size → Arr Z h' b (newA cA (newarray.typeOf aty) n) (newarray.typeOf aty) → Go p e below s CC SS QQ T' (mkF m (pc + 2) Ls (.ref b :: rest))) : Go p e below s CC SS QQ T (mkF m pc Ls (.int n :: rest)) := by
  obtain ⟨T', h', cA, X', e', E', A', st⟩ := newP X hx hZ w eT (g := mkF m pc Ls (.int n :: rest)) rfl hd rfl hn (cap := cap) hcap hb hc hl
  exact Go.st st (kk T' h' _ cA X' e' E' rfl A')
/-- an array of ints (or of bytes): n places, the j-th holds f j -/
def IA (Z : State) (h : Heap) (a : Addr) (ty : FieldType) (n : Nat) (f : Nat → Int32) : Prop := ∃ cl : Cell, Arr Z h a cl ty ∧ cl.slots.size = n ∧ ∀ j, j < n → cl.slots[j]? = some (.int (f j))
def upd (f : Nat → Int32) (k : Nat) (v : Int32) : Nat → Int32 := fun j => if j = k then v else f j
theorem IA.lt {a : Addr} {ty : FieldType} {n : Nat} {f : Nat → Int32} (F : IA Z h a ty n f) : a < h.size := by obtain ⟨cl, A, -⟩ := F; exact A.lt
theorem IA.ext {h' : Heap} {a : Addr} {ty : FieldType} {n : Nat} {f : Nat → Int32} (F : IA Z h a ty n f) (E : Ext h h') : IA Z h' a ty n f := by obtain ⟨cl, A, r⟩ := F; exact ⟨cl, A.ext E, r⟩
theorem IA.other {h' : Heap} {a b : Addr} {sl : Nat} {v : Value} {ty : FieldType} {n : Nat} {f : Nat → Int32} (F : IA Z h a ty n f) (W : Wr h h' b sl v) (q : a ≠ b) : IA Z h' a ty n f := by obtain ⟨cl, A, r⟩ := F; exact ⟨cl, A.other W q, r⟩
theorem IA.keep {h' : Heap} {a : Addr} {ws : List Addr} {ty : FieldType} {n : Nat} {f : Nat → Int32} (F : IA Z h a ty n f) (K : Keep h h' ws) (q : a ∉ ws) : IA Z h' a ty n f := by
  obtain ⟨cl, A, r⟩ := F
  exact ⟨cl, ⟨K.2.1 a cl A.1 q, A.2⟩, r⟩
theorem IA.set {h' : Heap} {a : Addr} {k : Nat} {v : Int32} {ty : FieldType} {n : Nat} {f : Nat → Int32} (F : IA Z h a ty n f) (W : Wr h h' a k (.int v)) : IA Z h' a ty n (upd f k v) := by
  obtain ⟨cl, A, hs, hf⟩ := F
  refine ⟨_, A.same W, by rw [sz_set]; exact hs, fun j hj => ?_⟩
  show (cl.slots.setIfInBounds k (.int v))[j]? = _
  rw [Array.getElem?_setIfInBounds]
  by_cases q : k = j
  · subst q
    rw [if_pos rfl, if_pos (by rw [hs]; exact hj)]
    simp [upd]
  · rw [if_neg q, hf j hj]
    show _ = some (Value.int (if j = k then v else f j))
    rw [if_neg fun z => q z.symm]
theorem IA.congr {a : Addr} {ty : FieldType} {n : Nat} {f g : Nat → Int32} (F : IA Z h a ty n f) (q : ∀ j, j < n → f j = g j) : IA Z h a ty n g := by
  obtain ⟨cl, A, hs, hf⟩ := F
  exact ⟨cl, A, hs, fun j hj => by rw [hf j hj, q j hj]⟩
theorem IA.new {a : Addr} {cA : ClassId} {ty : FieldType} {z : Int32} (hty : defaultValue ty = .int 0) (A : Arr Z h a (newA cA ty z) ty) : IA Z h a ty z.toNatClampNeg (fun _ => 0) := by
  refine ⟨_, A, sz_new _ _ _, fun j hj => ?_⟩
  simp [newA, hj, hty]
theorem gIaload (X : Stand p l e R s m args below meth c T locs cells slots) (hx : p.tables.exec = Jvm.exec) (hZ : Z.Warmed39 s.vm) (eT : T.heap = h) {a : Addr} {n : Nat} {f : Nat → Int32} (F : IA Z h a .int n f) {j : Int32} (hj : ¬ j < 0 ∧ j.toNatClampNeg < n) (hd : decode c.code pc = .ok (.iaload, 1))
    (kk : Go p e below s CC SS QQ T (mkF m (pc + 1) Ls (.int (f j.toNatClampNeg) :: rest))) : Go p e below s CC SS QQ T (mkF m pc Ls (.int j :: .ref a :: rest)) := by
  obtain ⟨cl, A, hs, hf⟩ := F
  exact Go.st (X.iaload hx (j := j) (v := .int (f j.toNatClampNeg)) (by rw [eT]; exact A.1) (State.isArrayOf_alike hZ.alike A.2.1) A.2.2 (fun q => q.elim hj.1 fun r => absurd hj.2 (Nat.not_lt.mpr (hs ▸ r))) (hf _ hj.2) (g := mkF m pc Ls (.int j :: .ref a :: rest)) rfl rfl hd) kk
theorem gBaload (X : Stand p l e R s m args below meth c T locs cells slots) (hx : p.tables.exec = Jvm.exec) (hZ : Z.Warmed39 s.vm) (eT : T.heap = h) {a : Addr} {n : Nat} {f : Nat → Int32} (F : IA Z h a .byte n f) {j : Int32} (hj : ¬ j < 0 ∧ j.toNatClampNeg < n) (hd : decode c.code pc = .ok (.baload, 1))
    (kk : Go p e below s CC SS QQ T (mkF m (pc + 1) Ls (.int (f j.toNatClampNeg) :: rest))) : Go p e below s CC SS QQ T (mkF m pc Ls (.int j :: .ref a :: rest)) := by
  obtain ⟨cl, A, hs, hf⟩ := F
  exact Go.st (X.baloadBytes hx (j := j) (v := .int (f j.toNatClampNeg)) (by rw [eT]; exact A.1) (State.isArrayOf_alike hZ.alike A.2.1) A.2.2 (fun q => q.elim hj.1 fun r => absurd hj.2 (Nat.not_lt.mpr (hs ▸ r))) (hf _ hj.2) (g := mkF m pc Ls (.int j :: .ref a :: rest)) rfl rfl hd) kk
theorem gIastore (X : Stand p l e R s m args below meth c T locs cells slots) (hx : p.tables.exec = Jvm.exec) (hZ : Z.Warmed39 s.vm) (eT : T.heap = h) {a : Addr} {n : Nat} {f : Nat → Int32} (F : IA Z h a .int n f) {j x : Int32} (k : Nat) (hk : j.toNatClampNeg = k) (hj : ¬ j < 0 ∧ k < n) (hd : decode c.code pc = .ok (.iastore, 1))
    (kk : ∀ T' h', Stand p l e R s m args below meth c T' (locs ++ [⟨a, k⟩]) cells slots → T'.heap = h' → Wr h h' a k (.int x) → IA Z h' a .int n (upd f k x) → Go p e below s CC SS QQ T' (mkF m (pc + 1) Ls rest)) : Go p e below s CC SS QQ T (mkF m pc Ls (.int x :: .int j :: .ref a :: rest)) := by
  subst hk
  obtain ⟨cl, A, hs, hf⟩ := id F
  obtain ⟨T', h', X', e', W', st⟩ := stI X hx hZ eT A (j := j) (x := x) (fun q => q.elim hj.1 fun r => absurd hj.2 (Nat.not_lt.mpr (hs ▸ r))) (g := mkF m pc Ls (.int x :: .int j :: .ref a :: rest)) rfl rfl hd
  exact Go.st st (kk T' h' X' e' W' (F.set W'))
theorem gBastore (X : Stand p l e R s m args below meth c T locs cells slots) (hx : p.tables.exec = Jvm.exec) (hZ : Z.Warmed39 s.vm) (eT : T.heap = h) {a : Addr} {n : Nat} {f : Nat → Int32} (F : IA Z h a .byte n f) {j x : Int32} (k : Nat) (hk : j.toNatClampNeg = k) (hj : ¬ j < 0 ∧ k < n) (hd : decode c.code pc = .ok (.bastore, 1))
    (kk : ∀ T' h', Stand p l e R s m args below meth c T' (locs ++ [⟨a, k⟩]) cells slots → T'.heap = h' → Wr h h' a k (.int (nar .byte x)) → IA Z h' a .byte n (upd f k (nar .byte x)) → Go p e below s CC SS QQ T' (mkF m (pc + 1) Ls rest)) : Go p e below s CC SS QQ T (mkF m pc Ls (.int x :: .int j :: .ref a :: rest)) := by
  subst hk
  obtain ⟨cl, A, hs, hf⟩ := id F
  obtain ⟨T', h', X', e', W', st⟩ := stB X hx hZ eT A (j := j) (x := x) (fun q => q.elim hj.1 fun r => absurd hj.2 (Nat.not_lt.mpr (hs ▸ r))) (g := mkF m pc Ls (.int x :: .int j :: .ref a :: rest)) rfl rfl hd
  exact Go.st st (kk T' h' X' e' W' (F.set W'))
theorem gLength (X : Stand p l e R s m args below meth c T locs cells slots) (hx : p.tables.exec = Jvm.exec) (hZ : Z.Warmed39 s.vm) (eT : T.heap = h) {a : Addr} {ty : FieldType} {n : Nat} {f : Nat → Int32} (F : IA Z h a ty n f) (hd : decode c.code pc = .ok (.arraylength, 1))
    (kk : Go p e below s CC SS QQ T (mkF m (pc + 1) Ls (.int n.toInt32 :: rest))) : Go p e below s CC SS QQ T (mkF m pc Ls (.ref a :: rest)) := by
  obtain ⟨cl, A, hs, hf⟩ := F
  subst hs
  exact Go.st (X.arraylength hx (by rw [eT]; exact A.1) (State.isArrayOf_alike hZ.alike A.2.1) (g := mkF m pc Ls (.ref a :: rest)) rfl rfl hd) kk
theorem own_nb (x : Int32) : nar .byte x.toInt8.toInt32 = x.toInt8.toInt32 := by simp [nar]
theorem own_nz {b : Int32} (h : b = 0 ∨ b = 1) : narrow .boolean (.int b) = .int b := by rcases h with rfl | rfl <;> rfl
theorem own_fz {b : Int32} (h : b = 0 ∨ b = 1) : fits .boolean (.int b) = true := by rcases h with rfl | rfl <;> rfl
end OwnKit
theorem tw {a0 : Array Value} {Z : State} (hw : ∀ d ∈ tables_1, d.before a0 Z = true) (k : Nat) {d : Jvm.Cond} (h : tables_1[k]? = some d) : d.before a0 Z = true := hw _ (List.mem_of_getElem? h)
section OwnR
variable {p : Program} {l : Launch} {e : Env} {R : Room} {s : State} {m : MethodId} {args : Array Value} {below : List Frame} {meth : Method} {c : Code} {T T' : State} {locs : List Loc} {cells slots : Nat} {Z : State} {a0 : Array Value} {h : Heap} {CC SS : Nat} {QQ : Option Value → Heap → List Loc → Prop} {pc : Nat} {Ls : Array Slot} {rest : List Value}
theorem gGetS (X : Stand p l e R s m args below meth c T locs cells slots) (hx : p.tables.exec = Jvm.exec) (hZ : Z.Warmed39 s.vm) {own O n d : String} {index : Nat} (hown : s.vm.findClass own = some m.cls) (w : (Cond.fieldLink own index O n d).before a0 Z = true) (eT : T.heap = h) {v : Value} (F : Sta Z h O n d v) (hd : decode c.code pc = .ok (.getstatic index, 3))
    (kk : ∀ T', Stand p l e R s m args below meth c T' locs cells slots → T'.heap = h → Go p e below s CC SS QQ T' (mkF m (pc + 3) Ls (v :: rest))) : Go p e below s CC SS QQ T (mkF m pc Ls rest) := by
  obtain ⟨T', X', e', st⟩ := getS2 X hx hZ hown (host := "") (Or.inl w) Via.refl eT F (g := mkF m pc Ls rest) rfl hd
  exact Go.st st (kk T' X' e')
theorem gNonNull (X : Stand p l e R s m args below meth c T locs cells slots) (hx : p.tables.exec = Jvm.exec) {a : Addr} {o : Int} (pc' : Nat) (hd : decode c.code pc = .ok (.ifnonnull o, 3)) (ho : 0 ≤ (pc : Int) + o) (hp : ((pc : Int) + o).toNat = pc')
    (kk : Go p e below s CC SS QQ T (mkF m pc' Ls rest)) : Go p e below s CC SS QQ T (mkF m pc Ls (.ref a :: rest)) := Go.st (fun _ => XT.ifnonnullYes X.here hx rfl (pc0 := pc) rfl hd rfl ho hp) kk
theorem gNonNullN (X : Stand p l e R s m args below meth c T locs cells slots) (hx : p.tables.exec = Jvm.exec) {o : Int} (hd : decode c.code pc = .ok (.ifnonnull o, 3))
    (kk : Go p e below s CC SS QQ T (mkF m (pc + 3) Ls rest)) : Go p e below s CC SS QQ T (mkF m pc Ls (.null :: rest)) := Go.st (fun _ => XT.ifnonnullNo X.here hx rfl hd rfl) kk
theorem gNullY (X : Stand p l e R s m args below meth c T locs cells slots) (hx : p.tables.exec = Jvm.exec) {o : Int} (pc' : Nat) (hd : decode c.code pc = .ok (.ifnull o, 3)) (ho : 0 ≤ (pc : Int) + o) (hp : ((pc : Int) + o).toNat = pc')
    (kk : Go p e below s CC SS QQ T (mkF m pc' Ls rest)) : Go p e below s CC SS QQ T (mkF m pc Ls (.null :: rest)) := Go.st (fun _ => XS.ifnullYes X.here hx rfl (pc0 := pc) rfl hd rfl ho hp) kk
theorem gNullN (X : Stand p l e R s m args below meth c T locs cells slots) (hx : p.tables.exec = Jvm.exec) {a : Addr} {o : Int} (hd : decode c.code pc = .ok (.ifnull o, 3))
    (kk : Go p e below s CC SS QQ T (mkF m (pc + 3) Ls rest)) : Go p e below s CC SS QQ T (mkF m pc Ls (.ref a :: rest)) := Go.st (fun _ => XS.ifnullNo X.here hx rfl hd rfl) kk
theorem gAcmpEq (X : Stand p l e R s m args below meth c T locs cells slots) (hx : p.tables.exec = Jvm.exec) {a b : Addr} {o : Int} (pc' : Nat) (hd : decode c.code pc = .ok (.if_acmp .eq o, 3)) (ho : 0 ≤ (pc : Int) + o) (hp : ((pc : Int) + o).toNat = pc')
    (ke : a = b → Go p e below s CC SS QQ T (mkF m pc' Ls rest)) (kn : ¬ a = b → Go p e below s CC SS QQ T (mkF m (pc + 3) Ls rest)) : Go p e below s CC SS QQ T (mkF m pc Ls (.ref b :: .ref a :: rest)) := by
  by_cases q : a = b
  · exact Go.st (fun _ => Jvm.RoadKit.acmp X hx rfl (x := .ref a) (y := .ref b) rfl rfl (pc0 := pc) (pc' := pc') (same := true) rfl hd rfl (decide_eq_true (congrArg Value.ref q)) ho (by simp [acV, hp])) (ke q)
  · exact Go.st (fun _ => Jvm.RoadKit.acmp X hx rfl (x := .ref a) (y := .ref b) rfl rfl (pc0 := pc) (pc' := pc + 3) (same := false) rfl hd rfl (decide_eq_false fun z => q (Value.ref.inj z)) ho (by simp [acV])) (kn q)
theorem gAcmpSame (X : Stand p l e R s m args below meth c T locs cells slots) (hx : p.tables.exec = Jvm.exec) {w : Value} {o : Int} (pc' : Nat) (hd : decode c.code pc = .ok (.if_acmp .ne o, 3)) (hw : w.isRef = true) (ho : 0 ≤ (pc : Int) + o) (hp : ((pc : Int) + o).toNat = pc')
    (kk : Go p e below s CC SS QQ T (mkF m (pc + 3) Ls rest)) : Go p e below s CC SS QQ T (mkF m pc Ls (w :: w :: rest)) :=
  Go.st (fun _ => Jvm.RoadKit.acmp X hx rfl (x := w) (y := w) hw hw (pc0 := pc) (pc' := pc + 3) (same := true) rfl hd rfl (decide_eq_true rfl) ho (by simp [acV])) kk
/-- an array of objects of AtomicType: n places, the j-th holds f j -/
def RAr (Z : State) (h : Heap) (b : Addr) (n : Nat) (f : Nat → Value) : Prop := ∃ cl : Cell, Arr Z h b cl (.object "com/example/deep_query/deepquery/xdm/AtomicType") ∧ Ovr Z cl.cls "com/example/deep_query/deepquery/xdm/AtomicType" ∧ cl.slots.size = n ∧ ∀ j, j < n → cl.slots[j]? = some (f j)
def updV (f : Nat → Value) (k : Nat) (v : Value) : Nat → Value := fun j => if j = k then v else f j
theorem own_updV {a : Nat → Addr} {f : Nat → Value} {k : Nat} (h : ∀ j, j < k → f j = .ref (a j)) : ∀ j, j < k + 1 → updV f k (.ref (a k)) j = .ref (a j) := fun j hj => by
  by_cases q : j = k
  · simp [updV, q]
  · simp only [updV, if_neg q]; exact h j (by omega)
theorem RAr.lt {b : Addr} {n : Nat} {f : Nat → Value} (F : RAr Z h b n f) : b < h.size := by obtain ⟨cl, A, -⟩ := F; exact A.lt
theorem gNewArrR (X : Stand p l e R s m args below meth c T locs cells slots) (hx : p.tables.exec = Jvm.exec) (hZ : Z.Warmed39 s.vm) {own : String} {index : Nat} (hown : s.vm.findClass own = some m.cls) (w1 : (Cond.classLink own index "com/example/deep_query/deepquery/xdm/AtomicType").before a0 Z = true) (w2 : (Cond.arrayOver (.object "com/example/deep_query/deepquery/xdm/AtomicType")).before a0 Z = true)
    (eT : T.heap = h) (hd : decode c.code pc = .ok (.anewarray index, 3)) {n : Int32} (hn : ¬ n < 0) {cap : Nat} (hcap : n.toNatClampNeg ≤ cap) (hb : cap * 8 ≤ 536870912) (hc : cells + 1 ≤ R.cells) (hl : slots + cap ≤ R.slots)
    (kk : ∀ T' h' b, Stand p l e R s m args below meth c T' locs (cells + 1) (slots + cap) → T'.heap = h' → Ext h h' → b = h.size → RAr Z h' b n.toNatClampNeg (fun _ => Value.null) → Go p e below s CC SS QQ T' (mkF m (pc + 3) Ls (.ref b :: rest))) : Go p e below s CC SS QQ T (mkF m pc Ls (.int n :: rest)) := by
  obtain ⟨T', h', cA, X', e', E', A', O', st⟩ := newR X hx hZ hown w1 w2 eT (g := mkF m pc Ls (.int n :: rest)) rfl hd rfl hn (cap := cap) hcap hb hc hl
  exact Go.st st (kk T' h' _ X' e' E' rfl ⟨_, A', O', sz_new _ _ _, fun j hj => by simp [newA, hj, defaultValue]⟩)
theorem gAastore (X : Stand p l e R s m args below meth c T locs cells slots) (hx : p.tables.exec = Jvm.exec) (hZ : Z.Warmed39 s.vm) (eT : T.heap = h) {b x : Addr} {n : Nat} {f : Nat → Value} (F : RAr Z h b n f) (I : Ins Z h x "com/example/deep_query/deepquery/xdm/AtomicType" true) {j : Int32} (k : Nat) (hk : j.toNatClampNeg = k) (hj : ¬ j < 0 ∧ k < n) (hd : decode c.code pc = .ok (.aastore, 1))
    (kk : ∀ T' h', Stand p l e R s m args below meth c T' (locs ++ [⟨b, k⟩]) cells slots → T'.heap = h' → Wr h h' b k (.ref x) → RAr Z h' b n (updV f k (.ref x)) → Go p e below s CC SS QQ T' (mkF m (pc + 1) Ls rest)) : Go p e below s CC SS QQ T (mkF m pc Ls (.ref x :: .int j :: .ref b :: rest)) := by
  subst hk
  obtain ⟨cl, A, O, hs, hf⟩ := F
  obtain ⟨T', h', X', e', W', st⟩ := stR X hx hZ eT A (j := j) (v := .ref x) (fun q => q.elim hj.1 fun r => absurd hj.2 (Nat.not_lt.mpr (hs ▸ r))) rfl (Sto.of A O I) (g := mkF m pc Ls (.ref x :: .int j :: .ref b :: rest)) rfl rfl hd
  refine Go.st st (kk T' h' X' e' W' ⟨_, A.same W', O, by rw [sz_set]; exact hs, fun i hi => ?_⟩)
  show (cl.slots.setIfInBounds j.toNatClampNeg (.ref x))[i]? = _
  rw [Array.getElem?_setIfInBounds]
  by_cases q : j.toNatClampNeg = i
  · subst q
    rw [if_pos rfl, if_pos (by rw [hs]; exact hi)]
    simp [updV]
  · rw [if_neg q, hf i hi]
    show _ = some (if i = j.toNatClampNeg then Value.ref x else f i)
    rw [if_neg fun z => q z.symm]
theorem gAaloadR (X : Stand p l e R s m args below meth c T locs cells slots) (hx : p.tables.exec = Jvm.exec) (hZ : Z.Warmed39 s.vm) (eT : T.heap = h) {b : Addr} {n : Nat} {f : Nat → Value} (F : RAr Z h b n f) {j : Int32} (hj : ¬ j < 0 ∧ j.toNatClampNeg < n) (hd : decode c.code pc = .ok (.aaload, 1))
    (kk : Go p e below s CC SS QQ T (mkF m (pc + 1) Ls (f j.toNatClampNeg :: rest))) : Go p e below s CC SS QQ T (mkF m pc Ls (.int j :: .ref b :: rest)) := by
  obtain ⟨cl, A, O, hs, hf⟩ := F
  exact Go.st (X.aaload hx (j := j) (v := f j.toNatClampNeg) (by rw [eT]; exact A.1) (State.isArrayOf_alike hZ.alike A.2.1) rfl A.2.2 (fun q => q.elim hj.1 fun r => absurd hj.2 (Nat.not_lt.mpr (hs ▸ r))) (hf _ hj.2) (g := mkF m pc Ls (.int j :: .ref b :: rest)) rfl rfl hd) kk
end OwnR
/-- from x by the types it is derived from, over ys, up to r, which is derived from any -/
def Chain (Z : State) (h : Heap) (any : Addr) : Addr → List Addr → Addr → Prop
  | x, [], r => r = x ∧ Fld Z h x "com/example/deep_query/deepquery/xdm/AtomicType" "base" "Lcom/example/deep_query/deepquery/xdm/AtomicType;" (.ref any)
  | x, y :: ys, r => Fld Z h x "com/example/deep_query/deepquery/xdm/AtomicType" "base" "Lcom/example/deep_query/deepquery/xdm/AtomicType;" (.ref y) ∧ y ≠ any ∧ Chain Z h any y ys r
theorem Chain.ext {Z : State} {h h' : Heap} {any : Addr} (E : Ext h h') : ∀ (ys : List Addr) (x r : Addr), Chain Z h any x ys r → Chain Z h' any x ys r
  | [], _, _, q => ⟨q.1, q.2.ext E⟩
  | y :: ys, _, r, q => ⟨q.1.ext E, q.2.1, Chain.ext E ys y r q.2.2⟩
def PrimOK (Z : State) (h : Heap) (any x : Addr) (w : Value) : Prop := (w = .null ∧ Fld Z h x "com/example/deep_query/deepquery/xdm/AtomicType" "base" "Lcom/example/deep_query/deepquery/xdm/AtomicType;" .null) ∨ ∃ ys r, w = .ref r ∧ Chain Z h any x ys r
theorem PrimOK.ext {Z : State} {h h' : Heap} {any x : Addr} {w : Value} (P : PrimOK Z h any x w) (E : Ext h h') : PrimOK Z h' any x w := by
  rcases P with ⟨q, F⟩ | ⟨ys, r, q, F⟩
  · exact Or.inl ⟨q, F.ext E⟩
  · exact Or.inr ⟨ys, r, q, F.ext E⟩
theorem own_idx (x : Int32) : ∃ i, i < 33 ∧ (x &&& (2147483647 : Int32)) % (33 : Int32) = Int32.ofNat i := by
  have h := c_mask x 2147483647 31 (by decide) (by decide)
  have h2 : ((x &&& (2147483647 : Int32)) % (33 : Int32)).toInt = (x &&& (2147483647 : Int32)).toInt.tmod 33 := by
    rw [Int32.toInt_mod]; rfl
  rw [h, Int.tmod_eq_emod_of_nonneg (by omega)] at h2
  refine ⟨((x.toInt % ((2 ^ 31 : Nat) : Int)) % 33).toNat, by omega, Int32.toInt_inj.mp ?_⟩
  rw [h2, Int32.toInt_ofNat_of_lt (by omega)]
  omega
theorem own_n32 {n : Nat} (hn : n < 33) : (Int32.ofNat n).toNatClampNeg = n := by
  rw [Int32.toNatClampNeg, Int32.toInt_ofNat_of_lt (by omega)]; rfl
theorem own_nn {n : Nat} (hn : n < 33) : ¬ Int32.ofNat n < 0 := by
  rw [Int32.lt_iff_toInt_lt, Int32.toInt_ofNat_of_lt (by omega), show (0 : Int32).toInt = 0 from rfl]
  omega
theorem own_eqr {Z : State} {args : Array Value} {t u : Term} {y : Addr} (hu : u.eval args Z none [] Z = some (.ref y)) (h : (Cond.eq t u).value args Z none Z [] = some true) : t.eval args Z none [] Z = some (.ref y) := by
  exact Cond.eq_refs (Cond.before_iff.mpr h) hu rfl
theorem d0_0 : decode prog_138_method_12_code 0 = .ok (.aload_n 0, 1) := by decide +kernel
theorem d0_1 : decode prog_138_method_12_code 1 = .ok (.astore_n 1, 1) := by decide +kernel
theorem d0_2 : decode prog_138_method_12_code 2 = .ok (.aload_n 1, 1) := by decide +kernel
theorem d0_3 : decode prog_138_method_12_code 3 = .ok (.getfield 129, 3) := by decide +kernel
theorem d0_6 : decode prog_138_method_12_code 6 = .ok (.ifnull 21, 3) := by decide +kernel
theorem d0_9 : decode prog_138_method_12_code 9 = .ok (.aload_n 1, 1) := by decide +kernel
theorem d0_10 : decode prog_138_method_12_code 10 = .ok (.getfield 129, 3) := by decide +kernel
theorem d0_13 : decode prog_138_method_12_code 13 = .ok (.getstatic 3, 3) := by decide +kernel
theorem d0_16 : decode prog_138_method_12_code 16 = .ok (.if_acmp .eq 11, 3) := by decide +kernel
theorem d0_19 : decode prog_138_method_12_code 19 = .ok (.aload_n 1, 1) := by decide +kernel
theorem d0_20 : decode prog_138_method_12_code 20 = .ok (.getfield 129, 3) := by decide +kernel
theorem d0_23 : decode prog_138_method_12_code 23 = .ok (.astore_n 1, 1) := by decide +kernel
theorem d0_24 : decode prog_138_method_12_code 24 = .ok (.goto (-22), 3) := by decide +kernel
theorem d0_27 : decode prog_138_method_12_code 27 = .ok (.aload_n 1, 1) := by decide +kernel
theorem d0_28 : decode prog_138_method_12_code 28 = .ok (.getfield 129, 3) := by decide +kernel
theorem d0_31 : decode prog_138_method_12_code 31 = .ok (.ifnonnull 7, 3) := by decide +kernel
theorem d0_34 : decode prog_138_method_12_code 34 = .ok (.aconst_null, 1) := by decide +kernel
theorem d0_35 : decode prog_138_method_12_code 35 = .ok (.goto 4, 3) := by decide +kernel
theorem d0_38 : decode prog_138_method_12_code 38 = .ok (.aload_n 1, 1) := by decide +kernel
theorem d0_39 : decode prog_138_method_12_code 39 = .ok (.areturn, 1) := by decide +kernel
theorem own_pn0 : plainFor (⟨"com/example/deep_query/deepquery/xdm/AtomicType", "primitive", "()Lcom/example/deep_query/deepquery/xdm/AtomicType;"⟩ : MethodName) = true := plainFor_of_name (by first | (simp [plainName, overriddenIn]; done) | decide +kernel)
theorem own_ef0 (r0 : Addr) (m : MethodId) : entryFrame m #[(.ref r0)] 2 = mkF m 0 #[.val (.ref r0), .unset] [] := by first | (simp [entryFrame, mkF, argsToLocals, Value.category]; done) | rfl
theorem own_pd0 : parseMethodDescriptor "()Lcom/example/deep_query/deepquery/xdm/AtomicType;" = some ⟨[], some (.object "com/example/deep_query/deepquery/xdm/AtomicType")⟩ := by decide +kernel
set_option maxRecDepth 65536 in
set_option maxHeartbeats 40000000 in
theorem own_rm0 (l : Launch) (Z : State) (a0 : Array Value) (hw : ∀ d ∈ tables_1, d.before a0 Z = true) (r0 : Addr) (h0 : Heap) (n0 : Nat) (Z0 : n0 ≤ h0.size) (any : Addr) (w : Value) (O0 : Old Z n0 h0) (S0 : Sta Z Z.heap "com/example/deep_query/deepquery/xdm/AtomicType" "ANY_ATOMIC_TYPE" "Lcom/example/deep_query/deepquery/xdm/AtomicType;" (.ref any)) (PC : PrimOK Z h0 any r0 w) :
    Met l Z (⟨"com/example/deep_query/deepquery/xdm/AtomicType", "primitive", "()Lcom/example/deep_query/deepquery/xdm/AtomicType;"⟩ : MethodName) prog_138_method_12_code 2 (some (.object "com/example/deep_query/deepquery/xdm/AtomicType")) [] ({ frames := 0, cells := 0, slots := 0, locals := 0 } : Room) #[(.ref r0)] h0 (fun v h L => v = some w ∧ Fr n0 L ∧ h = h0) := by
  refine met_of (Ls := #[.val (.ref r0), .unset]) own_pn0 (own_ef0 r0) ?_
  intro p e s m below meth c s₁ hx hby hml hown hnm hret hlk hZ X0 e0
  have N0 := Fr.nil n0
  have loop : ∀ (ys : List Addr) (x r : Addr) (T : State), Stand p l e ({ frames := 0, cells := 0, slots := 0, locals := 0 } : Room) s m #[(.ref r0)] below meth c T [] 0 0 → T.heap = h0 → Chain Z h0 any x ys r → w = .ref r → Go p e below s ({ frames := 0, cells := 0, slots := 0, locals := 0 } : Room).cells ({ frames := 0, cells := 0, slots := 0, locals := 0 } : Room).slots (fun v h L => v = some w ∧ Fr n0 L ∧ h = h0) T (mkF m 2 #[.val (.ref r0), .val (.ref x)] []) := by
    intro ys
    induction ys with
    | nil =>
      intro x r T X eT hc hw0
      obtain ⟨rfl, F⟩ := hc
      show Go _ _ _ _ _ _ _ T (mkF m 2 #[.val (.ref r0), .val (.ref r)] [])
      refine gAloadN X hx (hb hby d0_2) rfl rfl ?_
      refine gGetF X hx hZ hown (tw hw 76 rfl) eT F (hb hby d0_3) ?_
      intro T1 X1 e1
      show Go _ _ _ _ _ _ _ T1 (mkF m 6 #[.val (.ref r0), .val (.ref r)] [(.ref any)])
      refine gNullN X1 hx (hb hby d0_6) ?_
      show Go _ _ _ _ _ _ _ T1 (mkF m 9 #[.val (.ref r0), .val (.ref r)] [])
      refine gAloadN X1 hx (hb hby d0_9) rfl rfl ?_
      refine gGetF X1 hx hZ hown (tw hw 76 rfl) e1 F (hb hby d0_10) ?_
      intro T2 X2 e2
      show Go _ _ _ _ _ _ _ T2 (mkF m 13 #[.val (.ref r0), .val (.ref r)] [(.ref any)])
      refine gGetS X2 hx hZ hown (tw hw 82 rfl) e2 (S0.ext O0.2) (hb hby d0_13) ?_
      intro T3 X3 e3
      show Go _ _ _ _ _ _ _ T3 (mkF m 16 #[.val (.ref r0), .val (.ref r)] [(.ref any), (.ref any)])
      refine gAcmpEq X3 hx 27 (hb hby d0_16) (by decide) (by decide) (fun _ => ?_) (fun q => absurd rfl q)
      show Go _ _ _ _ _ _ _ T3 (mkF m 27 #[.val (.ref r0), .val (.ref r)] [])
      refine gAloadN X3 hx (hb hby d0_27) rfl rfl ?_
      refine gGetF X3 hx hZ hown (tw hw 76 rfl) e3 F (hb hby d0_28) ?_
      intro T5 X5 e5
      show Go _ _ _ _ _ _ _ T5 (mkF m 31 #[.val (.ref r0), .val (.ref r)] [(.ref any)])
      refine gNonNull X5 hx 38 (hb hby d0_31) (by decide) (by decide) ?_
      show Go _ _ _ _ _ _ _ T5 (mkF m 38 #[.val (.ref r0), .val (.ref r)] [])
      refine gAloadN X5 hx (hb hby d0_38) rfl rfl ?_
      exact gRetA X5 hx hlk hret rfl rfl rfl (hb hby d0_39) (by decide) (by decide) ⟨congrArg some hw0.symm, N0, e5⟩
    | cons y ys ih =>
      intro x r T X eT hc hw0
      obtain ⟨F, hne, hc⟩ := hc
      show Go _ _ _ _ _ _ _ T (mkF m 2 #[.val (.ref r0), .val (.ref x)] [])
      refine gAloadN X hx (hb hby d0_2) rfl rfl ?_
      refine gGetF X hx hZ hown (tw hw 76 rfl) eT F (hb hby d0_3) ?_
      intro T6 X6 e6
      show Go _ _ _ _ _ _ _ T6 (mkF m 6 #[.val (.ref r0), .val (.ref x)] [(.ref y)])
      refine gNullN X6 hx (hb hby d0_6) ?_
      show Go _ _ _ _ _ _ _ T6 (mkF m 9 #[.val (.ref r0), .val (.ref x)] [])
      refine gAloadN X6 hx (hb hby d0_9) rfl rfl ?_
      refine gGetF X6 hx hZ hown (tw hw 76 rfl) e6 F (hb hby d0_10) ?_
      intro T7 X7 e7
      show Go _ _ _ _ _ _ _ T7 (mkF m 13 #[.val (.ref r0), .val (.ref x)] [(.ref y)])
      refine gGetS X7 hx hZ hown (tw hw 82 rfl) e7 (S0.ext O0.2) (hb hby d0_13) ?_
      intro T8 X8 e8
      show Go _ _ _ _ _ _ _ T8 (mkF m 16 #[.val (.ref r0), .val (.ref x)] [(.ref any), (.ref y)])
      refine gAcmpEq X8 hx 27 (hb hby d0_16) (by decide) (by decide) (fun q => absurd q hne) (fun _ => ?_)
      show Go _ _ _ _ _ _ _ T8 (mkF m 19 #[.val (.ref r0), .val (.ref x)] [])
      refine gAloadN X8 hx (hb hby d0_19) rfl rfl ?_
      refine gGetF X8 hx hZ hown (tw hw 76 rfl) e8 F (hb hby d0_20) ?_
      intro T10 X10 e10
      show Go _ _ _ _ _ _ _ T10 (mkF m 23 #[.val (.ref r0), .val (.ref x)] [(.ref y)])
      refine gAstoreN X10 hx #[.val (.ref r0), .val (.ref y)] (hb hby d0_23) rfl rfl ?_
      refine gGoto X10 hx 2 (hb hby d0_24) (by decide) (by decide) ?_
      exact ih y r T10 X10 e10 hc hw0
  rcases PC with ⟨hw0, F⟩ | ⟨ys, r, hw0, hc⟩
  · skip
    show Go _ _ _ _ _ _ _ s₁ (mkF m 0 #[.val (.ref r0), .unset] [])
    refine gAloadN X0 hx (hb hby d0_0) rfl rfl ?_
    refine gAstoreN X0 hx #[.val (.ref r0), .val (.ref r0)] (hb hby d0_1) rfl rfl ?_
    refine gAloadN X0 hx (hb hby d0_2) rfl rfl ?_
    refine gGetF X0 hx hZ hown (tw hw 76 rfl) e0 F (hb hby d0_3) ?_
    intro T11 X11 e11
    show Go _ _ _ _ _ _ _ T11 (mkF m 6 #[.val (.ref r0), .val (.ref r0)] [.null])
    refine gNullY X11 hx 27 (hb hby d0_6) (by decide) (by decide)  ?_
    show Go _ _ _ _ _ _ _ T11 (mkF m 27 #[.val (.ref r0), .val (.ref r0)] [])
    refine gAloadN X11 hx (hb hby d0_27) rfl rfl ?_
    refine gGetF X11 hx hZ hown (tw hw 76 rfl) e11 F (hb hby d0_28) ?_
    intro T12 X12 e12
    show Go _ _ _ _ _ _ _ T12 (mkF m 31 #[.val (.ref r0), .val (.ref r0)] [.null])
    refine gNonNullN X12 hx (hb hby d0_31) ?_
    show Go _ _ _ _ _ _ _ T12 (mkF m 34 #[.val (.ref r0), .val (.ref r0)] [])
    refine gNull X12 hx (hb hby d0_34) ?_
    refine gGoto X12 hx 39 (hb hby d0_35) (by decide) (by decide) ?_
    exact gRetA X12 hx hlk hret rfl rfl rfl (hb hby d0_39) (by decide) (by decide) ⟨congrArg some hw0.symm, N0, e12⟩
  · skip
    show Go _ _ _ _ _ _ _ s₁ (mkF m 0 #[.val (.ref r0), .unset] [])
    refine gAloadN X0 hx (hb hby d0_0) rfl rfl ?_
    refine gAstoreN X0 hx #[.val (.ref r0), .val (.ref r0)] (hb hby d0_1) rfl rfl ?_
    exact loop ys r0 r s₁ X0 e0 hc hw0
def own_exp (a : Nat → Addr) (x : Int32) : Value := if x = (0 : Int32) then .null else if x = (1 : Int32) then .ref (a 1) else if (11 : Int32) < x then (if x = (12 : Int32) then .ref (a 12) else if (26 : Int32) < x then (if x = (27 : Int32) then .ref (a 27) else if x = (28 : Int32) then .ref (a 28) else if x = (29 : Int32) then .ref (a 29) else if x = (30 : Int32) then .ref (a 30) else if x = (31 : Int32) then .ref (a 31) else .ref (a 32)) else .ref (a 13)) else .ref (a 2)
theorem own_expR (a : Nat → Addr) (x : Int32) : (own_exp a x).isRef = true := by
  unfold own_exp
  repeat' split
  all_goals rfl
theorem d1_0 : decode method_3_code 0 = .ok (.iload_n 0, 1) := by decide +kernel
theorem d1_1 : decode method_3_code 1 = .ok (.ifCond .ne 5, 3) := by decide +kernel
theorem d1_4 : decode method_3_code 4 = .ok (.aconst_null, 1) := by decide +kernel
theorem d1_5 : decode method_3_code 5 = .ok (.areturn, 1) := by decide +kernel
theorem d1_6 : decode method_3_code 6 = .ok (.iload_n 0, 1) := by decide +kernel
theorem d1_7 : decode method_3_code 7 = .ok (.iconst 1, 1) := by decide +kernel
theorem d1_8 : decode method_3_code 8 = .ok (.if_icmp .ne 7, 3) := by decide +kernel
theorem d1_11 : decode method_3_code 11 = .ok (.getstatic 13, 3) := by decide +kernel
theorem d1_14 : decode method_3_code 14 = .ok (.areturn, 1) := by decide +kernel
theorem d1_15 : decode method_3_code 15 = .ok (.iload_n 0, 1) := by decide +kernel
theorem d1_16 : decode method_3_code 16 = .ok (.bipush 11, 2) := by decide +kernel
theorem d1_18 : decode method_3_code 18 = .ok (.if_icmp .gt 7, 3) := by decide +kernel
theorem d1_21 : decode method_3_code 21 = .ok (.getstatic 16, 3) := by decide +kernel
theorem d1_24 : decode method_3_code 24 = .ok (.areturn, 1) := by decide +kernel
theorem d1_25 : decode method_3_code 25 = .ok (.iload_n 0, 1) := by decide +kernel
theorem d1_26 : decode method_3_code 26 = .ok (.bipush 12, 2) := by decide +kernel
theorem d1_28 : decode method_3_code 28 = .ok (.if_icmp .ne 7, 3) := by decide +kernel
theorem d1_31 : decode method_3_code 31 = .ok (.getstatic 46, 3) := by decide +kernel
theorem d1_34 : decode method_3_code 34 = .ok (.areturn, 1) := by decide +kernel
theorem d1_35 : decode method_3_code 35 = .ok (.iload_n 0, 1) := by decide +kernel
theorem d1_36 : decode method_3_code 36 = .ok (.bipush 26, 2) := by decide +kernel
theorem d1_38 : decode method_3_code 38 = .ok (.if_icmp .gt 7, 3) := by decide +kernel
theorem d1_41 : decode method_3_code 41 = .ok (.getstatic 49, 3) := by decide +kernel
theorem d1_44 : decode method_3_code 44 = .ok (.areturn, 1) := by decide +kernel
theorem d1_45 : decode method_3_code 45 = .ok (.iload_n 0, 1) := by decide +kernel
theorem d1_46 : decode method_3_code 46 = .ok (.bipush 27, 2) := by decide +kernel
theorem d1_48 : decode method_3_code 48 = .ok (.if_icmp .ne 7, 3) := by decide +kernel
theorem d1_51 : decode method_3_code 51 = .ok (.getstatic 91, 3) := by decide +kernel
theorem d1_54 : decode method_3_code 54 = .ok (.areturn, 1) := by decide +kernel
theorem d1_55 : decode method_3_code 55 = .ok (.iload_n 0, 1) := by decide +kernel
theorem d1_56 : decode method_3_code 56 = .ok (.bipush 28, 2) := by decide +kernel
theorem d1_58 : decode method_3_code 58 = .ok (.if_icmp .ne 7, 3) := by decide +kernel
theorem d1_61 : decode method_3_code 61 = .ok (.getstatic 94, 3) := by decide +kernel
theorem d1_64 : decode method_3_code 64 = .ok (.areturn, 1) := by decide +kernel
theorem d1_65 : decode method_3_code 65 = .ok (.iload_n 0, 1) := by decide +kernel
theorem d1_66 : decode method_3_code 66 = .ok (.bipush 29, 2) := by decide +kernel
theorem d1_68 : decode method_3_code 68 = .ok (.if_icmp .ne 7, 3) := by decide +kernel
theorem d1_71 : decode method_3_code 71 = .ok (.getstatic 97, 3) := by decide +kernel
theorem d1_74 : decode method_3_code 74 = .ok (.areturn, 1) := by decide +kernel
theorem d1_75 : decode method_3_code 75 = .ok (.iload_n 0, 1) := by decide +kernel
theorem d1_76 : decode method_3_code 76 = .ok (.bipush 30, 2) := by decide +kernel
theorem d1_78 : decode method_3_code 78 = .ok (.if_icmp .ne 7, 3) := by decide +kernel
theorem d1_81 : decode method_3_code 81 = .ok (.getstatic 100, 3) := by decide +kernel
theorem d1_84 : decode method_3_code 84 = .ok (.areturn, 1) := by decide +kernel
theorem d1_85 : decode method_3_code 85 = .ok (.iload_n 0, 1) := by decide +kernel
theorem d1_86 : decode method_3_code 86 = .ok (.bipush 31, 2) := by decide +kernel
theorem d1_88 : decode method_3_code 88 = .ok (.if_icmp .ne 7, 3) := by decide +kernel
theorem d1_91 : decode method_3_code 91 = .ok (.getstatic 103, 3) := by decide +kernel
theorem d1_94 : decode method_3_code 94 = .ok (.areturn, 1) := by decide +kernel
theorem d1_95 : decode method_3_code 95 = .ok (.getstatic 106, 3) := by decide +kernel
theorem d1_98 : decode method_3_code 98 = .ok (.areturn, 1) := by decide +kernel
theorem own_pn1 : plainFor (⟨"com/example/deep_query/deepquery/xdm/AtomicTypePrimitivePinLaw", "expected", "(I)Lcom/example/deep_query/deepquery/xdm/AtomicType;"⟩ : MethodName) = true := plainFor_of_name (by first | (simp [plainName, overriddenIn]; done) | decide +kernel)
theorem own_ef1 (p0 : Int32) (m : MethodId) : entryFrame m #[(.int p0)] 1 = mkF m 0 #[.val (.int p0)] [] := by first | (simp [entryFrame, mkF, argsToLocals, Value.category]; done) | rfl
theorem own_pd1 : parseMethodDescriptor "(I)Lcom/example/deep_query/deepquery/xdm/AtomicType;" = some ⟨[.int], some (.object "com/example/deep_query/deepquery/xdm/AtomicType")⟩ := by decide +kernel
set_option maxRecDepth 65536 in
set_option maxHeartbeats 40000000 in
theorem own_rm1 (l : Launch) (Z : State) (a0 : Array Value) (hw : ∀ d ∈ tables_1, d.before a0 Z = true) (a : Nat → Addr) (p0 : Int32) (h0 : Heap) (n0 : Nat) (Z0 : n0 ≤ h0.size) (O0 : Old Z n0 h0) (S1 : Sta Z Z.heap "com/example/deep_query/deepquery/xdm/AtomicType" "UNTYPED_ATOMIC" "Lcom/example/deep_query/deepquery/xdm/AtomicType;" (.ref (a 1))) (S2 : Sta Z Z.heap "com/example/deep_query/deepquery/xdm/AtomicType" "STRING" "Lcom/example/deep_query/deepquery/xdm/AtomicType;" (.ref (a 2))) (S12 : Sta Z Z.heap "com/example/deep_query/deepquery/xdm/AtomicType" "BOOLEAN" "Lcom/example/deep_query/deepquery/xdm/AtomicType;" (.ref (a 12))) (S13 : Sta Z Z.heap "com/example/deep_query/deepquery/xdm/AtomicType" "DECIMAL" "Lcom/example/deep_query/deepquery/xdm/AtomicType;" (.ref (a 13))) (S27 : Sta Z Z.heap "com/example/deep_query/deepquery/xdm/AtomicType" "FLOAT" "Lcom/example/deep_query/deepquery/xdm/AtomicType;" (.ref (a 27))) (S28 : Sta Z Z.heap "com/example/deep_query/deepquery/xdm/AtomicType" "DOUBLE" "Lcom/example/deep_query/deepquery/xdm/AtomicType;" (.ref (a 28))) (S29 : Sta Z Z.heap "com/example/deep_query/deepquery/xdm/AtomicType" "ANY_URI" "Lcom/example/deep_query/deepquery/xdm/AtomicType;" (.ref (a 29))) (S30 : Sta Z Z.heap "com/example/deep_query/deepquery/xdm/AtomicType" "QNAME" "Lcom/example/deep_query/deepquery/xdm/AtomicType;" (.ref (a 30))) (S31 : Sta Z Z.heap "com/example/deep_query/deepquery/xdm/AtomicType" "HEX_BINARY" "Lcom/example/deep_query/deepquery/xdm/AtomicType;" (.ref (a 31))) (S32 : Sta Z Z.heap "com/example/deep_query/deepquery/xdm/AtomicType" "BASE64_BINARY" "Lcom/example/deep_query/deepquery/xdm/AtomicType;" (.ref (a 32))) :
    Met l Z (⟨"com/example/deep_query/deepquery/xdm/AtomicTypePrimitivePinLaw", "expected", "(I)Lcom/example/deep_query/deepquery/xdm/AtomicType;"⟩ : MethodName) method_3_code 1 (some (.object "com/example/deep_query/deepquery/xdm/AtomicType")) [] ({ frames := 0, cells := 0, slots := 0, locals := 0 } : Room) #[(.int p0)] h0 (fun v h L => v = some (own_exp a p0) ∧ Fr n0 L ∧ h = h0) := by
  refine met_of (Ls := #[.val (.int p0)]) own_pn1 (own_ef1 p0) ?_
  intro p e s m below meth c s₁ hx hby hml hown hnm hret hlk hZ X0 e0
  have N0 := Fr.nil n0
  refine gIloadN X0 hx (hb hby d1_0) rfl ?_
  refine gIf X0 hx 6 (hb hby d1_1) (by decide) (by decide) (fun hT => ?_) (fun hT => ?_)
  · have hc1 := o_neT hT
    show Go _ _ _ _ _ _ _ s₁ (mkF m 6 #[.val (.int p0)] [])
    refine gIloadN X0 hx (hb hby d1_6) rfl ?_
    refine gIconst X0 hx (1 : Int32) (hb hby d1_7) rfl ?_
    refine gIcmp X0 hx 15 (hb hby d1_8) (by decide) (by decide) (fun hT => ?_) (fun hT => ?_)
    · have hc2 := o_neT hT
      show Go _ _ _ _ _ _ _ s₁ (mkF m 15 #[.val (.int p0)] [])
      refine gIloadN X0 hx (hb hby d1_15) rfl ?_
      refine gBipush X0 hx (11 : Int32) (hb hby d1_16) rfl ?_
      refine gIcmp X0 hx 25 (hb hby d1_18) (by decide) (by decide) (fun hT => ?_) (fun hT => ?_)
      · have hc3 := o_gtT hT
        show Go _ _ _ _ _ _ _ s₁ (mkF m 25 #[.val (.int p0)] [])
        refine gIloadN X0 hx (hb hby d1_25) rfl ?_
        refine gBipush X0 hx (12 : Int32) (hb hby d1_26) rfl ?_
        refine gIcmp X0 hx 35 (hb hby d1_28) (by decide) (by decide) (fun hT => ?_) (fun hT => ?_)
        · have hc4 := o_neT hT
          show Go _ _ _ _ _ _ _ s₁ (mkF m 35 #[.val (.int p0)] [])
          refine gIloadN X0 hx (hb hby d1_35) rfl ?_
          refine gBipush X0 hx (26 : Int32) (hb hby d1_36) rfl ?_
          refine gIcmp X0 hx 45 (hb hby d1_38) (by decide) (by decide) (fun hT => ?_) (fun hT => ?_)
          · have hc5 := o_gtT hT
            show Go _ _ _ _ _ _ _ s₁ (mkF m 45 #[.val (.int p0)] [])
            refine gIloadN X0 hx (hb hby d1_45) rfl ?_
            refine gBipush X0 hx (27 : Int32) (hb hby d1_46) rfl ?_
            refine gIcmp X0 hx 55 (hb hby d1_48) (by decide) (by decide) (fun hT => ?_) (fun hT => ?_)
            · have hc6 := o_neT hT
              show Go _ _ _ _ _ _ _ s₁ (mkF m 55 #[.val (.int p0)] [])
              refine gIloadN X0 hx (hb hby d1_55) rfl ?_
              refine gBipush X0 hx (28 : Int32) (hb hby d1_56) rfl ?_
              refine gIcmp X0 hx 65 (hb hby d1_58) (by decide) (by decide) (fun hT => ?_) (fun hT => ?_)
              · have hc7 := o_neT hT
                show Go _ _ _ _ _ _ _ s₁ (mkF m 65 #[.val (.int p0)] [])
                refine gIloadN X0 hx (hb hby d1_65) rfl ?_
                refine gBipush X0 hx (29 : Int32) (hb hby d1_66) rfl ?_
                refine gIcmp X0 hx 75 (hb hby d1_68) (by decide) (by decide) (fun hT => ?_) (fun hT => ?_)
                · have hc8 := o_neT hT
                  show Go _ _ _ _ _ _ _ s₁ (mkF m 75 #[.val (.int p0)] [])
                  refine gIloadN X0 hx (hb hby d1_75) rfl ?_
                  refine gBipush X0 hx (30 : Int32) (hb hby d1_76) rfl ?_
                  refine gIcmp X0 hx 85 (hb hby d1_78) (by decide) (by decide) (fun hT => ?_) (fun hT => ?_)
                  · have hc9 := o_neT hT
                    show Go _ _ _ _ _ _ _ s₁ (mkF m 85 #[.val (.int p0)] [])
                    refine gIloadN X0 hx (hb hby d1_85) rfl ?_
                    refine gBipush X0 hx (31 : Int32) (hb hby d1_86) rfl ?_
                    refine gIcmp X0 hx 95 (hb hby d1_88) (by decide) (by decide) (fun hT => ?_) (fun hT => ?_)
                    · have hc10 := o_neT hT
                      show Go _ _ _ _ _ _ _ s₁ (mkF m 95 #[.val (.int p0)] [])
                      refine gGetS X0 hx hZ hown (tw hw 68 rfl) e0 (S32.ext O0.2) (hb hby d1_95) ?_
                      intro T11 X11 e11
                      show Go _ _ _ _ _ _ _ T11 (mkF m 98 #[.val (.int p0)] [(.ref (a 32))])
                      exact gRetA X11 hx hlk hret rfl rfl rfl (hb hby d1_98) (by decide) (by decide) ⟨congrArg some (show own_exp a p0 = (.ref (a 32)) from ((if_neg hc1).trans ((if_neg hc2).trans ((if_pos hc3).trans ((if_neg hc4).trans ((if_pos hc5).trans ((if_neg hc6).trans ((if_neg hc7).trans ((if_neg hc8).trans ((if_neg hc9).trans (if_neg hc10))))))))))).symm, N0, e11⟩
                    · have hc10 := o_neF hT
                      show Go _ _ _ _ _ _ _ s₁ (mkF m 91 #[.val (.int p0)] [])
                      refine gGetS X0 hx hZ hown (tw hw 66 rfl) e0 (S31.ext O0.2) (hb hby d1_91) ?_
                      intro T12 X12 e12
                      show Go _ _ _ _ _ _ _ T12 (mkF m 94 #[.val (.int p0)] [(.ref (a 31))])
                      exact gRetA X12 hx hlk hret rfl rfl rfl (hb hby d1_94) (by decide) (by decide) ⟨congrArg some (show own_exp a p0 = (.ref (a 31)) from ((if_neg hc1).trans ((if_neg hc2).trans ((if_pos hc3).trans ((if_neg hc4).trans ((if_pos hc5).trans ((if_neg hc6).trans ((if_neg hc7).trans ((if_neg hc8).trans ((if_neg hc9).trans (if_pos hc10))))))))))).symm, N0, e12⟩
                  · have hc9 := o_neF hT
                    show Go _ _ _ _ _ _ _ s₁ (mkF m 81 #[.val (.int p0)] [])
                    refine gGetS X0 hx hZ hown (tw hw 64 rfl) e0 (S30.ext O0.2) (hb hby d1_81) ?_
                    intro T13 X13 e13
                    show Go _ _ _ _ _ _ _ T13 (mkF m 84 #[.val (.int p0)] [(.ref (a 30))])
                    exact gRetA X13 hx hlk hret rfl rfl rfl (hb hby d1_84) (by decide) (by decide) ⟨congrArg some (show own_exp a p0 = (.ref (a 30)) from ((if_neg hc1).trans ((if_neg hc2).trans ((if_pos hc3).trans ((if_neg hc4).trans ((if_pos hc5).trans ((if_neg hc6).trans ((if_neg hc7).trans ((if_neg hc8).trans (if_pos hc9)))))))))).symm, N0, e13⟩
                · have hc8 := o_neF hT
                  show Go _ _ _ _ _ _ _ s₁ (mkF m 71 #[.val (.int p0)] [])
                  refine gGetS X0 hx hZ hown (tw hw 62 rfl) e0 (S29.ext O0.2) (hb hby d1_71) ?_
                  intro T14 X14 e14
                  show Go _ _ _ _ _ _ _ T14 (mkF m 74 #[.val (.int p0)] [(.ref (a 29))])
                  exact gRetA X14 hx hlk hret rfl rfl rfl (hb hby d1_74) (by decide) (by decide) ⟨congrArg some (show own_exp a p0 = (.ref (a 29)) from ((if_neg hc1).trans ((if_neg hc2).trans ((if_pos hc3).trans ((if_neg hc4).trans ((if_pos hc5).trans ((if_neg hc6).trans ((if_neg hc7).trans (if_pos hc8))))))))).symm, N0, e14⟩
              · have hc7 := o_neF hT
                show Go _ _ _ _ _ _ _ s₁ (mkF m 61 #[.val (.int p0)] [])
                refine gGetS X0 hx hZ hown (tw hw 60 rfl) e0 (S28.ext O0.2) (hb hby d1_61) ?_
                intro T15 X15 e15
                show Go _ _ _ _ _ _ _ T15 (mkF m 64 #[.val (.int p0)] [(.ref (a 28))])
                exact gRetA X15 hx hlk hret rfl rfl rfl (hb hby d1_64) (by decide) (by decide) ⟨congrArg some (show own_exp a p0 = (.ref (a 28)) from ((if_neg hc1).trans ((if_neg hc2).trans ((if_pos hc3).trans ((if_neg hc4).trans ((if_pos hc5).trans ((if_neg hc6).trans (if_pos hc7)))))))).symm, N0, e15⟩
            · have hc6 := o_neF hT
              show Go _ _ _ _ _ _ _ s₁ (mkF m 51 #[.val (.int p0)] [])
              refine gGetS X0 hx hZ hown (tw hw 58 rfl) e0 (S27.ext O0.2) (hb hby d1_51) ?_
              intro T16 X16 e16
              show Go _ _ _ _ _ _ _ T16 (mkF m 54 #[.val (.int p0)] [(.ref (a 27))])
              exact gRetA X16 hx hlk hret rfl rfl rfl (hb hby d1_54) (by decide) (by decide) ⟨congrArg some (show own_exp a p0 = (.ref (a 27)) from ((if_neg hc1).trans ((if_neg hc2).trans ((if_pos hc3).trans ((if_neg hc4).trans ((if_pos hc5).trans (if_pos hc6))))))).symm, N0, e16⟩
          · have hc5 := o_gtF hT
            show Go _ _ _ _ _ _ _ s₁ (mkF m 41 #[.val (.int p0)] [])
            refine gGetS X0 hx hZ hown (tw hw 30 rfl) e0 (S13.ext O0.2) (hb hby d1_41) ?_
            intro T17 X17 e17
            show Go _ _ _ _ _ _ _ T17 (mkF m 44 #[.val (.int p0)] [(.ref (a 13))])
            exact gRetA X17 hx hlk hret rfl rfl rfl (hb hby d1_44) (by decide) (by decide) ⟨congrArg some (show own_exp a p0 = (.ref (a 13)) from ((if_neg hc1).trans ((if_neg hc2).trans ((if_pos hc3).trans ((if_neg hc4).trans (if_neg hc5)))))).symm, N0, e17⟩
        · have hc4 := o_neF hT
          show Go _ _ _ _ _ _ _ s₁ (mkF m 31 #[.val (.int p0)] [])
          refine gGetS X0 hx hZ hown (tw hw 28 rfl) e0 (S12.ext O0.2) (hb hby d1_31) ?_
          intro T18 X18 e18
          show Go _ _ _ _ _ _ _ T18 (mkF m 34 #[.val (.int p0)] [(.ref (a 12))])
          exact gRetA X18 hx hlk hret rfl rfl rfl (hb hby d1_34) (by decide) (by decide) ⟨congrArg some (show own_exp a p0 = (.ref (a 12)) from ((if_neg hc1).trans ((if_neg hc2).trans ((if_pos hc3).trans (if_pos hc4))))).symm, N0, e18⟩
      · have hc3 := o_gtF hT
        show Go _ _ _ _ _ _ _ s₁ (mkF m 21 #[.val (.int p0)] [])
        refine gGetS X0 hx hZ hown (tw hw 8 rfl) e0 (S2.ext O0.2) (hb hby d1_21) ?_
        intro T19 X19 e19
        show Go _ _ _ _ _ _ _ T19 (mkF m 24 #[.val (.int p0)] [(.ref (a 2))])
        exact gRetA X19 hx hlk hret rfl rfl rfl (hb hby d1_24) (by decide) (by decide) ⟨congrArg some (show own_exp a p0 = (.ref (a 2)) from ((if_neg hc1).trans ((if_neg hc2).trans (if_neg hc3)))).symm, N0, e19⟩
    · have hc2 := o_neF hT
      show Go _ _ _ _ _ _ _ s₁ (mkF m 11 #[.val (.int p0)] [])
      refine gGetS X0 hx hZ hown (tw hw 6 rfl) e0 (S1.ext O0.2) (hb hby d1_11) ?_
      intro T20 X20 e20
      show Go _ _ _ _ _ _ _ T20 (mkF m 14 #[.val (.int p0)] [(.ref (a 1))])
      exact gRetA X20 hx hlk hret rfl rfl rfl (hb hby d1_14) (by decide) (by decide) ⟨congrArg some (show own_exp a p0 = (.ref (a 1)) from ((if_neg hc1).trans (if_pos hc2))).symm, N0, e20⟩
  · have hc1 := o_neF hT
    show Go _ _ _ _ _ _ _ s₁ (mkF m 4 #[.val (.int p0)] [])
    refine gNull X0 hx (hb hby d1_4) ?_
    exact gRetA X0 hx hlk hret rfl rfl rfl (hb hby d1_5) (by decide) (by decide) ⟨congrArg some (show own_exp a p0 = .null from (if_pos hc1)).symm, N0, e0⟩
set_option maxRecDepth 65536 in
set_option maxHeartbeats 40000000 in
theorem own_prim {Z : State} {h : Heap} {a : Nat → Addr} (B0 : Fld Z h (a 0) "com/example/deep_query/deepquery/xdm/AtomicType" "base" "Lcom/example/deep_query/deepquery/xdm/AtomicType;" .null) (B1 : Fld Z h (a 1) "com/example/deep_query/deepquery/xdm/AtomicType" "base" "Lcom/example/deep_query/deepquery/xdm/AtomicType;" (.ref (a 0))) (B2 : Fld Z h (a 2) "com/example/deep_query/deepquery/xdm/AtomicType" "base" "Lcom/example/deep_query/deepquery/xdm/AtomicType;" (.ref (a 0))) (B3 : Fld Z h (a 3) "com/example/deep_query/deepquery/xdm/AtomicType" "base" "Lcom/example/deep_query/deepquery/xdm/AtomicType;" (.ref (a 2))) (B4 : Fld Z h (a 4) "com/example/deep_query/deepquery/xdm/AtomicType" "base" "Lcom/example/deep_query/deepquery/xdm/AtomicType;" (.ref (a 3))) (B5 : Fld Z h (a 5) "com/example/deep_query/deepquery/xdm/AtomicType" "base" "Lcom/example/deep_query/deepquery/xdm/AtomicType;" (.ref (a 4))) (B6 : Fld Z h (a 6) "com/example/deep_query/deepquery/xdm/AtomicType" "base" "Lcom/example/deep_query/deepquery/xdm/AtomicType;" (.ref (a 4))) (B7 : Fld Z h (a 7) "com/example/deep_query/deepquery/xdm/AtomicType" "base" "Lcom/example/deep_query/deepquery/xdm/AtomicType;" (.ref (a 4))) (B8 : Fld Z h (a 8) "com/example/deep_query/deepquery/xdm/AtomicType" "base" "Lcom/example/deep_query/deepquery/xdm/AtomicType;" (.ref (a 7))) (B9 : Fld Z h (a 9) "com/example/deep_query/deepquery/xdm/AtomicType" "base" "Lcom/example/deep_query/deepquery/xdm/AtomicType;" (.ref (a 8))) (B10 : Fld Z h (a 10) "com/example/deep_query/deepquery/xdm/AtomicType" "base" "Lcom/example/deep_query/deepquery/xdm/AtomicType;" (.ref (a 8))) (B11 : Fld Z h (a 11) "com/example/deep_query/deepquery/xdm/AtomicType" "base" "Lcom/example/deep_query/deepquery/xdm/AtomicType;" (.ref (a 8))) (B12 : Fld Z h (a 12) "com/example/deep_query/deepquery/xdm/AtomicType" "base" "Lcom/example/deep_query/deepquery/xdm/AtomicType;" (.ref (a 0))) (B13 : Fld Z h (a 13) "com/example/deep_query/deepquery/xdm/AtomicType" "base" "Lcom/example/deep_query/deepquery/xdm/AtomicType;" (.ref (a 0))) (B14 : Fld Z h (a 14) "com/example/deep_query/deepquery/xdm/AtomicType" "base" "Lcom/example/deep_query/deepquery/xdm/AtomicType;" (.ref (a 13))) (B15 : Fld Z h (a 15) "com/example/deep_query/deepquery/xdm/AtomicType" "base" "Lcom/example/deep_query/deepquery/xdm/AtomicType;" (.ref (a 14))) (B16 : Fld Z h (a 16) "com/example/deep_query/deepquery/xdm/AtomicType" "base" "Lcom/example/deep_query/deepquery/xdm/AtomicType;" (.ref (a 15))) (B17 : Fld Z h (a 17) "com/example/deep_query/deepquery/xdm/AtomicType" "base" "Lcom/example/deep_query/deepquery/xdm/AtomicType;" (.ref (a 14))) (B18 : Fld Z h (a 18) "com/example/deep_query/deepquery/xdm/AtomicType" "base" "Lcom/example/deep_query/deepquery/xdm/AtomicType;" (.ref (a 17))) (B19 : Fld Z h (a 19) "com/example/deep_query/deepquery/xdm/AtomicType" "base" "Lcom/example/deep_query/deepquery/xdm/AtomicType;" (.ref (a 18))) (B20 : Fld Z h (a 20) "com/example/deep_query/deepquery/xdm/AtomicType" "base" "Lcom/example/deep_query/deepquery/xdm/AtomicType;" (.ref (a 19))) (B21 : Fld Z h (a 21) "com/example/deep_query/deepquery/xdm/AtomicType" "base" "Lcom/example/deep_query/deepquery/xdm/AtomicType;" (.ref (a 14))) (B22 : Fld Z h (a 22) "com/example/deep_query/deepquery/xdm/AtomicType" "base" "Lcom/example/deep_query/deepquery/xdm/AtomicType;" (.ref (a 21))) (B23 : Fld Z h (a 23) "com/example/deep_query/deepquery/xdm/AtomicType" "base" "Lcom/example/deep_query/deepquery/xdm/AtomicType;" (.ref (a 22))) (B24 : Fld Z h (a 24) "com/example/deep_query/deepquery/xdm/AtomicType" "base" "Lcom/example/deep_query/deepquery/xdm/AtomicType;" (.ref (a 23))) (B25 : Fld Z h (a 25) "com/example/deep_query/deepquery/xdm/AtomicType" "base" "Lcom/example/deep_query/deepquery/xdm/AtomicType;" (.ref (a 24))) (B26 : Fld Z h (a 26) "com/example/deep_query/deepquery/xdm/AtomicType" "base" "Lcom/example/deep_query/deepquery/xdm/AtomicType;" (.ref (a 21))) (B27 : Fld Z h (a 27) "com/example/deep_query/deepquery/xdm/AtomicType" "base" "Lcom/example/deep_query/deepquery/xdm/AtomicType;" (.ref (a 0))) (B28 : Fld Z h (a 28) "com/example/deep_query/deepquery/xdm/AtomicType" "base" "Lcom/example/deep_query/deepquery/xdm/AtomicType;" (.ref (a 0))) (B29 : Fld Z h (a 29) "com/example/deep_query/deepquery/xdm/AtomicType" "base" "Lcom/example/deep_query/deepquery/xdm/AtomicType;" (.ref (a 0))) (B30 : Fld Z h (a 30) "com/example/deep_query/deepquery/xdm/AtomicType" "base" "Lcom/example/deep_query/deepquery/xdm/AtomicType;" (.ref (a 0))) (B31 : Fld Z h (a 31) "com/example/deep_query/deepquery/xdm/AtomicType" "base" "Lcom/example/deep_query/deepquery/xdm/AtomicType;" (.ref (a 0))) (B32 : Fld Z h (a 32) "com/example/deep_query/deepquery/xdm/AtomicType" "base" "Lcom/example/deep_query/deepquery/xdm/AtomicType;" (.ref (a 0))) : ∀ i, i < 33 → PrimOK Z h (a 0) (a i) (own_exp a (Int32.ofNat i)) := by
  have ne1 : a 1 ≠ a 0 := Jvm.RoadKit.Fld.ne B1 B0 (by simp)
  have ne2 : a 2 ≠ a 0 := Jvm.RoadKit.Fld.ne B2 B0 (by simp)
  have ne3 : a 3 ≠ a 0 := Jvm.RoadKit.Fld.ne B3 B0 (by simp)
  have ne4 : a 4 ≠ a 0 := Jvm.RoadKit.Fld.ne B4 B0 (by simp)
  have ne5 : a 5 ≠ a 0 := Jvm.RoadKit.Fld.ne B5 B0 (by simp)
  have ne6 : a 6 ≠ a 0 := Jvm.RoadKit.Fld.ne B6 B0 (by simp)
  have ne7 : a 7 ≠ a 0 := Jvm.RoadKit.Fld.ne B7 B0 (by simp)
  have ne8 : a 8 ≠ a 0 := Jvm.RoadKit.Fld.ne B8 B0 (by simp)
  have ne9 : a 9 ≠ a 0 := Jvm.RoadKit.Fld.ne B9 B0 (by simp)
  have ne10 : a 10 ≠ a 0 := Jvm.RoadKit.Fld.ne B10 B0 (by simp)
  have ne11 : a 11 ≠ a 0 := Jvm.RoadKit.Fld.ne B11 B0 (by simp)
  have ne12 : a 12 ≠ a 0 := Jvm.RoadKit.Fld.ne B12 B0 (by simp)
  have ne13 : a 13 ≠ a 0 := Jvm.RoadKit.Fld.ne B13 B0 (by simp)
  have ne14 : a 14 ≠ a 0 := Jvm.RoadKit.Fld.ne B14 B0 (by simp)
  have ne15 : a 15 ≠ a 0 := Jvm.RoadKit.Fld.ne B15 B0 (by simp)
  have ne16 : a 16 ≠ a 0 := Jvm.RoadKit.Fld.ne B16 B0 (by simp)
  have ne17 : a 17 ≠ a 0 := Jvm.RoadKit.Fld.ne B17 B0 (by simp)
  have ne18 : a 18 ≠ a 0 := Jvm.RoadKit.Fld.ne B18 B0 (by simp)
  have ne19 : a 19 ≠ a 0 := Jvm.RoadKit.Fld.ne B19 B0 (by simp)
  have ne20 : a 20 ≠ a 0 := Jvm.RoadKit.Fld.ne B20 B0 (by simp)
  have ne21 : a 21 ≠ a 0 := Jvm.RoadKit.Fld.ne B21 B0 (by simp)
  have ne22 : a 22 ≠ a 0 := Jvm.RoadKit.Fld.ne B22 B0 (by simp)
  have ne23 : a 23 ≠ a 0 := Jvm.RoadKit.Fld.ne B23 B0 (by simp)
  have ne24 : a 24 ≠ a 0 := Jvm.RoadKit.Fld.ne B24 B0 (by simp)
  have ne25 : a 25 ≠ a 0 := Jvm.RoadKit.Fld.ne B25 B0 (by simp)
  have ne26 : a 26 ≠ a 0 := Jvm.RoadKit.Fld.ne B26 B0 (by simp)
  have ne27 : a 27 ≠ a 0 := Jvm.RoadKit.Fld.ne B27 B0 (by simp)
  have ne28 : a 28 ≠ a 0 := Jvm.RoadKit.Fld.ne B28 B0 (by simp)
  have ne29 : a 29 ≠ a 0 := Jvm.RoadKit.Fld.ne B29 B0 (by simp)
  have ne30 : a 30 ≠ a 0 := Jvm.RoadKit.Fld.ne B30 B0 (by simp)
  have ne31 : a 31 ≠ a 0 := Jvm.RoadKit.Fld.ne B31 B0 (by simp)
  have ne32 : a 32 ≠ a 0 := Jvm.RoadKit.Fld.ne B32 B0 (by simp)
  intro i hi
  have h33 : i = 0 ∨ i = 1 ∨ i = 2 ∨ i = 3 ∨ i = 4 ∨ i = 5 ∨ i = 6 ∨ i = 7 ∨ i = 8 ∨ i = 9 ∨ i = 10 ∨ i = 11 ∨ i = 12 ∨ i = 13 ∨ i = 14 ∨ i = 15 ∨ i = 16 ∨ i = 17 ∨ i = 18 ∨ i = 19 ∨ i = 20 ∨ i = 21 ∨ i = 22 ∨ i = 23 ∨ i = 24 ∨ i = 25 ∨ i = 26 ∨ i = 27 ∨ i = 28 ∨ i = 29 ∨ i = 30 ∨ i = 31 ∨ i = 32 := by omega
  rcases h33 with rfl | rfl | rfl | rfl | rfl | rfl | rfl | rfl | rfl | rfl | rfl | rfl | rfl | rfl | rfl | rfl | rfl | rfl | rfl | rfl | rfl | rfl | rfl | rfl | rfl | rfl | rfl | rfl | rfl | rfl | rfl | rfl | rfl
  · exact Or.inl ⟨rfl, B0⟩
  · exact Or.inr ⟨[], a 1, rfl, rfl, B1⟩
  · exact Or.inr ⟨[], a 2, rfl, rfl, B2⟩
  · exact Or.inr ⟨[a 2], a 2, rfl, B3, ne2, rfl, B2⟩
  · exact Or.inr ⟨[a 3, a 2], a 2, rfl, B4, ne3, B3, ne2, rfl, B2⟩
  · exact Or.inr ⟨[a 4, a 3, a 2], a 2, rfl, B5, ne4, B4, ne3, B3, ne2, rfl, B2⟩
  · exact Or.inr ⟨[a 4, a 3, a 2], a 2, rfl, B6, ne4, B4, ne3, B3, ne2, rfl, B2⟩
  · exact Or.inr ⟨[a 4, a 3, a 2], a 2, rfl, B7, ne4, B4, ne3, B3, ne2, rfl, B2⟩
  · exact Or.inr ⟨[a 7, a 4, a 3, a 2], a 2, rfl, B8, ne7, B7, ne4, B4, ne3, B3, ne2, rfl, B2⟩
  · exact Or.inr ⟨[a 8, a 7, a 4, a 3, a 2], a 2, rfl, B9, ne8, B8, ne7, B7, ne4, B4, ne3, B3, ne2, rfl, B2⟩
  · exact Or.inr ⟨[a 8, a 7, a 4, a 3, a 2], a 2, rfl, B10, ne8, B8, ne7, B7, ne4, B4, ne3, B3, ne2, rfl, B2⟩
  · exact Or.inr ⟨[a 8, a 7, a 4, a 3, a 2], a 2, rfl, B11, ne8, B8, ne7, B7, ne4, B4, ne3, B3, ne2, rfl, B2⟩
  · exact Or.inr ⟨[], a 12, rfl, rfl, B12⟩
  · exact Or.inr ⟨[], a 13, rfl, rfl, B13⟩
  · exact Or.inr ⟨[a 13], a 13, rfl, B14, ne13, rfl, B13⟩
  · exact Or.inr ⟨[a 14, a 13], a 13, rfl, B15, ne14, B14, ne13, rfl, B13⟩
  · exact Or.inr ⟨[a 15, a 14, a 13], a 13, rfl, B16, ne15, B15, ne14, B14, ne13, rfl, B13⟩
  · exact Or.inr ⟨[a 14, a 13], a 13, rfl, B17, ne14, B14, ne13, rfl, B13⟩
  · exact Or.inr ⟨[a 17, a 14, a 13], a 13, rfl, B18, ne17, B17, ne14, B14, ne13, rfl, B13⟩
  · exact Or.inr ⟨[a 18, a 17, a 14, a 13], a 13, rfl, B19, ne18, B18, ne17, B17, ne14, B14, ne13, rfl, B13⟩
  · exact Or.inr ⟨[a 19, a 18, a 17, a 14, a 13], a 13, rfl, B20, ne19, B19, ne18, B18, ne17, B17, ne14, B14, ne13, rfl, B13⟩
  · exact Or.inr ⟨[a 14, a 13], a 13, rfl, B21, ne14, B14, ne13, rfl, B13⟩
  · exact Or.inr ⟨[a 21, a 14, a 13], a 13, rfl, B22, ne21, B21, ne14, B14, ne13, rfl, B13⟩
  · exact Or.inr ⟨[a 22, a 21, a 14, a 13], a 13, rfl, B23, ne22, B22, ne21, B21, ne14, B14, ne13, rfl, B13⟩
  · exact Or.inr ⟨[a 23, a 22, a 21, a 14, a 13], a 13, rfl, B24, ne23, B23, ne22, B22, ne21, B21, ne14, B14, ne13, rfl, B13⟩
  · exact Or.inr ⟨[a 24, a 23, a 22, a 21, a 14, a 13], a 13, rfl, B25, ne24, B24, ne23, B23, ne22, B22, ne21, B21, ne14, B14, ne13, rfl, B13⟩
  · exact Or.inr ⟨[a 21, a 14, a 13], a 13, rfl, B26, ne21, B21, ne14, B14, ne13, rfl, B13⟩
  · exact Or.inr ⟨[], a 27, rfl, rfl, B27⟩
  · exact Or.inr ⟨[], a 28, rfl, rfl, B28⟩
  · exact Or.inr ⟨[], a 29, rfl, rfl, B29⟩
  · exact Or.inr ⟨[], a 30, rfl, rfl, B30⟩
  · exact Or.inr ⟨[], a 31, rfl, rfl, B31⟩
  · exact Or.inr ⟨[], a 32, rfl, rfl, B32⟩
theorem own_pn2 : plainFor x = true := plainFor_of_name (by first | (simp [plainName, overriddenIn]; done) | decide +kernel)
theorem own_ef2 (p0 : Int32) (m : MethodId) : entryFrame m #[(.int p0)] maxLocals = mkF m 0 #[.val (.int p0), .unset, .unset, .unset] [] := by first | (simp [entryFrame, mkF, argsToLocals, Value.category, maxLocals]; done) | rfl
theorem own_pd2 : parseMethodDescriptor "(I)Z" = some ⟨[.int], some .boolean⟩ := by decide +kernel
set_option maxRecDepth 65536 in
set_option maxHeartbeats 40000000 in
theorem own_rm2 (l : Launch) (Z : State) (a0 : Array Value) (hw : ∀ d ∈ tables_1, d.before a0 Z = true) (p0 : Int32) (h0 : Heap) (n0 : Nat) (Z0 : n0 ≤ h0.size) (a : Nat → Addr) (O0 : Old Z n0 h0) (S0 : Sta Z Z.heap "com/example/deep_query/deepquery/xdm/AtomicType" "ANY_ATOMIC_TYPE" "Lcom/example/deep_query/deepquery/xdm/AtomicType;" (.ref (a 0))) (S1 : Sta Z Z.heap "com/example/deep_query/deepquery/xdm/AtomicType" "UNTYPED_ATOMIC" "Lcom/example/deep_query/deepquery/xdm/AtomicType;" (.ref (a 1))) (S2 : Sta Z Z.heap "com/example/deep_query/deepquery/xdm/AtomicType" "STRING" "Lcom/example/deep_query/deepquery/xdm/AtomicType;" (.ref (a 2))) (S3 : Sta Z Z.heap "com/example/deep_query/deepquery/xdm/AtomicType" "NORMALIZED_STRING" "Lcom/example/deep_query/deepquery/xdm/AtomicType;" (.ref (a 3))) (S4 : Sta Z Z.heap "com/example/deep_query/deepquery/xdm/AtomicType" "TOKEN" "Lcom/example/deep_query/deepquery/xdm/AtomicType;" (.ref (a 4))) (S5 : Sta Z Z.heap "com/example/deep_query/deepquery/xdm/AtomicType" "LANGUAGE" "Lcom/example/deep_query/deepquery/xdm/AtomicType;" (.ref (a 5))) (S6 : Sta Z Z.heap "com/example/deep_query/deepquery/xdm/AtomicType" "NMTOKEN" "Lcom/example/deep_query/deepquery/xdm/AtomicType;" (.ref (a 6))) (S7 : Sta Z Z.heap "com/example/deep_query/deepquery/xdm/AtomicType" "NAME" "Lcom/example/deep_query/deepquery/xdm/AtomicType;" (.ref (a 7))) (S8 : Sta Z Z.heap "com/example/deep_query/deepquery/xdm/AtomicType" "NCNAME" "Lcom/example/deep_query/deepquery/xdm/AtomicType;" (.ref (a 8))) (S9 : Sta Z Z.heap "com/example/deep_query/deepquery/xdm/AtomicType" "ID" "Lcom/example/deep_query/deepquery/xdm/AtomicType;" (.ref (a 9))) (S10 : Sta Z Z.heap "com/example/deep_query/deepquery/xdm/AtomicType" "IDREF" "Lcom/example/deep_query/deepquery/xdm/AtomicType;" (.ref (a 10))) (S11 : Sta Z Z.heap "com/example/deep_query/deepquery/xdm/AtomicType" "ENTITY" "Lcom/example/deep_query/deepquery/xdm/AtomicType;" (.ref (a 11))) (S12 : Sta Z Z.heap "com/example/deep_query/deepquery/xdm/AtomicType" "BOOLEAN" "Lcom/example/deep_query/deepquery/xdm/AtomicType;" (.ref (a 12))) (S13 : Sta Z Z.heap "com/example/deep_query/deepquery/xdm/AtomicType" "DECIMAL" "Lcom/example/deep_query/deepquery/xdm/AtomicType;" (.ref (a 13))) (S14 : Sta Z Z.heap "com/example/deep_query/deepquery/xdm/AtomicType" "INTEGER" "Lcom/example/deep_query/deepquery/xdm/AtomicType;" (.ref (a 14))) (S15 : Sta Z Z.heap "com/example/deep_query/deepquery/xdm/AtomicType" "NON_POSITIVE_INTEGER" "Lcom/example/deep_query/deepquery/xdm/AtomicType;" (.ref (a 15))) (S16 : Sta Z Z.heap "com/example/deep_query/deepquery/xdm/AtomicType" "NEGATIVE_INTEGER" "Lcom/example/deep_query/deepquery/xdm/AtomicType;" (.ref (a 16))) (S17 : Sta Z Z.heap "com/example/deep_query/deepquery/xdm/AtomicType" "LONG" "Lcom/example/deep_query/deepquery/xdm/AtomicType;" (.ref (a 17))) (S18 : Sta Z Z.heap "com/example/deep_query/deepquery/xdm/AtomicType" "INT" "Lcom/example/deep_query/deepquery/xdm/AtomicType;" (.ref (a 18))) (S19 : Sta Z Z.heap "com/example/deep_query/deepquery/xdm/AtomicType" "SHORT" "Lcom/example/deep_query/deepquery/xdm/AtomicType;" (.ref (a 19))) (S20 : Sta Z Z.heap "com/example/deep_query/deepquery/xdm/AtomicType" "BYTE" "Lcom/example/deep_query/deepquery/xdm/AtomicType;" (.ref (a 20))) (S21 : Sta Z Z.heap "com/example/deep_query/deepquery/xdm/AtomicType" "NON_NEGATIVE_INTEGER" "Lcom/example/deep_query/deepquery/xdm/AtomicType;" (.ref (a 21))) (S22 : Sta Z Z.heap "com/example/deep_query/deepquery/xdm/AtomicType" "UNSIGNED_LONG" "Lcom/example/deep_query/deepquery/xdm/AtomicType;" (.ref (a 22))) (S23 : Sta Z Z.heap "com/example/deep_query/deepquery/xdm/AtomicType" "UNSIGNED_INT" "Lcom/example/deep_query/deepquery/xdm/AtomicType;" (.ref (a 23))) (S24 : Sta Z Z.heap "com/example/deep_query/deepquery/xdm/AtomicType" "UNSIGNED_SHORT" "Lcom/example/deep_query/deepquery/xdm/AtomicType;" (.ref (a 24))) (S25 : Sta Z Z.heap "com/example/deep_query/deepquery/xdm/AtomicType" "UNSIGNED_BYTE" "Lcom/example/deep_query/deepquery/xdm/AtomicType;" (.ref (a 25))) (S26 : Sta Z Z.heap "com/example/deep_query/deepquery/xdm/AtomicType" "POSITIVE_INTEGER" "Lcom/example/deep_query/deepquery/xdm/AtomicType;" (.ref (a 26))) (S27 : Sta Z Z.heap "com/example/deep_query/deepquery/xdm/AtomicType" "FLOAT" "Lcom/example/deep_query/deepquery/xdm/AtomicType;" (.ref (a 27))) (S28 : Sta Z Z.heap "com/example/deep_query/deepquery/xdm/AtomicType" "DOUBLE" "Lcom/example/deep_query/deepquery/xdm/AtomicType;" (.ref (a 28))) (S29 : Sta Z Z.heap "com/example/deep_query/deepquery/xdm/AtomicType" "ANY_URI" "Lcom/example/deep_query/deepquery/xdm/AtomicType;" (.ref (a 29))) (S30 : Sta Z Z.heap "com/example/deep_query/deepquery/xdm/AtomicType" "QNAME" "Lcom/example/deep_query/deepquery/xdm/AtomicType;" (.ref (a 30))) (S31 : Sta Z Z.heap "com/example/deep_query/deepquery/xdm/AtomicType" "HEX_BINARY" "Lcom/example/deep_query/deepquery/xdm/AtomicType;" (.ref (a 31))) (S32 : Sta Z Z.heap "com/example/deep_query/deepquery/xdm/AtomicType" "BASE64_BINARY" "Lcom/example/deep_query/deepquery/xdm/AtomicType;" (.ref (a 32))) (E0 : Exa Z Z.heap (a 0) "com/example/deep_query/deepquery/xdm/AtomicType") (E1 : Exa Z Z.heap (a 1) "com/example/deep_query/deepquery/xdm/AtomicType") (E2 : Exa Z Z.heap (a 2) "com/example/deep_query/deepquery/xdm/AtomicType") (E3 : Exa Z Z.heap (a 3) "com/example/deep_query/deepquery/xdm/AtomicType") (E4 : Exa Z Z.heap (a 4) "com/example/deep_query/deepquery/xdm/AtomicType") (E5 : Exa Z Z.heap (a 5) "com/example/deep_query/deepquery/xdm/AtomicType") (E6 : Exa Z Z.heap (a 6) "com/example/deep_query/deepquery/xdm/AtomicType") (E7 : Exa Z Z.heap (a 7) "com/example/deep_query/deepquery/xdm/AtomicType") (E8 : Exa Z Z.heap (a 8) "com/example/deep_query/deepquery/xdm/AtomicType") (E9 : Exa Z Z.heap (a 9) "com/example/deep_query/deepquery/xdm/AtomicType") (E10 : Exa Z Z.heap (a 10) "com/example/deep_query/deepquery/xdm/AtomicType") (E11 : Exa Z Z.heap (a 11) "com/example/deep_query/deepquery/xdm/AtomicType") (E12 : Exa Z Z.heap (a 12) "com/example/deep_query/deepquery/xdm/AtomicType") (E13 : Exa Z Z.heap (a 13) "com/example/deep_query/deepquery/xdm/AtomicType") (E14 : Exa Z Z.heap (a 14) "com/example/deep_query/deepquery/xdm/AtomicType") (E15 : Exa Z Z.heap (a 15) "com/example/deep_query/deepquery/xdm/AtomicType") (E16 : Exa Z Z.heap (a 16) "com/example/deep_query/deepquery/xdm/AtomicType") (E17 : Exa Z Z.heap (a 17) "com/example/deep_query/deepquery/xdm/AtomicType") (E18 : Exa Z Z.heap (a 18) "com/example/deep_query/deepquery/xdm/AtomicType") (E19 : Exa Z Z.heap (a 19) "com/example/deep_query/deepquery/xdm/AtomicType") (E20 : Exa Z Z.heap (a 20) "com/example/deep_query/deepquery/xdm/AtomicType") (E21 : Exa Z Z.heap (a 21) "com/example/deep_query/deepquery/xdm/AtomicType") (E22 : Exa Z Z.heap (a 22) "com/example/deep_query/deepquery/xdm/AtomicType") (E23 : Exa Z Z.heap (a 23) "com/example/deep_query/deepquery/xdm/AtomicType") (E24 : Exa Z Z.heap (a 24) "com/example/deep_query/deepquery/xdm/AtomicType") (E25 : Exa Z Z.heap (a 25) "com/example/deep_query/deepquery/xdm/AtomicType") (E26 : Exa Z Z.heap (a 26) "com/example/deep_query/deepquery/xdm/AtomicType") (E27 : Exa Z Z.heap (a 27) "com/example/deep_query/deepquery/xdm/AtomicType") (E28 : Exa Z Z.heap (a 28) "com/example/deep_query/deepquery/xdm/AtomicType") (E29 : Exa Z Z.heap (a 29) "com/example/deep_query/deepquery/xdm/AtomicType") (E30 : Exa Z Z.heap (a 30) "com/example/deep_query/deepquery/xdm/AtomicType") (E31 : Exa Z Z.heap (a 31) "com/example/deep_query/deepquery/xdm/AtomicType") (E32 : Exa Z Z.heap (a 32) "com/example/deep_query/deepquery/xdm/AtomicType") (B0 : Fld Z Z.heap (a 0) "com/example/deep_query/deepquery/xdm/AtomicType" "base" "Lcom/example/deep_query/deepquery/xdm/AtomicType;" .null) (B1 : Fld Z Z.heap (a 1) "com/example/deep_query/deepquery/xdm/AtomicType" "base" "Lcom/example/deep_query/deepquery/xdm/AtomicType;" (.ref (a 0))) (B2 : Fld Z Z.heap (a 2) "com/example/deep_query/deepquery/xdm/AtomicType" "base" "Lcom/example/deep_query/deepquery/xdm/AtomicType;" (.ref (a 0))) (B3 : Fld Z Z.heap (a 3) "com/example/deep_query/deepquery/xdm/AtomicType" "base" "Lcom/example/deep_query/deepquery/xdm/AtomicType;" (.ref (a 2))) (B4 : Fld Z Z.heap (a 4) "com/example/deep_query/deepquery/xdm/AtomicType" "base" "Lcom/example/deep_query/deepquery/xdm/AtomicType;" (.ref (a 3))) (B5 : Fld Z Z.heap (a 5) "com/example/deep_query/deepquery/xdm/AtomicType" "base" "Lcom/example/deep_query/deepquery/xdm/AtomicType;" (.ref (a 4))) (B6 : Fld Z Z.heap (a 6) "com/example/deep_query/deepquery/xdm/AtomicType" "base" "Lcom/example/deep_query/deepquery/xdm/AtomicType;" (.ref (a 4))) (B7 : Fld Z Z.heap (a 7) "com/example/deep_query/deepquery/xdm/AtomicType" "base" "Lcom/example/deep_query/deepquery/xdm/AtomicType;" (.ref (a 4))) (B8 : Fld Z Z.heap (a 8) "com/example/deep_query/deepquery/xdm/AtomicType" "base" "Lcom/example/deep_query/deepquery/xdm/AtomicType;" (.ref (a 7))) (B9 : Fld Z Z.heap (a 9) "com/example/deep_query/deepquery/xdm/AtomicType" "base" "Lcom/example/deep_query/deepquery/xdm/AtomicType;" (.ref (a 8))) (B10 : Fld Z Z.heap (a 10) "com/example/deep_query/deepquery/xdm/AtomicType" "base" "Lcom/example/deep_query/deepquery/xdm/AtomicType;" (.ref (a 8))) (B11 : Fld Z Z.heap (a 11) "com/example/deep_query/deepquery/xdm/AtomicType" "base" "Lcom/example/deep_query/deepquery/xdm/AtomicType;" (.ref (a 8))) (B12 : Fld Z Z.heap (a 12) "com/example/deep_query/deepquery/xdm/AtomicType" "base" "Lcom/example/deep_query/deepquery/xdm/AtomicType;" (.ref (a 0))) (B13 : Fld Z Z.heap (a 13) "com/example/deep_query/deepquery/xdm/AtomicType" "base" "Lcom/example/deep_query/deepquery/xdm/AtomicType;" (.ref (a 0))) (B14 : Fld Z Z.heap (a 14) "com/example/deep_query/deepquery/xdm/AtomicType" "base" "Lcom/example/deep_query/deepquery/xdm/AtomicType;" (.ref (a 13))) (B15 : Fld Z Z.heap (a 15) "com/example/deep_query/deepquery/xdm/AtomicType" "base" "Lcom/example/deep_query/deepquery/xdm/AtomicType;" (.ref (a 14))) (B16 : Fld Z Z.heap (a 16) "com/example/deep_query/deepquery/xdm/AtomicType" "base" "Lcom/example/deep_query/deepquery/xdm/AtomicType;" (.ref (a 15))) (B17 : Fld Z Z.heap (a 17) "com/example/deep_query/deepquery/xdm/AtomicType" "base" "Lcom/example/deep_query/deepquery/xdm/AtomicType;" (.ref (a 14))) (B18 : Fld Z Z.heap (a 18) "com/example/deep_query/deepquery/xdm/AtomicType" "base" "Lcom/example/deep_query/deepquery/xdm/AtomicType;" (.ref (a 17))) (B19 : Fld Z Z.heap (a 19) "com/example/deep_query/deepquery/xdm/AtomicType" "base" "Lcom/example/deep_query/deepquery/xdm/AtomicType;" (.ref (a 18))) (B20 : Fld Z Z.heap (a 20) "com/example/deep_query/deepquery/xdm/AtomicType" "base" "Lcom/example/deep_query/deepquery/xdm/AtomicType;" (.ref (a 19))) (B21 : Fld Z Z.heap (a 21) "com/example/deep_query/deepquery/xdm/AtomicType" "base" "Lcom/example/deep_query/deepquery/xdm/AtomicType;" (.ref (a 14))) (B22 : Fld Z Z.heap (a 22) "com/example/deep_query/deepquery/xdm/AtomicType" "base" "Lcom/example/deep_query/deepquery/xdm/AtomicType;" (.ref (a 21))) (B23 : Fld Z Z.heap (a 23) "com/example/deep_query/deepquery/xdm/AtomicType" "base" "Lcom/example/deep_query/deepquery/xdm/AtomicType;" (.ref (a 22))) (B24 : Fld Z Z.heap (a 24) "com/example/deep_query/deepquery/xdm/AtomicType" "base" "Lcom/example/deep_query/deepquery/xdm/AtomicType;" (.ref (a 23))) (B25 : Fld Z Z.heap (a 25) "com/example/deep_query/deepquery/xdm/AtomicType" "base" "Lcom/example/deep_query/deepquery/xdm/AtomicType;" (.ref (a 24))) (B26 : Fld Z Z.heap (a 26) "com/example/deep_query/deepquery/xdm/AtomicType" "base" "Lcom/example/deep_query/deepquery/xdm/AtomicType;" (.ref (a 21))) (B27 : Fld Z Z.heap (a 27) "com/example/deep_query/deepquery/xdm/AtomicType" "base" "Lcom/example/deep_query/deepquery/xdm/AtomicType;" (.ref (a 0))) (B28 : Fld Z Z.heap (a 28) "com/example/deep_query/deepquery/xdm/AtomicType" "base" "Lcom/example/deep_query/deepquery/xdm/AtomicType;" (.ref (a 0))) (B29 : Fld Z Z.heap (a 29) "com/example/deep_query/deepquery/xdm/AtomicType" "base" "Lcom/example/deep_query/deepquery/xdm/AtomicType;" (.ref (a 0))) (B30 : Fld Z Z.heap (a 30) "com/example/deep_query/deepquery/xdm/AtomicType" "base" "Lcom/example/deep_query/deepquery/xdm/AtomicType;" (.ref (a 0))) (B31 : Fld Z Z.heap (a 31) "com/example/deep_query/deepquery/xdm/AtomicType" "base" "Lcom/example/deep_query/deepquery/xdm/AtomicType;" (.ref (a 0))) (B32 : Fld Z Z.heap (a 32) "com/example/deep_query/deepquery/xdm/AtomicType" "base" "Lcom/example/deep_query/deepquery/xdm/AtomicType;" (.ref (a 0))) :
    Met l Z x code maxLocals ret tables_1 room_1 #[(.int p0)] h0 (fun v h L => v = some (.int 1) ∧ Fr n0 L) := by
  refine met_of (Ls := #[.val (.int p0), .unset, .unset, .unset]) own_pn2 (own_ef2 p0) ?_
  intro p e s m below meth c s₁ hx hby hml hown hnm hret hlk hZ X0 e0
  have N0 := Fr.nil n0
  have Ex0 := E0
  have Ex1 := E1
  have Ex2 := E2
  have Ex3 := E3
  have Ex4 := E4
  have Ex5 := E5
  have Ex6 := E6
  have Ex7 := E7
  have Ex8 := E8
  have Ex9 := E9
  have Ex10 := E10
  have Ex11 := E11
  have Ex12 := E12
  have Ex13 := E13
  have Ex14 := E14
  have Ex15 := E15
  have Ex16 := E16
  have Ex17 := E17
  have Ex18 := E18
  have Ex19 := E19
  have Ex20 := E20
  have Ex21 := E21
  have Ex22 := E22
  have Ex23 := E23
  have Ex24 := E24
  have Ex25 := E25
  have Ex26 := E26
  have Ex27 := E27
  have Ex28 := E28
  have Ex29 := E29
  have Ex30 := E30
  have Ex31 := E31
  have Ex32 := E32
  refine gBipush X0 hx (33 : Int32) (hb hby at_0) rfl ?_
  refine gNewArrR X0 hx hZ hown (tw hw 0 rfl) (tw hw 1 rfl) e0 (hb hby at_2) (by decide) (cap := 33) (by decide) (by decide) (by decide) (by decide) ?_
  intro T1 h1 b1 X1 e1 E1 g1 V1
  have g_b1 : n0 ≤ b1 := by rw [g1]; exact Z0
  have Z_1 := Nat.le_trans Z0 E1.1
  have O_1 := O0.ext E1
  have hf0 : ∀ j, j < 0 → (fun _ => Value.null : Nat → Value) j = .ref (a j) := fun j hj => absurd hj (Nat.not_lt_zero _)
  show Go _ _ _ _ _ _ _ T1 (mkF m 5 #[.val (.int p0), .unset, .unset, .unset] [(.ref b1)])
  refine gDup X1 hx (hb hby at_5) rfl ?_
  refine gIconst X1 hx (0 : Int32) (hb hby at_6) rfl ?_
  refine gGetS X1 hx hZ hown (tw hw 2 rfl) e1 (S0.ext O_1.2) (hb hby at_7) ?_
  intro T2 X2 e2
  show Go _ _ _ _ _ _ _ T2 (mkF m 10 #[.val (.int p0), .unset, .unset, .unset] [(.ref (a 0)), (.int (0 : Int32)), (.ref b1), (.ref b1)])
  refine gAastore X2 hx hZ e2 V1 (Ins.self (Ex0.ext O_1.2)) 0 rfl ⟨by decide, by decide⟩ (hb hby at_10) ?_
  intro T3 h3 X3 e3 W3 Vq3
  obtain ⟨f3, V3, hf3⟩ : ∃ f, RAr Z h3 b1 33 f ∧ ∀ j, j < 1 → f j = .ref (a j) := ⟨_, Vq3, own_updV hf0⟩
  have Z_3 := Nat.le_trans Z_1 (Nat.le_of_eq W3.size.symm)
  have O_3 := O_1.wr W3 g_b1
  have N_3 := Fr.snoc X3 N0 g_b1
  show Go _ _ _ _ _ _ _ T3 (mkF m 11 #[.val (.int p0), .unset, .unset, .unset] [(.ref b1)])
  refine gDup X3 hx (hb hby at_11) rfl ?_
  refine gIconst X3 hx (1 : Int32) (hb hby at_12) rfl ?_
  refine gGetS X3 hx hZ hown (tw hw 6 rfl) e3 (S1.ext O_3.2) (hb hby at_13) ?_
  intro T4 X4 e4
  show Go _ _ _ _ _ _ _ T4 (mkF m 16 #[.val (.int p0), .unset, .unset, .unset] [(.ref (a 1)), (.int (1 : Int32)), (.ref b1), (.ref b1)])
  refine gAastore X4 hx hZ e4 V3 (Ins.self (Ex1.ext O_3.2)) 1 rfl ⟨by decide, by decide⟩ (hb hby at_16) ?_
  intro T5 h5 X5 e5 W5 Vq5
  obtain ⟨f5, V5, hf5⟩ : ∃ f, RAr Z h5 b1 33 f ∧ ∀ j, j < 2 → f j = .ref (a j) := ⟨_, Vq5, own_updV hf3⟩
  have Z_5 := Nat.le_trans Z_3 (Nat.le_of_eq W5.size.symm)
  have O_5 := O_3.wr W5 g_b1
  have N_5 := Fr.snoc X5 N_3 g_b1
  show Go _ _ _ _ _ _ _ T5 (mkF m 17 #[.val (.int p0), .unset, .unset, .unset] [(.ref b1)])
  refine gDup X5 hx (hb hby at_17) rfl ?_
  refine gIconst X5 hx (2 : Int32) (hb hby at_18) rfl ?_
  refine gGetS X5 hx hZ hown (tw hw 8 rfl) e5 (S2.ext O_5.2) (hb hby at_19) ?_
  intro T6 X6 e6
  show Go _ _ _ _ _ _ _ T6 (mkF m 22 #[.val (.int p0), .unset, .unset, .unset] [(.ref (a 2)), (.int (2 : Int32)), (.ref b1), (.ref b1)])
  refine gAastore X6 hx hZ e6 V5 (Ins.self (Ex2.ext O_5.2)) 2 rfl ⟨by decide, by decide⟩ (hb hby at_22) ?_
  intro T7 h7 X7 e7 W7 Vq7
  obtain ⟨f7, V7, hf7⟩ : ∃ f, RAr Z h7 b1 33 f ∧ ∀ j, j < 3 → f j = .ref (a j) := ⟨_, Vq7, own_updV hf5⟩
  have Z_7 := Nat.le_trans Z_5 (Nat.le_of_eq W7.size.symm)
  have O_7 := O_5.wr W7 g_b1
  have N_7 := Fr.snoc X7 N_5 g_b1
  show Go _ _ _ _ _ _ _ T7 (mkF m 23 #[.val (.int p0), .unset, .unset, .unset] [(.ref b1)])
  refine gDup X7 hx (hb hby at_23) rfl ?_
  refine gIconst X7 hx (3 : Int32) (hb hby at_24) rfl ?_
  refine gGetS X7 hx hZ hown (tw hw 10 rfl) e7 (S3.ext O_7.2) (hb hby at_25) ?_
  intro T8 X8 e8
  show Go _ _ _ _ _ _ _ T8 (mkF m 28 #[.val (.int p0), .unset, .unset, .unset] [(.ref (a 3)), (.int (3 : Int32)), (.ref b1), (.ref b1)])
  refine gAastore X8 hx hZ e8 V7 (Ins.self (Ex3.ext O_7.2)) 3 rfl ⟨by decide, by decide⟩ (hb hby at_28) ?_
  intro T9 h9 X9 e9 W9 Vq9
  obtain ⟨f9, V9, hf9⟩ : ∃ f, RAr Z h9 b1 33 f ∧ ∀ j, j < 4 → f j = .ref (a j) := ⟨_, Vq9, own_updV hf7⟩
  have Z_9 := Nat.le_trans Z_7 (Nat.le_of_eq W9.size.symm)
  have O_9 := O_7.wr W9 g_b1
  have N_9 := Fr.snoc X9 N_7 g_b1
  show Go _ _ _ _ _ _ _ T9 (mkF m 29 #[.val (.int p0), .unset, .unset, .unset] [(.ref b1)])
  refine gDup X9 hx (hb hby at_29) rfl ?_
  refine gIconst X9 hx (4 : Int32) (hb hby at_30) rfl ?_
  refine gGetS X9 hx hZ hown (tw hw 12 rfl) e9 (S4.ext O_9.2) (hb hby at_31) ?_
  intro T10 X10 e10
  show Go _ _ _ _ _ _ _ T10 (mkF m 34 #[.val (.int p0), .unset, .unset, .unset] [(.ref (a 4)), (.int (4 : Int32)), (.ref b1), (.ref b1)])
  refine gAastore X10 hx hZ e10 V9 (Ins.self (Ex4.ext O_9.2)) 4 rfl ⟨by decide, by decide⟩ (hb hby at_34) ?_
  intro T11 h11 X11 e11 W11 Vq11
  obtain ⟨f11, V11, hf11⟩ : ∃ f, RAr Z h11 b1 33 f ∧ ∀ j, j < 5 → f j = .ref (a j) := ⟨_, Vq11, own_updV hf9⟩
  have Z_11 := Nat.le_trans Z_9 (Nat.le_of_eq W11.size.symm)
  have O_11 := O_9.wr W11 g_b1
  have N_11 := Fr.snoc X11 N_9 g_b1
  show Go _ _ _ _ _ _ _ T11 (mkF m 35 #[.val (.int p0), .unset, .unset, .unset] [(.ref b1)])
  refine gDup X11 hx (hb hby at_35) rfl ?_
  refine gIconst X11 hx (5 : Int32) (hb hby at_36) rfl ?_
  refine gGetS X11 hx hZ hown (tw hw 14 rfl) e11 (S5.ext O_11.2) (hb hby at_37) ?_
  intro T12 X12 e12
  show Go _ _ _ _ _ _ _ T12 (mkF m 40 #[.val (.int p0), .unset, .unset, .unset] [(.ref (a 5)), (.int (5 : Int32)), (.ref b1), (.ref b1)])
  refine gAastore X12 hx hZ e12 V11 (Ins.self (Ex5.ext O_11.2)) 5 rfl ⟨by decide, by decide⟩ (hb hby at_40) ?_
  intro T13 h13 X13 e13 W13 Vq13
  obtain ⟨f13, V13, hf13⟩ : ∃ f, RAr Z h13 b1 33 f ∧ ∀ j, j < 6 → f j = .ref (a j) := ⟨_, Vq13, own_updV hf11⟩
  have Z_13 := Nat.le_trans Z_11 (Nat.le_of_eq W13.size.symm)
  have O_13 := O_11.wr W13 g_b1
  have N_13 := Fr.snoc X13 N_11 g_b1
  show Go _ _ _ _ _ _ _ T13 (mkF m 41 #[.val (.int p0), .unset, .unset, .unset] [(.ref b1)])
  refine gDup X13 hx (hb hby at_41) rfl ?_
  refine gBipush X13 hx (6 : Int32) (hb hby at_42) rfl ?_
  refine gGetS X13 hx hZ hown (tw hw 16 rfl) e13 (S6.ext O_13.2) (hb hby at_44) ?_
  intro T14 X14 e14
  show Go _ _ _ _ _ _ _ T14 (mkF m 47 #[.val (.int p0), .unset, .unset, .unset] [(.ref (a 6)), (.int (6 : Int32)), (.ref b1), (.ref b1)])
  refine gAastore X14 hx hZ e14 V13 (Ins.self (Ex6.ext O_13.2)) 6 rfl ⟨by decide, by decide⟩ (hb hby at_47) ?_
  intro T15 h15 X15 e15 W15 Vq15
  obtain ⟨f15, V15, hf15⟩ : ∃ f, RAr Z h15 b1 33 f ∧ ∀ j, j < 7 → f j = .ref (a j) := ⟨_, Vq15, own_updV hf13⟩
  have Z_15 := Nat.le_trans Z_13 (Nat.le_of_eq W15.size.symm)
  have O_15 := O_13.wr W15 g_b1
  have N_15 := Fr.snoc X15 N_13 g_b1
  show Go _ _ _ _ _ _ _ T15 (mkF m 48 #[.val (.int p0), .unset, .unset, .unset] [(.ref b1)])
  refine gDup X15 hx (hb hby at_48) rfl ?_
  refine gBipush X15 hx (7 : Int32) (hb hby at_49) rfl ?_
  refine gGetS X15 hx hZ hown (tw hw 18 rfl) e15 (S7.ext O_15.2) (hb hby at_51) ?_
  intro T16 X16 e16
  show Go _ _ _ _ _ _ _ T16 (mkF m 54 #[.val (.int p0), .unset, .unset, .unset] [(.ref (a 7)), (.int (7 : Int32)), (.ref b1), (.ref b1)])
  refine gAastore X16 hx hZ e16 V15 (Ins.self (Ex7.ext O_15.2)) 7 rfl ⟨by decide, by decide⟩ (hb hby at_54) ?_
  intro T17 h17 X17 e17 W17 Vq17
  obtain ⟨f17, V17, hf17⟩ : ∃ f, RAr Z h17 b1 33 f ∧ ∀ j, j < 8 → f j = .ref (a j) := ⟨_, Vq17, own_updV hf15⟩
  have Z_17 := Nat.le_trans Z_15 (Nat.le_of_eq W17.size.symm)
  have O_17 := O_15.wr W17 g_b1
  have N_17 := Fr.snoc X17 N_15 g_b1
  show Go _ _ _ _ _ _ _ T17 (mkF m 55 #[.val (.int p0), .unset, .unset, .unset] [(.ref b1)])
  refine gDup X17 hx (hb hby at_55) rfl ?_
  refine gBipush X17 hx (8 : Int32) (hb hby at_56) rfl ?_
  refine gGetS X17 hx hZ hown (tw hw 20 rfl) e17 (S8.ext O_17.2) (hb hby at_58) ?_
  intro T18 X18 e18
  show Go _ _ _ _ _ _ _ T18 (mkF m 61 #[.val (.int p0), .unset, .unset, .unset] [(.ref (a 8)), (.int (8 : Int32)), (.ref b1), (.ref b1)])
  refine gAastore X18 hx hZ e18 V17 (Ins.self (Ex8.ext O_17.2)) 8 rfl ⟨by decide, by decide⟩ (hb hby at_61) ?_
  intro T19 h19 X19 e19 W19 Vq19
  obtain ⟨f19, V19, hf19⟩ : ∃ f, RAr Z h19 b1 33 f ∧ ∀ j, j < 9 → f j = .ref (a j) := ⟨_, Vq19, own_updV hf17⟩
  have Z_19 := Nat.le_trans Z_17 (Nat.le_of_eq W19.size.symm)
  have O_19 := O_17.wr W19 g_b1
  have N_19 := Fr.snoc X19 N_17 g_b1
  show Go _ _ _ _ _ _ _ T19 (mkF m 62 #[.val (.int p0), .unset, .unset, .unset] [(.ref b1)])
  refine gDup X19 hx (hb hby at_62) rfl ?_
  refine gBipush X19 hx (9 : Int32) (hb hby at_63) rfl ?_
  refine gGetS X19 hx hZ hown (tw hw 22 rfl) e19 (S9.ext O_19.2) (hb hby at_65) ?_
  intro T20 X20 e20
  show Go _ _ _ _ _ _ _ T20 (mkF m 68 #[.val (.int p0), .unset, .unset, .unset] [(.ref (a 9)), (.int (9 : Int32)), (.ref b1), (.ref b1)])
  refine gAastore X20 hx hZ e20 V19 (Ins.self (Ex9.ext O_19.2)) 9 rfl ⟨by decide, by decide⟩ (hb hby at_68) ?_
  intro T21 h21 X21 e21 W21 Vq21
  obtain ⟨f21, V21, hf21⟩ : ∃ f, RAr Z h21 b1 33 f ∧ ∀ j, j < 10 → f j = .ref (a j) := ⟨_, Vq21, own_updV hf19⟩
  have Z_21 := Nat.le_trans Z_19 (Nat.le_of_eq W21.size.symm)
  have O_21 := O_19.wr W21 g_b1
  have N_21 := Fr.snoc X21 N_19 g_b1
  show Go _ _ _ _ _ _ _ T21 (mkF m 69 #[.val (.int p0), .unset, .unset, .unset] [(.ref b1)])
  refine gDup X21 hx (hb hby at_69) rfl ?_
  refine gBipush X21 hx (10 : Int32) (hb hby at_70) rfl ?_
  refine gGetS X21 hx hZ hown (tw hw 24 rfl) e21 (S10.ext O_21.2) (hb hby at_72) ?_
  intro T22 X22 e22
  show Go _ _ _ _ _ _ _ T22 (mkF m 75 #[.val (.int p0), .unset, .unset, .unset] [(.ref (a 10)), (.int (10 : Int32)), (.ref b1), (.ref b1)])
  refine gAastore X22 hx hZ e22 V21 (Ins.self (Ex10.ext O_21.2)) 10 rfl ⟨by decide, by decide⟩ (hb hby at_75) ?_
  intro T23 h23 X23 e23 W23 Vq23
  obtain ⟨f23, V23, hf23⟩ : ∃ f, RAr Z h23 b1 33 f ∧ ∀ j, j < 11 → f j = .ref (a j) := ⟨_, Vq23, own_updV hf21⟩
  have Z_23 := Nat.le_trans Z_21 (Nat.le_of_eq W23.size.symm)
  have O_23 := O_21.wr W23 g_b1
  have N_23 := Fr.snoc X23 N_21 g_b1
  show Go _ _ _ _ _ _ _ T23 (mkF m 76 #[.val (.int p0), .unset, .unset, .unset] [(.ref b1)])
  refine gDup X23 hx (hb hby at_76) rfl ?_
  refine gBipush X23 hx (11 : Int32) (hb hby at_77) rfl ?_
  refine gGetS X23 hx hZ hown (tw hw 26 rfl) e23 (S11.ext O_23.2) (hb hby at_79) ?_
  intro T24 X24 e24
  show Go _ _ _ _ _ _ _ T24 (mkF m 82 #[.val (.int p0), .unset, .unset, .unset] [(.ref (a 11)), (.int (11 : Int32)), (.ref b1), (.ref b1)])
  refine gAastore X24 hx hZ e24 V23 (Ins.self (Ex11.ext O_23.2)) 11 rfl ⟨by decide, by decide⟩ (hb hby at_82) ?_
  intro T25 h25 X25 e25 W25 Vq25
  obtain ⟨f25, V25, hf25⟩ : ∃ f, RAr Z h25 b1 33 f ∧ ∀ j, j < 12 → f j = .ref (a j) := ⟨_, Vq25, own_updV hf23⟩
  have Z_25 := Nat.le_trans Z_23 (Nat.le_of_eq W25.size.symm)
  have O_25 := O_23.wr W25 g_b1
  have N_25 := Fr.snoc X25 N_23 g_b1
  show Go _ _ _ _ _ _ _ T25 (mkF m 83 #[.val (.int p0), .unset, .unset, .unset] [(.ref b1)])
  refine gDup X25 hx (hb hby at_83) rfl ?_
  refine gBipush X25 hx (12 : Int32) (hb hby at_84) rfl ?_
  refine gGetS X25 hx hZ hown (tw hw 28 rfl) e25 (S12.ext O_25.2) (hb hby at_86) ?_
  intro T26 X26 e26
  show Go _ _ _ _ _ _ _ T26 (mkF m 89 #[.val (.int p0), .unset, .unset, .unset] [(.ref (a 12)), (.int (12 : Int32)), (.ref b1), (.ref b1)])
  refine gAastore X26 hx hZ e26 V25 (Ins.self (Ex12.ext O_25.2)) 12 rfl ⟨by decide, by decide⟩ (hb hby at_89) ?_
  intro T27 h27 X27 e27 W27 Vq27
  obtain ⟨f27, V27, hf27⟩ : ∃ f, RAr Z h27 b1 33 f ∧ ∀ j, j < 13 → f j = .ref (a j) := ⟨_, Vq27, own_updV hf25⟩
  have Z_27 := Nat.le_trans Z_25 (Nat.le_of_eq W27.size.symm)
  have O_27 := O_25.wr W27 g_b1
  have N_27 := Fr.snoc X27 N_25 g_b1
  show Go _ _ _ _ _ _ _ T27 (mkF m 90 #[.val (.int p0), .unset, .unset, .unset] [(.ref b1)])
  refine gDup X27 hx (hb hby at_90) rfl ?_
  refine gBipush X27 hx (13 : Int32) (hb hby at_91) rfl ?_
  refine gGetS X27 hx hZ hown (tw hw 30 rfl) e27 (S13.ext O_27.2) (hb hby at_93) ?_
  intro T28 X28 e28
  show Go _ _ _ _ _ _ _ T28 (mkF m 96 #[.val (.int p0), .unset, .unset, .unset] [(.ref (a 13)), (.int (13 : Int32)), (.ref b1), (.ref b1)])
  refine gAastore X28 hx hZ e28 V27 (Ins.self (Ex13.ext O_27.2)) 13 rfl ⟨by decide, by decide⟩ (hb hby at_96) ?_
  intro T29 h29 X29 e29 W29 Vq29
  obtain ⟨f29, V29, hf29⟩ : ∃ f, RAr Z h29 b1 33 f ∧ ∀ j, j < 14 → f j = .ref (a j) := ⟨_, Vq29, own_updV hf27⟩
  have Z_29 := Nat.le_trans Z_27 (Nat.le_of_eq W29.size.symm)
  have O_29 := O_27.wr W29 g_b1
  have N_29 := Fr.snoc X29 N_27 g_b1
  show Go _ _ _ _ _ _ _ T29 (mkF m 97 #[.val (.int p0), .unset, .unset, .unset] [(.ref b1)])
  refine gDup X29 hx (hb hby at_97) rfl ?_
  refine gBipush X29 hx (14 : Int32) (hb hby at_98) rfl ?_
  refine gGetS X29 hx hZ hown (tw hw 32 rfl) e29 (S14.ext O_29.2) (hb hby at_100) ?_
  intro T30 X30 e30
  show Go _ _ _ _ _ _ _ T30 (mkF m 103 #[.val (.int p0), .unset, .unset, .unset] [(.ref (a 14)), (.int (14 : Int32)), (.ref b1), (.ref b1)])
  refine gAastore X30 hx hZ e30 V29 (Ins.self (Ex14.ext O_29.2)) 14 rfl ⟨by decide, by decide⟩ (hb hby at_103) ?_
  intro T31 h31 X31 e31 W31 Vq31
  obtain ⟨f31, V31, hf31⟩ : ∃ f, RAr Z h31 b1 33 f ∧ ∀ j, j < 15 → f j = .ref (a j) := ⟨_, Vq31, own_updV hf29⟩
  have Z_31 := Nat.le_trans Z_29 (Nat.le_of_eq W31.size.symm)
  have O_31 := O_29.wr W31 g_b1
  have N_31 := Fr.snoc X31 N_29 g_b1
  show Go _ _ _ _ _ _ _ T31 (mkF m 104 #[.val (.int p0), .unset, .unset, .unset] [(.ref b1)])
  refine gDup X31 hx (hb hby at_104) rfl ?_
  refine gBipush X31 hx (15 : Int32) (hb hby at_105) rfl ?_
  refine gGetS X31 hx hZ hown (tw hw 34 rfl) e31 (S15.ext O_31.2) (hb hby at_107) ?_
  intro T32 X32 e32
  show Go _ _ _ _ _ _ _ T32 (mkF m 110 #[.val (.int p0), .unset, .unset, .unset] [(.ref (a 15)), (.int (15 : Int32)), (.ref b1), (.ref b1)])
  refine gAastore X32 hx hZ e32 V31 (Ins.self (Ex15.ext O_31.2)) 15 rfl ⟨by decide, by decide⟩ (hb hby at_110) ?_
  intro T33 h33 X33 e33 W33 Vq33
  obtain ⟨f33, V33, hf33⟩ : ∃ f, RAr Z h33 b1 33 f ∧ ∀ j, j < 16 → f j = .ref (a j) := ⟨_, Vq33, own_updV hf31⟩
  have Z_33 := Nat.le_trans Z_31 (Nat.le_of_eq W33.size.symm)
  have O_33 := O_31.wr W33 g_b1
  have N_33 := Fr.snoc X33 N_31 g_b1
  show Go _ _ _ _ _ _ _ T33 (mkF m 111 #[.val (.int p0), .unset, .unset, .unset] [(.ref b1)])
  refine gDup X33 hx (hb hby at_111) rfl ?_
  refine gBipush X33 hx (16 : Int32) (hb hby at_112) rfl ?_
  refine gGetS X33 hx hZ hown (tw hw 36 rfl) e33 (S16.ext O_33.2) (hb hby at_114) ?_
  intro T34 X34 e34
  show Go _ _ _ _ _ _ _ T34 (mkF m 117 #[.val (.int p0), .unset, .unset, .unset] [(.ref (a 16)), (.int (16 : Int32)), (.ref b1), (.ref b1)])
  refine gAastore X34 hx hZ e34 V33 (Ins.self (Ex16.ext O_33.2)) 16 rfl ⟨by decide, by decide⟩ (hb hby at_117) ?_
  intro T35 h35 X35 e35 W35 Vq35
  obtain ⟨f35, V35, hf35⟩ : ∃ f, RAr Z h35 b1 33 f ∧ ∀ j, j < 17 → f j = .ref (a j) := ⟨_, Vq35, own_updV hf33⟩
  have Z_35 := Nat.le_trans Z_33 (Nat.le_of_eq W35.size.symm)
  have O_35 := O_33.wr W35 g_b1
  have N_35 := Fr.snoc X35 N_33 g_b1
  show Go _ _ _ _ _ _ _ T35 (mkF m 118 #[.val (.int p0), .unset, .unset, .unset] [(.ref b1)])
  refine gDup X35 hx (hb hby at_118) rfl ?_
  refine gBipush X35 hx (17 : Int32) (hb hby at_119) rfl ?_
  refine gGetS X35 hx hZ hown (tw hw 38 rfl) e35 (S17.ext O_35.2) (hb hby at_121) ?_
  intro T36 X36 e36
  show Go _ _ _ _ _ _ _ T36 (mkF m 124 #[.val (.int p0), .unset, .unset, .unset] [(.ref (a 17)), (.int (17 : Int32)), (.ref b1), (.ref b1)])
  refine gAastore X36 hx hZ e36 V35 (Ins.self (Ex17.ext O_35.2)) 17 rfl ⟨by decide, by decide⟩ (hb hby at_124) ?_
  intro T37 h37 X37 e37 W37 Vq37
  obtain ⟨f37, V37, hf37⟩ : ∃ f, RAr Z h37 b1 33 f ∧ ∀ j, j < 18 → f j = .ref (a j) := ⟨_, Vq37, own_updV hf35⟩
  have Z_37 := Nat.le_trans Z_35 (Nat.le_of_eq W37.size.symm)
  have O_37 := O_35.wr W37 g_b1
  have N_37 := Fr.snoc X37 N_35 g_b1
  show Go _ _ _ _ _ _ _ T37 (mkF m 125 #[.val (.int p0), .unset, .unset, .unset] [(.ref b1)])
  refine gDup X37 hx (hb hby at_125) rfl ?_
  refine gBipush X37 hx (18 : Int32) (hb hby at_126) rfl ?_
  refine gGetS X37 hx hZ hown (tw hw 40 rfl) e37 (S18.ext O_37.2) (hb hby at_128) ?_
  intro T38 X38 e38
  show Go _ _ _ _ _ _ _ T38 (mkF m 131 #[.val (.int p0), .unset, .unset, .unset] [(.ref (a 18)), (.int (18 : Int32)), (.ref b1), (.ref b1)])
  refine gAastore X38 hx hZ e38 V37 (Ins.self (Ex18.ext O_37.2)) 18 rfl ⟨by decide, by decide⟩ (hb hby at_131) ?_
  intro T39 h39 X39 e39 W39 Vq39
  obtain ⟨f39, V39, hf39⟩ : ∃ f, RAr Z h39 b1 33 f ∧ ∀ j, j < 19 → f j = .ref (a j) := ⟨_, Vq39, own_updV hf37⟩
  have Z_39 := Nat.le_trans Z_37 (Nat.le_of_eq W39.size.symm)
  have O_39 := O_37.wr W39 g_b1
  have N_39 := Fr.snoc X39 N_37 g_b1
  show Go _ _ _ _ _ _ _ T39 (mkF m 132 #[.val (.int p0), .unset, .unset, .unset] [(.ref b1)])
  refine gDup X39 hx (hb hby at_132) rfl ?_
  refine gBipush X39 hx (19 : Int32) (hb hby at_133) rfl ?_
  refine gGetS X39 hx hZ hown (tw hw 42 rfl) e39 (S19.ext O_39.2) (hb hby at_135) ?_
  intro T40 X40 e40
  show Go _ _ _ _ _ _ _ T40 (mkF m 138 #[.val (.int p0), .unset, .unset, .unset] [(.ref (a 19)), (.int (19 : Int32)), (.ref b1), (.ref b1)])
  refine gAastore X40 hx hZ e40 V39 (Ins.self (Ex19.ext O_39.2)) 19 rfl ⟨by decide, by decide⟩ (hb hby at_138) ?_
  intro T41 h41 X41 e41 W41 Vq41
  obtain ⟨f41, V41, hf41⟩ : ∃ f, RAr Z h41 b1 33 f ∧ ∀ j, j < 20 → f j = .ref (a j) := ⟨_, Vq41, own_updV hf39⟩
  have Z_41 := Nat.le_trans Z_39 (Nat.le_of_eq W41.size.symm)
  have O_41 := O_39.wr W41 g_b1
  have N_41 := Fr.snoc X41 N_39 g_b1
  show Go _ _ _ _ _ _ _ T41 (mkF m 139 #[.val (.int p0), .unset, .unset, .unset] [(.ref b1)])
  refine gDup X41 hx (hb hby at_139) rfl ?_
  refine gBipush X41 hx (20 : Int32) (hb hby at_140) rfl ?_
  refine gGetS X41 hx hZ hown (tw hw 44 rfl) e41 (S20.ext O_41.2) (hb hby at_142) ?_
  intro T42 X42 e42
  show Go _ _ _ _ _ _ _ T42 (mkF m 145 #[.val (.int p0), .unset, .unset, .unset] [(.ref (a 20)), (.int (20 : Int32)), (.ref b1), (.ref b1)])
  refine gAastore X42 hx hZ e42 V41 (Ins.self (Ex20.ext O_41.2)) 20 rfl ⟨by decide, by decide⟩ (hb hby at_145) ?_
  intro T43 h43 X43 e43 W43 Vq43
  obtain ⟨f43, V43, hf43⟩ : ∃ f, RAr Z h43 b1 33 f ∧ ∀ j, j < 21 → f j = .ref (a j) := ⟨_, Vq43, own_updV hf41⟩
  have Z_43 := Nat.le_trans Z_41 (Nat.le_of_eq W43.size.symm)
  have O_43 := O_41.wr W43 g_b1
  have N_43 := Fr.snoc X43 N_41 g_b1
  show Go _ _ _ _ _ _ _ T43 (mkF m 146 #[.val (.int p0), .unset, .unset, .unset] [(.ref b1)])
  refine gDup X43 hx (hb hby at_146) rfl ?_
  refine gBipush X43 hx (21 : Int32) (hb hby at_147) rfl ?_
  refine gGetS X43 hx hZ hown (tw hw 46 rfl) e43 (S21.ext O_43.2) (hb hby at_149) ?_
  intro T44 X44 e44
  show Go _ _ _ _ _ _ _ T44 (mkF m 152 #[.val (.int p0), .unset, .unset, .unset] [(.ref (a 21)), (.int (21 : Int32)), (.ref b1), (.ref b1)])
  refine gAastore X44 hx hZ e44 V43 (Ins.self (Ex21.ext O_43.2)) 21 rfl ⟨by decide, by decide⟩ (hb hby at_152) ?_
  intro T45 h45 X45 e45 W45 Vq45
  obtain ⟨f45, V45, hf45⟩ : ∃ f, RAr Z h45 b1 33 f ∧ ∀ j, j < 22 → f j = .ref (a j) := ⟨_, Vq45, own_updV hf43⟩
  have Z_45 := Nat.le_trans Z_43 (Nat.le_of_eq W45.size.symm)
  have O_45 := O_43.wr W45 g_b1
  have N_45 := Fr.snoc X45 N_43 g_b1
  show Go _ _ _ _ _ _ _ T45 (mkF m 153 #[.val (.int p0), .unset, .unset, .unset] [(.ref b1)])
  refine gDup X45 hx (hb hby at_153) rfl ?_
  refine gBipush X45 hx (22 : Int32) (hb hby at_154) rfl ?_
  refine gGetS X45 hx hZ hown (tw hw 48 rfl) e45 (S22.ext O_45.2) (hb hby at_156) ?_
  intro T46 X46 e46
  show Go _ _ _ _ _ _ _ T46 (mkF m 159 #[.val (.int p0), .unset, .unset, .unset] [(.ref (a 22)), (.int (22 : Int32)), (.ref b1), (.ref b1)])
  refine gAastore X46 hx hZ e46 V45 (Ins.self (Ex22.ext O_45.2)) 22 rfl ⟨by decide, by decide⟩ (hb hby at_159) ?_
  intro T47 h47 X47 e47 W47 Vq47
  obtain ⟨f47, V47, hf47⟩ : ∃ f, RAr Z h47 b1 33 f ∧ ∀ j, j < 23 → f j = .ref (a j) := ⟨_, Vq47, own_updV hf45⟩
  have Z_47 := Nat.le_trans Z_45 (Nat.le_of_eq W47.size.symm)
  have O_47 := O_45.wr W47 g_b1
  have N_47 := Fr.snoc X47 N_45 g_b1
  show Go _ _ _ _ _ _ _ T47 (mkF m 160 #[.val (.int p0), .unset, .unset, .unset] [(.ref b1)])
  refine gDup X47 hx (hb hby at_160) rfl ?_
  refine gBipush X47 hx (23 : Int32) (hb hby at_161) rfl ?_
  refine gGetS X47 hx hZ hown (tw hw 50 rfl) e47 (S23.ext O_47.2) (hb hby at_163) ?_
  intro T48 X48 e48
  show Go _ _ _ _ _ _ _ T48 (mkF m 166 #[.val (.int p0), .unset, .unset, .unset] [(.ref (a 23)), (.int (23 : Int32)), (.ref b1), (.ref b1)])
  refine gAastore X48 hx hZ e48 V47 (Ins.self (Ex23.ext O_47.2)) 23 rfl ⟨by decide, by decide⟩ (hb hby at_166) ?_
  intro T49 h49 X49 e49 W49 Vq49
  obtain ⟨f49, V49, hf49⟩ : ∃ f, RAr Z h49 b1 33 f ∧ ∀ j, j < 24 → f j = .ref (a j) := ⟨_, Vq49, own_updV hf47⟩
  have Z_49 := Nat.le_trans Z_47 (Nat.le_of_eq W49.size.symm)
  have O_49 := O_47.wr W49 g_b1
  have N_49 := Fr.snoc X49 N_47 g_b1
  show Go _ _ _ _ _ _ _ T49 (mkF m 167 #[.val (.int p0), .unset, .unset, .unset] [(.ref b1)])
  refine gDup X49 hx (hb hby at_167) rfl ?_
  refine gBipush X49 hx (24 : Int32) (hb hby at_168) rfl ?_
  refine gGetS X49 hx hZ hown (tw hw 52 rfl) e49 (S24.ext O_49.2) (hb hby at_170) ?_
  intro T50 X50 e50
  show Go _ _ _ _ _ _ _ T50 (mkF m 173 #[.val (.int p0), .unset, .unset, .unset] [(.ref (a 24)), (.int (24 : Int32)), (.ref b1), (.ref b1)])
  refine gAastore X50 hx hZ e50 V49 (Ins.self (Ex24.ext O_49.2)) 24 rfl ⟨by decide, by decide⟩ (hb hby at_173) ?_
  intro T51 h51 X51 e51 W51 Vq51
  obtain ⟨f51, V51, hf51⟩ : ∃ f, RAr Z h51 b1 33 f ∧ ∀ j, j < 25 → f j = .ref (a j) := ⟨_, Vq51, own_updV hf49⟩
  have Z_51 := Nat.le_trans Z_49 (Nat.le_of_eq W51.size.symm)
  have O_51 := O_49.wr W51 g_b1
  have N_51 := Fr.snoc X51 N_49 g_b1
  show Go _ _ _ _ _ _ _ T51 (mkF m 174 #[.val (.int p0), .unset, .unset, .unset] [(.ref b1)])
  refine gDup X51 hx (hb hby at_174) rfl ?_
  refine gBipush X51 hx (25 : Int32) (hb hby at_175) rfl ?_
  refine gGetS X51 hx hZ hown (tw hw 54 rfl) e51 (S25.ext O_51.2) (hb hby at_177) ?_
  intro T52 X52 e52
  show Go _ _ _ _ _ _ _ T52 (mkF m 180 #[.val (.int p0), .unset, .unset, .unset] [(.ref (a 25)), (.int (25 : Int32)), (.ref b1), (.ref b1)])
  refine gAastore X52 hx hZ e52 V51 (Ins.self (Ex25.ext O_51.2)) 25 rfl ⟨by decide, by decide⟩ (hb hby at_180) ?_
  intro T53 h53 X53 e53 W53 Vq53
  obtain ⟨f53, V53, hf53⟩ : ∃ f, RAr Z h53 b1 33 f ∧ ∀ j, j < 26 → f j = .ref (a j) := ⟨_, Vq53, own_updV hf51⟩
  have Z_53 := Nat.le_trans Z_51 (Nat.le_of_eq W53.size.symm)
  have O_53 := O_51.wr W53 g_b1
  have N_53 := Fr.snoc X53 N_51 g_b1
  show Go _ _ _ _ _ _ _ T53 (mkF m 181 #[.val (.int p0), .unset, .unset, .unset] [(.ref b1)])
  refine gDup X53 hx (hb hby at_181) rfl ?_
  refine gBipush X53 hx (26 : Int32) (hb hby at_182) rfl ?_
  refine gGetS X53 hx hZ hown (tw hw 56 rfl) e53 (S26.ext O_53.2) (hb hby at_184) ?_
  intro T54 X54 e54
  show Go _ _ _ _ _ _ _ T54 (mkF m 187 #[.val (.int p0), .unset, .unset, .unset] [(.ref (a 26)), (.int (26 : Int32)), (.ref b1), (.ref b1)])
  refine gAastore X54 hx hZ e54 V53 (Ins.self (Ex26.ext O_53.2)) 26 rfl ⟨by decide, by decide⟩ (hb hby at_187) ?_
  intro T55 h55 X55 e55 W55 Vq55
  obtain ⟨f55, V55, hf55⟩ : ∃ f, RAr Z h55 b1 33 f ∧ ∀ j, j < 27 → f j = .ref (a j) := ⟨_, Vq55, own_updV hf53⟩
  have Z_55 := Nat.le_trans Z_53 (Nat.le_of_eq W55.size.symm)
  have O_55 := O_53.wr W55 g_b1
  have N_55 := Fr.snoc X55 N_53 g_b1
  show Go _ _ _ _ _ _ _ T55 (mkF m 188 #[.val (.int p0), .unset, .unset, .unset] [(.ref b1)])
  refine gDup X55 hx (hb hby at_188) rfl ?_
  refine gBipush X55 hx (27 : Int32) (hb hby at_189) rfl ?_
  refine gGetS X55 hx hZ hown (tw hw 58 rfl) e55 (S27.ext O_55.2) (hb hby at_191) ?_
  intro T56 X56 e56
  show Go _ _ _ _ _ _ _ T56 (mkF m 194 #[.val (.int p0), .unset, .unset, .unset] [(.ref (a 27)), (.int (27 : Int32)), (.ref b1), (.ref b1)])
  refine gAastore X56 hx hZ e56 V55 (Ins.self (Ex27.ext O_55.2)) 27 rfl ⟨by decide, by decide⟩ (hb hby at_194) ?_
  intro T57 h57 X57 e57 W57 Vq57
  obtain ⟨f57, V57, hf57⟩ : ∃ f, RAr Z h57 b1 33 f ∧ ∀ j, j < 28 → f j = .ref (a j) := ⟨_, Vq57, own_updV hf55⟩
  have Z_57 := Nat.le_trans Z_55 (Nat.le_of_eq W57.size.symm)
  have O_57 := O_55.wr W57 g_b1
  have N_57 := Fr.snoc X57 N_55 g_b1
  show Go _ _ _ _ _ _ _ T57 (mkF m 195 #[.val (.int p0), .unset, .unset, .unset] [(.ref b1)])
  refine gDup X57 hx (hb hby at_195) rfl ?_
  refine gBipush X57 hx (28 : Int32) (hb hby at_196) rfl ?_
  refine gGetS X57 hx hZ hown (tw hw 60 rfl) e57 (S28.ext O_57.2) (hb hby at_198) ?_
  intro T58 X58 e58
  show Go _ _ _ _ _ _ _ T58 (mkF m 201 #[.val (.int p0), .unset, .unset, .unset] [(.ref (a 28)), (.int (28 : Int32)), (.ref b1), (.ref b1)])
  refine gAastore X58 hx hZ e58 V57 (Ins.self (Ex28.ext O_57.2)) 28 rfl ⟨by decide, by decide⟩ (hb hby at_201) ?_
  intro T59 h59 X59 e59 W59 Vq59
  obtain ⟨f59, V59, hf59⟩ : ∃ f, RAr Z h59 b1 33 f ∧ ∀ j, j < 29 → f j = .ref (a j) := ⟨_, Vq59, own_updV hf57⟩
  have Z_59 := Nat.le_trans Z_57 (Nat.le_of_eq W59.size.symm)
  have O_59 := O_57.wr W59 g_b1
  have N_59 := Fr.snoc X59 N_57 g_b1
  show Go _ _ _ _ _ _ _ T59 (mkF m 202 #[.val (.int p0), .unset, .unset, .unset] [(.ref b1)])
  refine gDup X59 hx (hb hby at_202) rfl ?_
  refine gBipush X59 hx (29 : Int32) (hb hby at_203) rfl ?_
  refine gGetS X59 hx hZ hown (tw hw 62 rfl) e59 (S29.ext O_59.2) (hb hby at_205) ?_
  intro T60 X60 e60
  show Go _ _ _ _ _ _ _ T60 (mkF m 208 #[.val (.int p0), .unset, .unset, .unset] [(.ref (a 29)), (.int (29 : Int32)), (.ref b1), (.ref b1)])
  refine gAastore X60 hx hZ e60 V59 (Ins.self (Ex29.ext O_59.2)) 29 rfl ⟨by decide, by decide⟩ (hb hby at_208) ?_
  intro T61 h61 X61 e61 W61 Vq61
  obtain ⟨f61, V61, hf61⟩ : ∃ f, RAr Z h61 b1 33 f ∧ ∀ j, j < 30 → f j = .ref (a j) := ⟨_, Vq61, own_updV hf59⟩
  have Z_61 := Nat.le_trans Z_59 (Nat.le_of_eq W61.size.symm)
  have O_61 := O_59.wr W61 g_b1
  have N_61 := Fr.snoc X61 N_59 g_b1
  show Go _ _ _ _ _ _ _ T61 (mkF m 209 #[.val (.int p0), .unset, .unset, .unset] [(.ref b1)])
  refine gDup X61 hx (hb hby at_209) rfl ?_
  refine gBipush X61 hx (30 : Int32) (hb hby at_210) rfl ?_
  refine gGetS X61 hx hZ hown (tw hw 64 rfl) e61 (S30.ext O_61.2) (hb hby at_212) ?_
  intro T62 X62 e62
  show Go _ _ _ _ _ _ _ T62 (mkF m 215 #[.val (.int p0), .unset, .unset, .unset] [(.ref (a 30)), (.int (30 : Int32)), (.ref b1), (.ref b1)])
  refine gAastore X62 hx hZ e62 V61 (Ins.self (Ex30.ext O_61.2)) 30 rfl ⟨by decide, by decide⟩ (hb hby at_215) ?_
  intro T63 h63 X63 e63 W63 Vq63
  obtain ⟨f63, V63, hf63⟩ : ∃ f, RAr Z h63 b1 33 f ∧ ∀ j, j < 31 → f j = .ref (a j) := ⟨_, Vq63, own_updV hf61⟩
  have Z_63 := Nat.le_trans Z_61 (Nat.le_of_eq W63.size.symm)
  have O_63 := O_61.wr W63 g_b1
  have N_63 := Fr.snoc X63 N_61 g_b1
  show Go _ _ _ _ _ _ _ T63 (mkF m 216 #[.val (.int p0), .unset, .unset, .unset] [(.ref b1)])
  refine gDup X63 hx (hb hby at_216) rfl ?_
  refine gBipush X63 hx (31 : Int32) (hb hby at_217) rfl ?_
  refine gGetS X63 hx hZ hown (tw hw 66 rfl) e63 (S31.ext O_63.2) (hb hby at_219) ?_
  intro T64 X64 e64
  show Go _ _ _ _ _ _ _ T64 (mkF m 222 #[.val (.int p0), .unset, .unset, .unset] [(.ref (a 31)), (.int (31 : Int32)), (.ref b1), (.ref b1)])
  refine gAastore X64 hx hZ e64 V63 (Ins.self (Ex31.ext O_63.2)) 31 rfl ⟨by decide, by decide⟩ (hb hby at_222) ?_
  intro T65 h65 X65 e65 W65 Vq65
  obtain ⟨f65, V65, hf65⟩ : ∃ f, RAr Z h65 b1 33 f ∧ ∀ j, j < 32 → f j = .ref (a j) := ⟨_, Vq65, own_updV hf63⟩
  have Z_65 := Nat.le_trans Z_63 (Nat.le_of_eq W65.size.symm)
  have O_65 := O_63.wr W65 g_b1
  have N_65 := Fr.snoc X65 N_63 g_b1
  show Go _ _ _ _ _ _ _ T65 (mkF m 223 #[.val (.int p0), .unset, .unset, .unset] [(.ref b1)])
  refine gDup X65 hx (hb hby at_223) rfl ?_
  refine gBipush X65 hx (32 : Int32) (hb hby at_224) rfl ?_
  refine gGetS X65 hx hZ hown (tw hw 68 rfl) e65 (S32.ext O_65.2) (hb hby at_226) ?_
  intro T66 X66 e66
  show Go _ _ _ _ _ _ _ T66 (mkF m 229 #[.val (.int p0), .unset, .unset, .unset] [(.ref (a 32)), (.int (32 : Int32)), (.ref b1), (.ref b1)])
  refine gAastore X66 hx hZ e66 V65 (Ins.self (Ex32.ext O_65.2)) 32 rfl ⟨by decide, by decide⟩ (hb hby at_229) ?_
  intro T67 h67 X67 e67 W67 Vq67
  obtain ⟨f67, V67, hf67⟩ : ∃ f, RAr Z h67 b1 33 f ∧ ∀ j, j < 33 → f j = .ref (a j) := ⟨_, Vq67, own_updV hf65⟩
  have Z_67 := Nat.le_trans Z_65 (Nat.le_of_eq W67.size.symm)
  have O_67 := O_65.wr W67 g_b1
  have N_67 := Fr.snoc X67 N_65 g_b1
  show Go _ _ _ _ _ _ _ T67 (mkF m 230 #[.val (.int p0), .unset, .unset, .unset] [(.ref b1)])
  refine gAstoreN X67 hx #[.val (.int p0), .val (.ref b1), .unset, .unset] (hb hby at_230) rfl rfl ?_
  refine gIloadN X67 hx (hb hby at_231) rfl ?_
  refine gLdc X67 hx hZ (2147483647 : Int32) hown (tw hw 70 rfl) (hb hby at_232) ?_
  refine gIand X67 hx (hb hby at_234) ?_
  refine gBipush X67 hx (33 : Int32) (hb hby at_235) rfl ?_
  refine gIrem X67 hx (hb hby at_237) (by decide) ?_
  obtain ⟨i0, hi0, hie⟩ := own_idx p0
  rw [hie]
  refine gIstoreN X67 hx #[.val (.int p0), .val (.ref b1), .val (.int (Int32.ofNat i0)), .unset] (hb hby at_238) rfl ?_
  refine gAloadN X67 hx (hb hby at_239) rfl rfl ?_
  refine gIloadN X67 hx (hb hby at_240) rfl ?_
  refine gAaloadR X67 hx hZ e67 V67 ⟨own_nn hi0, by rw [own_n32 hi0]; exact hi0⟩ (hb hby at_241) ?_
  rw [own_n32 hi0, hf67 i0 hi0]
  show Go _ _ _ _ _ _ _ T67 (mkF m 242 #[.val (.int p0), .val (.ref b1), .val (.int (Int32.ofNat i0)), .unset] [(.ref (a i0))])
  refine gAstoreN X67 hx #[.val (.int p0), .val (.ref b1), .val (.int (Int32.ofNat i0)), .val (.ref (a i0))] (hb hby at_242) rfl rfl ?_
  refine gAloadN X67 hx (hb hby at_243) rfl rfl ?_
  have EI : Exa Z Z.heap (a i0) "com/example/deep_query/deepquery/xdm/AtomicType" := by
    have h33 : i0 = 0 ∨ i0 = 1 ∨ i0 = 2 ∨ i0 = 3 ∨ i0 = 4 ∨ i0 = 5 ∨ i0 = 6 ∨ i0 = 7 ∨ i0 = 8 ∨ i0 = 9 ∨ i0 = 10 ∨ i0 = 11 ∨ i0 = 12 ∨ i0 = 13 ∨ i0 = 14 ∨ i0 = 15 ∨ i0 = 16 ∨ i0 = 17 ∨ i0 = 18 ∨ i0 = 19 ∨ i0 = 20 ∨ i0 = 21 ∨ i0 = 22 ∨ i0 = 23 ∨ i0 = 24 ∨ i0 = 25 ∨ i0 = 26 ∨ i0 = 27 ∨ i0 = 28 ∨ i0 = 29 ∨ i0 = 30 ∨ i0 = 31 ∨ i0 = 32 := by omega
    rcases h33 with rfl | rfl | rfl | rfl | rfl | rfl | rfl | rfl | rfl | rfl | rfl | rfl | rfl | rfl | rfl | rfl | rfl | rfl | rfl | rfl | rfl | rfl | rfl | rfl | rfl | rfl | rfl | rfl | rfl | rfl | rfl | rfl | rfl
    · exact Ex0
    · exact Ex1
    · exact Ex2
    · exact Ex3
    · exact Ex4
    · exact Ex5
    · exact Ex6
    · exact Ex7
    · exact Ex8
    · exact Ex9
    · exact Ex10
    · exact Ex11
    · exact Ex12
    · exact Ex13
    · exact Ex14
    · exact Ex15
    · exact Ex16
    · exact Ex17
    · exact Ex18
    · exact Ex19
    · exact Ex20
    · exact Ex21
    · exact Ex22
    · exact Ex23
    · exact Ex24
    · exact Ex25
    · exact Ex26
    · exact Ex27
    · exact Ex28
    · exact Ex29
    · exact Ex30
    · exact Ex31
    · exact Ex32
  have EI2 := EI.ext O_67.2
  refine gVirtual X67 hx hZ (y := (⟨"com/example/deep_query/deepquery/xdm/AtomicType", "primitive", "()Lcom/example/deep_query/deepquery/xdm/AtomicType;"⟩ : MethodName)) (a := (a i0)) hown (by decide) (tw hw 71 rfl) (tw hw 72 rfl) (tw hw 73 rfl) (tw hw 74 rfl) (tw hw 3 rfl) (tw hw 75 rfl) EI2 (own_rm0 l Z a0 hw (a i0) h67 n0 Z_67 (a 0) (own_exp a (Int32.ofNat i0)) O_67 S0 ((own_prim B0 B1 B2 B3 B4 B5 B6 B7 B8 B9 B10 B11 B12 B13 B14 B15 B16 B17 B18 B19 B20 B21 B22 B23 B24 B25 B26 B27 B28 B29 B30 B31 B32 i0 hi0).ext O_67.2)) e67 (by rw [hml]; rfl) (argsL := []) (rest := []) (W := 0) (lenOf own_pd0 rfl) rfl (Nat.le_of_eq rfl) (by decide) (by decide) (by decide) (by decide) (hb hby at_244) ?_
  rintro _ T69 L69 X69 ⟨rfl, Nq69, e69⟩
  have N_69 := Fr.app N_67 Nq69
  show Go _ _ _ _ _ _ _ T69 (mkF m 247 #[.val (.int p0), .val (.ref b1), .val (.int (Int32.ofNat i0)), .val (.ref (a i0))] [(own_exp a (Int32.ofNat i0))])
  refine gIloadN X69 hx (hb hby at_247) rfl ?_
  refine gStatic X69 hx hZ (y := (⟨"com/example/deep_query/deepquery/xdm/AtomicTypePrimitivePinLaw", "expected", "(I)Lcom/example/deep_query/deepquery/xdm/AtomicType;"⟩ : MethodName)) hown (by decide) (tw hw 78 rfl) (tw hw 79 rfl) (tw hw 80 rfl) (tw hw 81 rfl) (own_rm1 l Z a0 hw a (Int32.ofNat i0) h67 n0 Z_67 O_67 S1 S2 S12 S13 S27 S28 S29 S30 S31 S32) e69 (by rw [hml]; rfl) (argsL := [(.int (Int32.ofNat i0))]) (rest := [(own_exp a (Int32.ofNat i0))]) (W := 1) (lenOf own_pd1 rfl) rfl (by simp [XT.cat1 (own_expR _ _)]) (by decide) (by decide) (by decide) (by decide) (hb hby at_248) ?_
  rintro _ T70 L70 X70 ⟨rfl, Nq70, e70⟩
  have N_70 := Fr.app N_69 Nq70
  show Go _ _ _ _ _ _ _ T70 (mkF m 251 #[.val (.int p0), .val (.ref b1), .val (.int (Int32.ofNat i0)), .val (.ref (a i0))] [(own_exp a (Int32.ofNat i0)), (own_exp a (Int32.ofNat i0))])
  refine gAcmpSame X70 hx 258 (hb hby at_251) (own_expR _ _) (by decide) (by decide) ?_
  show Go _ _ _ _ _ _ _ T70 (mkF m 254 #[.val (.int p0), .val (.ref b1), .val (.int (Int32.ofNat i0)), .val (.ref (a i0))] [])
  refine gIconst X70 hx (1 : Int32) (hb hby at_254) rfl ?_
  refine gGoto X70 hx 259 (hb hby at_255) (by decide) (by decide) ?_
  subst e70
  exact gRetZ X70 hx hlk hret (by simp) (hb hby at_259) (z' := (1 : Int32)) rfl (by decide) (by decide) ⟨rfl, N_70⟩
set_option maxRecDepth 65536 in
set_option maxHeartbeats 40000000 in
theorem comes_1 {Post : Tables → Env → Array Value → State → Outcome → State → Prop} (hpost : ∀ tb e args s v u, (limb_1_1.after args s (.returned v) u = true ∧ limb_1_2.after args s (.returned v) u = true ∧ True) → FrameEnd s (.returned v) u (Jvm.fieldLocs frame_1_writes args s ++ Jvm.arrayLocs frame_1_arrays args s ++ Jvm.staticLocs frame_1_statics s) 16 192 → Post tb e args s (.returned v) u) :
    ArmFor flags0 classFile x code maxLocals ret World_1 tables_1 room_1 Calls_1 rest_1 Pre_1 Post := by
  intro l hfl _ _ p e ha hc hk s m args below hf hA hF happ hP
  obtain ⟨hcalls, hrest, hpre⟩ := hP
  obtain ⟨-, -, -, hnamed, -, -, -, hat⟩ := (Spec.applies_iff hf).mp happ
  obtain ⟨hg, hn⟩ := and_e (Cond.before_iff.mp (show (Jvm.Cond.and given_1 narrow_1).before args s = true from hpre))
  obtain ⟨h1, hr0⟩ := and_e hg
  have hv0 := hr0
  obtain ⟨w0, rfl⟩ : ∃ w0 : Value, args = #[w0] := by
    have hs : args.size = 1 := by simpa [Cond.value, given_1] using h1
    obtain ⟨L⟩ := args
    match L, hs with
    | [w0], _ => exact ⟨w0, rfl⟩
  have hw := fun d (hd : d ∈ tables_1) => atoms_spec (ws := Jvm.Cond.code x code maxLocals ret :: tables_1) hat d (List.mem_cons_of_mem _ hd)
  obtain ⟨i0, ei0⟩ := is_v hv0
  obtain rfl : w0 = (.int i0) := Option.some.inj ei0
  have hinit := hw _ (List.mem_of_getElem? (i := 3) rfl)
  obtain ⟨q0, hn⟩ := and_e hn
  obtain ⟨q1, hn⟩ := and_e hn
  obtain ⟨q2, hn⟩ := and_e hn
  obtain ⟨q3, hn⟩ := and_e hn
  obtain ⟨q4, hn⟩ := and_e hn
  obtain ⟨q5, hn⟩ := and_e hn
  obtain ⟨q6, hn⟩ := and_e hn
  obtain ⟨q7, hn⟩ := and_e hn
  obtain ⟨q8, hn⟩ := and_e hn
  obtain ⟨q9, hn⟩ := and_e hn
  obtain ⟨q10, hn⟩ := and_e hn
  obtain ⟨q11, hn⟩ := and_e hn
  obtain ⟨q12, hn⟩ := and_e hn
  obtain ⟨q13, hn⟩ := and_e hn
  obtain ⟨q14, hn⟩ := and_e hn
  obtain ⟨q15, hn⟩ := and_e hn
  obtain ⟨q16, hn⟩ := and_e hn
  obtain ⟨q17, hn⟩ := and_e hn
  obtain ⟨q18, hn⟩ := and_e hn
  obtain ⟨q19, hn⟩ := and_e hn
  obtain ⟨q20, hn⟩ := and_e hn
  obtain ⟨q21, hn⟩ := and_e hn
  obtain ⟨q22, hn⟩ := and_e hn
  obtain ⟨q23, hn⟩ := and_e hn
  obtain ⟨q24, hn⟩ := and_e hn
  obtain ⟨q25, hn⟩ := and_e hn
  obtain ⟨q26, hn⟩ := and_e hn
  obtain ⟨q27, hn⟩ := and_e hn
  obtain ⟨q28, hn⟩ := and_e hn
  obtain ⟨q29, hn⟩ := and_e hn
  obtain ⟨q30, hn⟩ := and_e hn
  obtain ⟨q31, hn⟩ := and_e hn
  obtain ⟨q32, hn⟩ := and_e hn
  obtain ⟨q33, hn⟩ := and_e hn
  obtain ⟨q34, hn⟩ := and_e hn
  obtain ⟨q35, hn⟩ := and_e hn
  obtain ⟨q36, hn⟩ := and_e hn
  obtain ⟨q37, hn⟩ := and_e hn
  obtain ⟨q38, hn⟩ := and_e hn
  obtain ⟨q39, hn⟩ := and_e hn
  obtain ⟨q40, hn⟩ := and_e hn
  obtain ⟨q41, hn⟩ := and_e hn
  obtain ⟨q42, hn⟩ := and_e hn
  obtain ⟨q43, hn⟩ := and_e hn
  obtain ⟨q44, hn⟩ := and_e hn
  obtain ⟨q45, hn⟩ := and_e hn
  obtain ⟨q46, hn⟩ := and_e hn
  obtain ⟨q47, hn⟩ := and_e hn
  obtain ⟨q48, hn⟩ := and_e hn
  obtain ⟨q49, hn⟩ := and_e hn
  obtain ⟨q50, hn⟩ := and_e hn
  obtain ⟨q51, hn⟩ := and_e hn
  obtain ⟨q52, hn⟩ := and_e hn
  obtain ⟨q53, hn⟩ := and_e hn
  obtain ⟨q54, hn⟩ := and_e hn
  obtain ⟨q55, hn⟩ := and_e hn
  obtain ⟨q56, hn⟩ := and_e hn
  obtain ⟨q57, hn⟩ := and_e hn
  obtain ⟨q58, hn⟩ := and_e hn
  obtain ⟨q59, hn⟩ := and_e hn
  obtain ⟨q60, hn⟩ := and_e hn
  obtain ⟨q61, hn⟩ := and_e hn
  obtain ⟨q62, hn⟩ := and_e hn
  obtain ⟨q63, hn⟩ := and_e hn
  obtain ⟨q64, hn⟩ := and_e hn
  obtain ⟨q65, hn⟩ := and_e hn
  obtain ⟨q66, hn⟩ := and_e hn
  obtain ⟨q67, hn⟩ := and_e hn
  obtain ⟨q68, hn⟩ := and_e hn
  obtain ⟨q69, hn⟩ := and_e hn
  obtain ⟨q70, hn⟩ := and_e hn
  obtain ⟨q71, hn⟩ := and_e hn
  obtain ⟨q72, hn⟩ := and_e hn
  obtain ⟨q73, hn⟩ := and_e hn
  obtain ⟨q74, hn⟩ := and_e hn
  obtain ⟨q75, hn⟩ := and_e hn
  obtain ⟨q76, hn⟩ := and_e hn
  obtain ⟨q77, hn⟩ := and_e hn
  obtain ⟨q78, hn⟩ := and_e hn
  obtain ⟨q79, hn⟩ := and_e hn
  obtain ⟨q80, hn⟩ := and_e hn
  have q81 := hn
  obtain ⟨a0, ea0⟩ := exa_v q0
  have S0 : Sta s s.heap "com/example/deep_query/deepquery/xdm/AtomicType" "ANY_ATOMIC_TYPE" "Lcom/example/deep_query/deepquery/xdm/AtomicType;" (.ref a0) := Sta.start ea0 (Or.inr ⟨hinit, hw _ (List.mem_of_getElem? (i := 4) rfl)⟩)
  have E0 := Exa.start ea0 q0
  obtain ⟨a1, ea1⟩ := exa_v q1
  have S1 : Sta s s.heap "com/example/deep_query/deepquery/xdm/AtomicType" "UNTYPED_ATOMIC" "Lcom/example/deep_query/deepquery/xdm/AtomicType;" (.ref a1) := Sta.start ea1 (Or.inr ⟨hinit, hw _ (List.mem_of_getElem? (i := 7) rfl)⟩)
  have E1 := Exa.start ea1 q1
  obtain ⟨a2, ea2⟩ := exa_v q2
  have S2 : Sta s s.heap "com/example/deep_query/deepquery/xdm/AtomicType" "STRING" "Lcom/example/deep_query/deepquery/xdm/AtomicType;" (.ref a2) := Sta.start ea2 (Or.inr ⟨hinit, hw _ (List.mem_of_getElem? (i := 9) rfl)⟩)
  have E2 := Exa.start ea2 q2
  obtain ⟨a3, ea3⟩ := exa_v q3
  have S3 : Sta s s.heap "com/example/deep_query/deepquery/xdm/AtomicType" "NORMALIZED_STRING" "Lcom/example/deep_query/deepquery/xdm/AtomicType;" (.ref a3) := Sta.start ea3 (Or.inr ⟨hinit, hw _ (List.mem_of_getElem? (i := 11) rfl)⟩)
  have E3 := Exa.start ea3 q3
  obtain ⟨a4, ea4⟩ := exa_v q4
  have S4 : Sta s s.heap "com/example/deep_query/deepquery/xdm/AtomicType" "TOKEN" "Lcom/example/deep_query/deepquery/xdm/AtomicType;" (.ref a4) := Sta.start ea4 (Or.inr ⟨hinit, hw _ (List.mem_of_getElem? (i := 13) rfl)⟩)
  have E4 := Exa.start ea4 q4
  obtain ⟨a5, ea5⟩ := exa_v q5
  have S5 : Sta s s.heap "com/example/deep_query/deepquery/xdm/AtomicType" "LANGUAGE" "Lcom/example/deep_query/deepquery/xdm/AtomicType;" (.ref a5) := Sta.start ea5 (Or.inr ⟨hinit, hw _ (List.mem_of_getElem? (i := 15) rfl)⟩)
  have E5 := Exa.start ea5 q5
  obtain ⟨a6, ea6⟩ := exa_v q6
  have S6 : Sta s s.heap "com/example/deep_query/deepquery/xdm/AtomicType" "NMTOKEN" "Lcom/example/deep_query/deepquery/xdm/AtomicType;" (.ref a6) := Sta.start ea6 (Or.inr ⟨hinit, hw _ (List.mem_of_getElem? (i := 17) rfl)⟩)
  have E6 := Exa.start ea6 q6
  obtain ⟨a7, ea7⟩ := exa_v q7
  have S7 : Sta s s.heap "com/example/deep_query/deepquery/xdm/AtomicType" "NAME" "Lcom/example/deep_query/deepquery/xdm/AtomicType;" (.ref a7) := Sta.start ea7 (Or.inr ⟨hinit, hw _ (List.mem_of_getElem? (i := 19) rfl)⟩)
  have E7 := Exa.start ea7 q7
  obtain ⟨a8, ea8⟩ := exa_v q8
  have S8 : Sta s s.heap "com/example/deep_query/deepquery/xdm/AtomicType" "NCNAME" "Lcom/example/deep_query/deepquery/xdm/AtomicType;" (.ref a8) := Sta.start ea8 (Or.inr ⟨hinit, hw _ (List.mem_of_getElem? (i := 21) rfl)⟩)
  have E8 := Exa.start ea8 q8
  obtain ⟨a9, ea9⟩ := exa_v q9
  have S9 : Sta s s.heap "com/example/deep_query/deepquery/xdm/AtomicType" "ID" "Lcom/example/deep_query/deepquery/xdm/AtomicType;" (.ref a9) := Sta.start ea9 (Or.inr ⟨hinit, hw _ (List.mem_of_getElem? (i := 23) rfl)⟩)
  have E9 := Exa.start ea9 q9
  obtain ⟨a10, ea10⟩ := exa_v q10
  have S10 : Sta s s.heap "com/example/deep_query/deepquery/xdm/AtomicType" "IDREF" "Lcom/example/deep_query/deepquery/xdm/AtomicType;" (.ref a10) := Sta.start ea10 (Or.inr ⟨hinit, hw _ (List.mem_of_getElem? (i := 25) rfl)⟩)
  have E10 := Exa.start ea10 q10
  obtain ⟨a11, ea11⟩ := exa_v q11
  have S11 : Sta s s.heap "com/example/deep_query/deepquery/xdm/AtomicType" "ENTITY" "Lcom/example/deep_query/deepquery/xdm/AtomicType;" (.ref a11) := Sta.start ea11 (Or.inr ⟨hinit, hw _ (List.mem_of_getElem? (i := 27) rfl)⟩)
  have E11 := Exa.start ea11 q11
  obtain ⟨a12, ea12⟩ := exa_v q12
  have S12 : Sta s s.heap "com/example/deep_query/deepquery/xdm/AtomicType" "BOOLEAN" "Lcom/example/deep_query/deepquery/xdm/AtomicType;" (.ref a12) := Sta.start ea12 (Or.inr ⟨hinit, hw _ (List.mem_of_getElem? (i := 29) rfl)⟩)
  have E12 := Exa.start ea12 q12
  obtain ⟨a13, ea13⟩ := exa_v q13
  have S13 : Sta s s.heap "com/example/deep_query/deepquery/xdm/AtomicType" "DECIMAL" "Lcom/example/deep_query/deepquery/xdm/AtomicType;" (.ref a13) := Sta.start ea13 (Or.inr ⟨hinit, hw _ (List.mem_of_getElem? (i := 31) rfl)⟩)
  have E13 := Exa.start ea13 q13
  obtain ⟨a14, ea14⟩ := exa_v q14
  have S14 : Sta s s.heap "com/example/deep_query/deepquery/xdm/AtomicType" "INTEGER" "Lcom/example/deep_query/deepquery/xdm/AtomicType;" (.ref a14) := Sta.start ea14 (Or.inr ⟨hinit, hw _ (List.mem_of_getElem? (i := 33) rfl)⟩)
  have E14 := Exa.start ea14 q14
  obtain ⟨a15, ea15⟩ := exa_v q15
  have S15 : Sta s s.heap "com/example/deep_query/deepquery/xdm/AtomicType" "NON_POSITIVE_INTEGER" "Lcom/example/deep_query/deepquery/xdm/AtomicType;" (.ref a15) := Sta.start ea15 (Or.inr ⟨hinit, hw _ (List.mem_of_getElem? (i := 35) rfl)⟩)
  have E15 := Exa.start ea15 q15
  obtain ⟨a16, ea16⟩ := exa_v q16
  have S16 : Sta s s.heap "com/example/deep_query/deepquery/xdm/AtomicType" "NEGATIVE_INTEGER" "Lcom/example/deep_query/deepquery/xdm/AtomicType;" (.ref a16) := Sta.start ea16 (Or.inr ⟨hinit, hw _ (List.mem_of_getElem? (i := 37) rfl)⟩)
  have E16 := Exa.start ea16 q16
  obtain ⟨a17, ea17⟩ := exa_v q17
  have S17 : Sta s s.heap "com/example/deep_query/deepquery/xdm/AtomicType" "LONG" "Lcom/example/deep_query/deepquery/xdm/AtomicType;" (.ref a17) := Sta.start ea17 (Or.inr ⟨hinit, hw _ (List.mem_of_getElem? (i := 39) rfl)⟩)
  have E17 := Exa.start ea17 q17
  obtain ⟨a18, ea18⟩ := exa_v q18
  have S18 : Sta s s.heap "com/example/deep_query/deepquery/xdm/AtomicType" "INT" "Lcom/example/deep_query/deepquery/xdm/AtomicType;" (.ref a18) := Sta.start ea18 (Or.inr ⟨hinit, hw _ (List.mem_of_getElem? (i := 41) rfl)⟩)
  have E18 := Exa.start ea18 q18
  obtain ⟨a19, ea19⟩ := exa_v q19
  have S19 : Sta s s.heap "com/example/deep_query/deepquery/xdm/AtomicType" "SHORT" "Lcom/example/deep_query/deepquery/xdm/AtomicType;" (.ref a19) := Sta.start ea19 (Or.inr ⟨hinit, hw _ (List.mem_of_getElem? (i := 43) rfl)⟩)
  have E19 := Exa.start ea19 q19
  obtain ⟨a20, ea20⟩ := exa_v q20
  have S20 : Sta s s.heap "com/example/deep_query/deepquery/xdm/AtomicType" "BYTE" "Lcom/example/deep_query/deepquery/xdm/AtomicType;" (.ref a20) := Sta.start ea20 (Or.inr ⟨hinit, hw _ (List.mem_of_getElem? (i := 45) rfl)⟩)
  have E20 := Exa.start ea20 q20
  obtain ⟨a21, ea21⟩ := exa_v q21
  have S21 : Sta s s.heap "com/example/deep_query/deepquery/xdm/AtomicType" "NON_NEGATIVE_INTEGER" "Lcom/example/deep_query/deepquery/xdm/AtomicType;" (.ref a21) := Sta.start ea21 (Or.inr ⟨hinit, hw _ (List.mem_of_getElem? (i := 47) rfl)⟩)
  have E21 := Exa.start ea21 q21
  obtain ⟨a22, ea22⟩ := exa_v q22
  have S22 : Sta s s.heap "com/example/deep_query/deepquery/xdm/AtomicType" "UNSIGNED_LONG" "Lcom/example/deep_query/deepquery/xdm/AtomicType;" (.ref a22) := Sta.start ea22 (Or.inr ⟨hinit, hw _ (List.mem_of_getElem? (i := 49) rfl)⟩)
  have E22 := Exa.start ea22 q22
  obtain ⟨a23, ea23⟩ := exa_v q23
  have S23 : Sta s s.heap "com/example/deep_query/deepquery/xdm/AtomicType" "UNSIGNED_INT" "Lcom/example/deep_query/deepquery/xdm/AtomicType;" (.ref a23) := Sta.start ea23 (Or.inr ⟨hinit, hw _ (List.mem_of_getElem? (i := 51) rfl)⟩)
  have E23 := Exa.start ea23 q23
  obtain ⟨a24, ea24⟩ := exa_v q24
  have S24 : Sta s s.heap "com/example/deep_query/deepquery/xdm/AtomicType" "UNSIGNED_SHORT" "Lcom/example/deep_query/deepquery/xdm/AtomicType;" (.ref a24) := Sta.start ea24 (Or.inr ⟨hinit, hw _ (List.mem_of_getElem? (i := 53) rfl)⟩)
  have E24 := Exa.start ea24 q24
  obtain ⟨a25, ea25⟩ := exa_v q25
  have S25 : Sta s s.heap "com/example/deep_query/deepquery/xdm/AtomicType" "UNSIGNED_BYTE" "Lcom/example/deep_query/deepquery/xdm/AtomicType;" (.ref a25) := Sta.start ea25 (Or.inr ⟨hinit, hw _ (List.mem_of_getElem? (i := 55) rfl)⟩)
  have E25 := Exa.start ea25 q25
  obtain ⟨a26, ea26⟩ := exa_v q26
  have S26 : Sta s s.heap "com/example/deep_query/deepquery/xdm/AtomicType" "POSITIVE_INTEGER" "Lcom/example/deep_query/deepquery/xdm/AtomicType;" (.ref a26) := Sta.start ea26 (Or.inr ⟨hinit, hw _ (List.mem_of_getElem? (i := 57) rfl)⟩)
  have E26 := Exa.start ea26 q26
  obtain ⟨a27, ea27⟩ := exa_v q27
  have S27 : Sta s s.heap "com/example/deep_query/deepquery/xdm/AtomicType" "FLOAT" "Lcom/example/deep_query/deepquery/xdm/AtomicType;" (.ref a27) := Sta.start ea27 (Or.inr ⟨hinit, hw _ (List.mem_of_getElem? (i := 59) rfl)⟩)
  have E27 := Exa.start ea27 q27
  obtain ⟨a28, ea28⟩ := exa_v q28
  have S28 : Sta s s.heap "com/example/deep_query/deepquery/xdm/AtomicType" "DOUBLE" "Lcom/example/deep_query/deepquery/xdm/AtomicType;" (.ref a28) := Sta.start ea28 (Or.inr ⟨hinit, hw _ (List.mem_of_getElem? (i := 61) rfl)⟩)
  have E28 := Exa.start ea28 q28
  obtain ⟨a29, ea29⟩ := exa_v q29
  have S29 : Sta s s.heap "com/example/deep_query/deepquery/xdm/AtomicType" "ANY_URI" "Lcom/example/deep_query/deepquery/xdm/AtomicType;" (.ref a29) := Sta.start ea29 (Or.inr ⟨hinit, hw _ (List.mem_of_getElem? (i := 63) rfl)⟩)
  have E29 := Exa.start ea29 q29
  obtain ⟨a30, ea30⟩ := exa_v q30
  have S30 : Sta s s.heap "com/example/deep_query/deepquery/xdm/AtomicType" "QNAME" "Lcom/example/deep_query/deepquery/xdm/AtomicType;" (.ref a30) := Sta.start ea30 (Or.inr ⟨hinit, hw _ (List.mem_of_getElem? (i := 65) rfl)⟩)
  have E30 := Exa.start ea30 q30
  obtain ⟨a31, ea31⟩ := exa_v q31
  have S31 : Sta s s.heap "com/example/deep_query/deepquery/xdm/AtomicType" "HEX_BINARY" "Lcom/example/deep_query/deepquery/xdm/AtomicType;" (.ref a31) := Sta.start ea31 (Or.inr ⟨hinit, hw _ (List.mem_of_getElem? (i := 67) rfl)⟩)
  have E31 := Exa.start ea31 q31
  obtain ⟨a32, ea32⟩ := exa_v q32
  have S32 : Sta s s.heap "com/example/deep_query/deepquery/xdm/AtomicType" "BASE64_BINARY" "Lcom/example/deep_query/deepquery/xdm/AtomicType;" (.ref a32) := Sta.start ea32 (Or.inr ⟨hinit, hw _ (List.mem_of_getElem? (i := 69) rfl)⟩)
  have E32 := Exa.start ea32 q32
  have B0 := Fld.start ((fld_at ea0).symm.trans (null_v q33))
  have B3 := Fld.start ((fld_at ea3).symm.trans (own_eqr ea2 q34))
  have B2 := Fld.start ((fld_at ea2).symm.trans (own_eqr ea0 q37))
  have B11 := Fld.start ((fld_at ea11).symm.trans (own_eqr ea8 q38))
  have B8 := Fld.start ((fld_at ea8).symm.trans (own_eqr ea7 q40))
  have B7 := Fld.start ((fld_at ea7).symm.trans (own_eqr ea4 q42))
  have B4 := Fld.start ((fld_at ea4).symm.trans (own_eqr ea3 q44))
  have B25 := Fld.start ((fld_at ea25).symm.trans (own_eqr ea24 q46))
  have B24 := Fld.start ((fld_at ea24).symm.trans (own_eqr ea23 q48))
  have B23 := Fld.start ((fld_at ea23).symm.trans (own_eqr ea22 q50))
  have B22 := Fld.start ((fld_at ea22).symm.trans (own_eqr ea21 q52))
  have B21 := Fld.start ((fld_at ea21).symm.trans (own_eqr ea14 q54))
  have B14 := Fld.start ((fld_at ea14).symm.trans (own_eqr ea13 q56))
  have B13 := Fld.start ((fld_at ea13).symm.trans (own_eqr ea0 q58))
  have B18 := Fld.start ((fld_at ea18).symm.trans (own_eqr ea17 q59))
  have B17 := Fld.start ((fld_at ea17).symm.trans (own_eqr ea14 q61))
  have B10 := Fld.start ((fld_at ea10).symm.trans (own_eqr ea8 q62))
  have B1 := Fld.start ((fld_at ea1).symm.trans (own_eqr ea0 q63))
  have B20 := Fld.start ((fld_at ea20).symm.trans (own_eqr ea19 q64))
  have B19 := Fld.start ((fld_at ea19).symm.trans (own_eqr ea18 q66))
  have B16 := Fld.start ((fld_at ea16).symm.trans (own_eqr ea15 q68))
  have B15 := Fld.start ((fld_at ea15).symm.trans (own_eqr ea14 q70))
  have B27 := Fld.start ((fld_at ea27).symm.trans (own_eqr ea0 q71))
  have B28 := Fld.start ((fld_at ea28).symm.trans (own_eqr ea0 q72))
  have B12 := Fld.start ((fld_at ea12).symm.trans (own_eqr ea0 q73))
  have B5 := Fld.start ((fld_at ea5).symm.trans (own_eqr ea4 q74))
  have B30 := Fld.start ((fld_at ea30).symm.trans (own_eqr ea0 q75))
  have B29 := Fld.start ((fld_at ea29).symm.trans (own_eqr ea0 q76))
  have B26 := Fld.start ((fld_at ea26).symm.trans (own_eqr ea21 q77))
  have B32 := Fld.start ((fld_at ea32).symm.trans (own_eqr ea0 q78))
  have B6 := Fld.start ((fld_at ea6).symm.trans (own_eqr ea4 q79))
  have B9 := Fld.start ((fld_at ea9).symm.trans (own_eqr ea8 q80))
  have B31 := Fld.start ((fld_at ea31).symm.trans (own_eqr ea0 q81))
  obtain ⟨n, o, h1, h2, h3, _, L, rfl, ⟨rfl, N⟩, hq⟩ := own_rm2 l s _ hw i0 s.heap s.heap.size (Nat.le_refl _) (fun k => [a0, a1, a2, a3, a4, a5, a6, a7, a8, a9, a10, a11, a12, a13, a14, a15, a16, a17, a18, a19, a20, a21, a22, a23, a24, a25, a26, a27, a28, a29, a30, a31, a32].getD k 0) (Old.start s) S0 S1 S2 S3 S4 S5 S6 S7 S8 S9 S10 S11 S12 S13 S14 S15 S16 S17 S18 S19 S20 S21 S22 S23 S24 S25 S26 S27 S28 S29 S30 S31 S32 E0 E1 E2 E3 E4 E5 E6 E7 E8 E9 E10 E11 E12 E13 E14 E15 E16 E17 E18 E19 E20 E21 E22 E23 E24 E25 E26 E27 E28 E29 E30 E31 E32 B0 B1 B2 B3 B4 B5 B6 B7 B8 B9 B10 B11 B12 B13 B14 B15 B16 B17 B18 B19 B20 B21 B22 B23 B24 B25 B26 B27 B28 B29 B30 B31 B32 p e ha hc hk s m _ below hf ((Spec.applies_iff_loose hf).mp happ).1 ⟨rfl, State.Warmed39.refl s, rfl⟩ trivial
  refine ⟨n, _, h1, h2, h3, hpost _ _ _ _ _ _ ⟨Cond.after_iff.mpr rfl, Cond.after_iff.mpr (eq_i res_at (Term.int_eval (1)) rfl), trivial⟩ ⟨hq.1, hq.2.1, (hq.2.2.sift fun y hy => Or.inr (N y hy)).mono (by decide) (by decide)⟩⟩
theorem main_1_1 : Claimed_1_1 := comes_1 fun _ _ _ _ _ _ h hF => ⟨h.1, hF⟩
theorem main_1_2 : Claimed_1_2 := comes_1 fun _ _ _ _ _ _ h hF => ⟨h.2.1, hF⟩
end Jvm.Pilot.@@N@@
namespace Jvm.Pilot.@@N@@
open Jvm Jvm.ClassFile Sem Op Lib Jvm.Free Jvm.Stand Jvm.Pilot.@@N@@.Jvm.D
/-! MADE BY PROGRAM (witnessworld.py) out of the Statement's table words and the real class files: 13 classes; the members and pool entries that the words name. The judged class is class 1, her method 1. -/
namespace start1
open Jvm.ClassFile
def u (s : String) : CpInfo := .utf8 (stringToUtf16 s)
/-- a pool by its gaps: so many unusable entries, then the entry; so many at the end -/
def gap : Nat → List CpInfo → List CpInfo
  | 0, r => r
  | n + 1, r => .unusable :: gap n r
def poolList (es : List (Nat × CpInfo)) (last : Nat) : List CpInfo := es.foldr (fun e r => gap e.1 (e.2 :: r)) (gap last [])
def pool (es : List (Nat × CpInfo)) (last : Nat) : Array CpInfo := ⟨poolList es last⟩
def fileOf (pool : Array CpInfo) (this : Nat) (attrs : Array Attribute := #[]) (ms : Array MethodInfo := #[]) (fl : Nat := 33) (sup : Nat := 0) (ifs : Array Nat := #[]) (fds : Array FieldInfo := #[]) : ClassFile where
  minorVersion := 0
  majorVersion := 65
  constantPool := pool
  accessFlags := fl
  thisClass := this
  superClass := sup
  interfaces := ifs
  fields := fds
  methods := ms
  attributes := attrs
def plain (name : String) (sup : Option ClassId) : Class where
  name := name
  kind := .ordinary
  loader := none
  accessFlags := 33
  super := sup
  interfaces := #[]
  cf := none
  fields := #[]
  methods := #[]
  instanceTypes := #[]
  staticTypes := #[]
  resolved := #[]
  callSites := []
  init := .initialized
  statics := none
  mirror := none

def pool0 : Array CpInfo := pool [(5, u "<init>"), (0, u "()V"), (1, .class_ 10), (1, u "java/lang/Object")] 113

def k0m0 : Method := { name := "<init>", desc := "()V", sig := { parameters := [], returnType := none }, accessFlags := 1, code := none }
/-- java/lang/Object -/
def k0 : Class := { plain "java/lang/Object" none with
  accessFlags := 33
  interfaces := #[]
  cf := some (fileOf pool0 8 #[] #[{ accessFlags := 1, nameIndex := 5, descriptorIndex := 6, attributes := #[] }] 33 0 #[] #[])
  fields := #[]
  methods := #[k0m0]
  instanceTypes := #[]
  staticTypes := #[]
  resolved := Array.replicate 124 none
  statics := none }

def pool1 : Array CpInfo := pool [(2, .class_ 4), (1, u "java/lang/Object"), (0, u "<init>"), (0, u "()V"), (0, .class_ 8), (0, u "com/example/deep_query/deepquery/xdm/AtomicType"), (0, .fieldref 7 10), (0, .nameAndType 11 12), (0, u "ANY_ATOMIC_TYPE"), (0, u "Lcom/example/deep_query/deepquery/xdm/AtomicType;"), (0, .fieldref 7 14), (0, .nameAndType 15 12), (0, u "UNTYPED_ATOMIC"), (0, .fieldref 7 17), (0, .nameAndType 18 12), (0, u "STRING"), (0, .fieldref 7 20), (0, .nameAndType 21 12), (0, u "NORMALIZED_STRING"), (0, .fieldref 7 23), (0, .nameAndType 24 12), (0, u "TOKEN"), (0, .fieldref 7 26), (0, .nameAndType 27 12), (0, u "LANGUAGE"), (0, .fieldref 7 29), (0, .nameAndType 30 12), (0, u "NMTOKEN"), (0, .fieldref 7 32), (0, .nameAndType 33 12), (0, u "NAME"), (0, .fieldref 7 35), (0, .nameAndType 36 12), (0, u "NCNAME"), (0, .fieldref 7 38), (0, .nameAndType 39 12), (0, u "ID"), (0, .fieldref 7 41), (0, .nameAndType 42 12), (0, u "IDREF"), (0, .fieldref 7 44), (0, .nameAndType 45 12), (0, u "ENTITY"), (0, .fieldref 7 47), (0, .nameAndType 48 12), (0, u "BOOLEAN"), (0, .fieldref 7 50), (0, .nameAndType 51 12), (0, u "DECIMAL"), (0, .fieldref 7 53), (0, .nameAndType 54 12), (0, u "INTEGER"), (0, .fieldref 7 56), (0, .nameAndType 57 12), (0, u "NON_POSITIVE_INTEGER"), (0, .fieldref 7 59), (0, .nameAndType 60 12), (0, u "NEGATIVE_INTEGER"), (0, .fieldref 7 62), (0, .nameAndType 63 12), (0, u "LONG"), (0, .fieldref 7 65), (0, .nameAndType 66 12), (0, u "INT"), (0, .fieldref 7 68), (0, .nameAndType 69 12), (0, u "SHORT"), (0, .fieldref 7 71), (0, .nameAndType 72 12), (0, u "BYTE"), (0, .fieldref 7 74), (0, .nameAndType 75 12), (0, u "NON_NEGATIVE_INTEGER"), (0, .fieldref 7 77), (0, .nameAndType 78 12), (0, u "UNSIGNED_LONG"), (0, .fieldref 7 80), (0, .nameAndType 81 12), (0, u "UNSIGNED_INT"), (0, .fieldref 7 83), (0, .nameAndType 84 12), (0, u "UNSIGNED_SHORT"), (0, .fieldref 7 86), (0, .nameAndType 87 12), (0, u "UNSIGNED_BYTE"), (0, .fieldref 7 89), (0, .nameAndType 90 12), (0, u "POSITIVE_INTEGER"), (0, .fieldref 7 92), (0, .nameAndType 93 12), (0, u "FLOAT"), (0, .fieldref 7 95), (0, .nameAndType 96 12), (0, u "DOUBLE"), (0, .fieldref 7 98), (0, .nameAndType 99 12), (0, u "ANY_URI"), (0, .fieldref 7 101), (0, .nameAndType 102 12), (0, u "QNAME"), (0, .fieldref 7 104), (0, .nameAndType 105 12), (0, u "HEX_BINARY"), (0, .fieldref 7 107), (0, .nameAndType 108 12), (0, u "BASE64_BINARY"), (0, .integer 2147483647), (0, .methodref 7 111), (0, .nameAndType 112 113), (0, u "primitive"), (0, u "()Lcom/example/deep_query/deepquery/xdm/AtomicType;"), (0, .methodref 115 116), (0, .class_ 117), (0, .nameAndType 118 119), (0, u "com/example/deep_query/deepquery/xdm/AtomicTypePrimitivePinLaw"), (0, u "expected"), (0, u "(I)Lcom/example/deep_query/deepquery/xdm/AtomicType;"), (2, u "law"), (0, u "(I)Z")] 5

def k1m0 : Method := { name := "<init>", desc := "()V", sig := { parameters := [], returnType := none }, accessFlags := 1, code := none }
def k1c1 : Code := { maxStack := 4, maxLocals := 4, code := code, exceptionTable := #[], attributes := #[] }
def k1m1 : Method := { name := "law", desc := "(I)Z", sig := { parameters := [.int], returnType := some .boolean }, accessFlags := 9, code := some k1c1 }
def k1c2 : Code := { maxStack := 2, maxLocals := 1, code := method_3_code, exceptionTable := #[], attributes := #[] }
def k1m2 : Method := { name := "expected", desc := "(I)Lcom/example/deep_query/deepquery/xdm/AtomicType;", sig := { parameters := [.int], returnType := some (.object "com/example/deep_query/deepquery/xdm/AtomicType") }, accessFlags := 10, code := some k1c2 }
/-- com/example/deep_query/deepquery/xdm/AtomicTypePrimitivePinLaw -/
def k1 : Class := { plain "com/example/deep_query/deepquery/xdm/AtomicTypePrimitivePinLaw" (some 0) with
  accessFlags := 49
  interfaces := #[]
  cf := some (fileOf pool1 115 #[] #[{ accessFlags := 1, nameIndex := 5, descriptorIndex := 6, attributes := #[] }, { accessFlags := 9, nameIndex := 122, descriptorIndex := 123, attributes := #[] }, { accessFlags := 10, nameIndex := 118, descriptorIndex := 119, attributes := #[] }] 49 2 #[] #[])
  fields := #[]
  methods := #[k1m0, k1m1, k1m2]
  instanceTypes := #[]
  staticTypes := #[]
  resolved := Array.replicate 129 none
  statics := none }

def pool2 : Array CpInfo := pool [(1, .class_ 2), (0, u "java/lang/constant/Constable"), (0, .class_ 4), (0, u "java/lang/Object")] 6

/-- java/lang/constant/Constable -/
def k2 : Class := { plain "java/lang/constant/Constable" (some 0) with
  accessFlags := 1537
  interfaces := #[]
  cf := some (fileOf pool2 1 #[] #[] 1537 3 #[] #[])
  fields := #[]
  methods := #[]
  instanceTypes := #[]
  staticTypes := #[]
  resolved := Array.replicate 11 none
  statics := none }

def pool3 : Array CpInfo := pool [(1, .class_ 2), (0, u "java/lang/Comparable"), (0, .class_ 4), (0, u "java/lang/Object")] 7

/-- java/lang/Comparable -/
def k3 : Class := { plain "java/lang/Comparable" (some 0) with
  accessFlags := 1537
  interfaces := #[]
  cf := some (fileOf pool3 1 #[] #[] 1537 3 #[] #[])
  fields := #[]
  methods := #[]
  instanceTypes := #[]
  staticTypes := #[]
  resolved := Array.replicate 12 none
  statics := none }

def pool4 : Array CpInfo := pool [(1, .class_ 2), (0, u "java/io/Serializable"), (0, .class_ 4), (0, u "java/lang/Object")] 2

/-- java/io/Serializable -/
def k4 : Class := { plain "java/io/Serializable" (some 0) with
  accessFlags := 1537
  interfaces := #[]
  cf := some (fileOf pool4 1 #[] #[] 1537 3 #[] #[])
  fields := #[]
  methods := #[]
  instanceTypes := #[]
  staticTypes := #[]
  resolved := Array.replicate 7 none
  statics := none }

def pool5 : Array CpInfo := pool [(2, .class_ 4), (1, u "java/lang/Enum"), (0, u "name"), (0, u "Ljava/lang/String;"), (2, u "ordinal"), (0, u "I"), (1, .class_ 14), (1, u "java/lang/Object"), (4, u "hash"), (86, .class_ 108), (1, u "java/lang/Enum$EnumDesc"), (2, .class_ 112), (0, u "java/lang/constant/Constable"), (0, .class_ 114), (0, u "java/lang/Comparable"), (0, .class_ 116), (0, u "java/io/Serializable")] 87

/-- java/lang/Enum -/
def k5 : Class := { plain "java/lang/Enum" (some 0) with
  accessFlags := 1057
  interfaces := #[2, 3, 4]
  cf := some (fileOf pool5 2 #[.nestMembers #[106]] #[] 1057 12 #[111, 113, 115] #[{ accessFlags := 18, nameIndex := 5, descriptorIndex := 6, attributes := #[] }, { accessFlags := 18, nameIndex := 9, descriptorIndex := 10, attributes := #[] }, { accessFlags := 2, nameIndex := 19, descriptorIndex := 10, attributes := #[] }])
  fields := #[{ name := "name", type := (.object "java/lang/String"), accessFlags := 18, slot := 0, constantValue := 0 }, { name := "ordinal", type := .int, accessFlags := 18, slot := 1, constantValue := 0 }, { name := "hash", type := .int, accessFlags := 2, slot := 2, constantValue := 0 }]
  methods := #[]
  instanceTypes := #[(.object "java/lang/String"), .int, .int]
  staticTypes := #[]
  resolved := Array.replicate 204 none
  statics := none }

def pool6 : Array CpInfo := pool [(1, .class_ 2), (0, u "com/example/deep_query/deepquery/xdm/AtomicType"), (0, .fieldref 1 4), (0, .nameAndType 5 6), (0, u "ANY_ATOMIC_TYPE"), (0, u "Lcom/example/deep_query/deepquery/xdm/AtomicType;"), (2, u "UNTYPED_ATOMIC"), (2, u "STRING"), (2, u "NORMALIZED_STRING"), (2, u "TOKEN"), (2, u "LANGUAGE"), (2, u "NMTOKEN"), (2, u "NAME"), (2, u "NCNAME"), (2, u "ID"), (2, u "IDREF"), (2, u "ENTITY"), (2, u "BOOLEAN"), (2, u "DECIMAL"), (2, u "INTEGER"), (2, u "NON_POSITIVE_INTEGER"), (2, u "NEGATIVE_INTEGER"), (2, u "LONG"), (2, u "INT"), (2, u "SHORT"), (2, u "BYTE"), (2, u "NON_NEGATIVE_INTEGER"), (2, u "UNSIGNED_LONG"), (2, u "UNSIGNED_INT"), (2, u "UNSIGNED_SHORT"), (2, u "UNSIGNED_BYTE"), (2, u "POSITIVE_INTEGER"), (2, u "FLOAT"), (2, u "DOUBLE"), (2, u "ANY_URI"), (2, u "QNAME"), (2, u "HEX_BINARY"), (2, u "BASE64_BINARY"), (2, u "$VALUES"), (0, u "[Lcom/example/deep_query/deepquery/xdm/AtomicType;"), (6, .class_ 115), (1, u "java/lang/Enum"), (11, u "localName"), (0, u "Ljava/lang/String;"), (0, .fieldref 1 130), (0, .nameAndType 131 6), (0, u "base"), (7, u "minimum"), (0, u "Ljava/math/BigInteger;"), (2, u "maximum"), (2, u "BY_NAME"), (0, u "Ljava/util/Map;"), (174, u "NAMESPACE"), (16, u "()Lcom/example/deep_query/deepquery/xdm/AtomicType;"), (2, u "primitive")] 21

def k6c0 : Code := { maxStack := 2, maxLocals := 2, code := prog_138_method_12_code, exceptionTable := #[], attributes := #[] }
def k6m0 : Method := { name := "primitive", desc := "()Lcom/example/deep_query/deepquery/xdm/AtomicType;", sig := { parameters := [], returnType := some (.object "com/example/deep_query/deepquery/xdm/AtomicType") }, accessFlags := 1, code := some k6c0 }
/-- com/example/deep_query/deepquery/xdm/AtomicType -/
def k6 : Class := { plain "com/example/deep_query/deepquery/xdm/AtomicType" (some 5) with
  accessFlags := 16433
  interfaces := #[]
  cf := some (fileOf pool6 1 #[] #[{ accessFlags := 1, nameIndex := 342, descriptorIndex := 339, attributes := #[] }] 16433 113 #[] #[{ accessFlags := 16409, nameIndex := 5, descriptorIndex := 6, attributes := #[] }, { accessFlags := 16409, nameIndex := 9, descriptorIndex := 6, attributes := #[] }, { accessFlags := 16409, nameIndex := 12, descriptorIndex := 6, attributes := #[] }, { accessFlags := 16409, nameIndex := 15, descriptorIndex := 6, attributes := #[] }, { accessFlags := 16409, nameIndex := 18, descriptorIndex := 6, attributes := #[] }, { accessFlags := 16409, nameIndex := 21, descriptorIndex := 6, attributes := #[] }, { accessFlags := 16409, nameIndex := 24, descriptorIndex := 6, attributes := #[] }, { accessFlags := 16409, nameIndex := 27, descriptorIndex := 6, attributes := #[] }, { accessFlags := 16409, nameIndex := 30, descriptorIndex := 6, attributes := #[] }, { accessFlags := 16409, nameIndex := 33, descriptorIndex := 6, attributes := #[] }, { accessFlags := 16409, nameIndex := 36, descriptorIndex := 6, attributes := #[] }, { accessFlags := 16409, nameIndex := 39, descriptorIndex := 6, attributes := #[] }, { accessFlags := 16409, nameIndex := 42, descriptorIndex := 6, attributes := #[] }, { accessFlags := 16409, nameIndex := 45, descriptorIndex := 6, attributes := #[] }, { accessFlags := 16409, nameIndex := 48, descriptorIndex := 6, attributes := #[] }, { accessFlags := 16409, nameIndex := 51, descriptorIndex := 6, attributes := #[] }, { accessFlags := 16409, nameIndex := 54, descriptorIndex := 6, attributes := #[] }, { accessFlags := 16409, nameIndex := 57, descriptorIndex := 6, attributes := #[] }, { accessFlags := 16409, nameIndex := 60, descriptorIndex := 6, attributes := #[] }, { accessFlags := 16409, nameIndex := 63, descriptorIndex := 6, attributes := #[] }, { accessFlags := 16409, nameIndex := 66, descriptorIndex := 6, attributes := #[] }, { accessFlags := 16409, nameIndex := 69, descriptorIndex := 6, attributes := #[] }, { accessFlags := 16409, nameIndex := 72, descriptorIndex := 6, attributes := #[] }, { accessFlags := 16409, nameIndex := 75, descriptorIndex := 6, attributes := #[] }, { accessFlags := 16409, nameIndex := 78, descriptorIndex := 6, attributes := #[] }, { accessFlags := 16409, nameIndex := 81, descriptorIndex := 6, attributes := #[] }, { accessFlags := 16409, nameIndex := 84, descriptorIndex := 6, attributes := #[] }, { accessFlags := 16409, nameIndex := 87, descriptorIndex := 6, attributes := #[] }, { accessFlags := 16409, nameIndex := 90, descriptorIndex := 6, attributes := #[] }, { accessFlags := 16409, nameIndex := 93, descriptorIndex := 6, attributes := #[] }, { accessFlags := 16409, nameIndex := 96, descriptorIndex := 6, attributes := #[] }, { accessFlags := 16409, nameIndex := 99, descriptorIndex := 6, attributes := #[] }, { accessFlags := 16409, nameIndex := 102, descriptorIndex := 6, attributes := #[] }, { accessFlags := 25, nameIndex := 322, descriptorIndex := 128, attributes := #[] }, { accessFlags := 26, nameIndex := 146, descriptorIndex := 147, attributes := #[] }, { accessFlags := 18, nameIndex := 127, descriptorIndex := 128, attributes := #[] }, { accessFlags := 18, nameIndex := 131, descriptorIndex := 6, attributes := #[] }, { accessFlags := 18, nameIndex := 139, descriptorIndex := 140, attributes := #[] }, { accessFlags := 18, nameIndex := 143, descriptorIndex := 140, attributes := #[] }, { accessFlags := 4122, nameIndex := 105, descriptorIndex := 106, attributes := #[] }])
  fields := #[{ name := "ANY_ATOMIC_TYPE", type := (.object "com/example/deep_query/deepquery/xdm/AtomicType"), accessFlags := 16409, slot := 0, constantValue := 0 }, { name := "UNTYPED_ATOMIC", type := (.object "com/example/deep_query/deepquery/xdm/AtomicType"), accessFlags := 16409, slot := 1, constantValue := 0 }, { name := "STRING", type := (.object "com/example/deep_query/deepquery/xdm/AtomicType"), accessFlags := 16409, slot := 2, constantValue := 0 }, { name := "NORMALIZED_STRING", type := (.object "com/example/deep_query/deepquery/xdm/AtomicType"), accessFlags := 16409, slot := 3, constantValue := 0 }, { name := "TOKEN", type := (.object "com/example/deep_query/deepquery/xdm/AtomicType"), accessFlags := 16409, slot := 4, constantValue := 0 }, { name := "LANGUAGE", type := (.object "com/example/deep_query/deepquery/xdm/AtomicType"), accessFlags := 16409, slot := 5, constantValue := 0 }, { name := "NMTOKEN", type := (.object "com/example/deep_query/deepquery/xdm/AtomicType"), accessFlags := 16409, slot := 6, constantValue := 0 }, { name := "NAME", type := (.object "com/example/deep_query/deepquery/xdm/AtomicType"), accessFlags := 16409, slot := 7, constantValue := 0 }, { name := "NCNAME", type := (.object "com/example/deep_query/deepquery/xdm/AtomicType"), accessFlags := 16409, slot := 8, constantValue := 0 }, { name := "ID", type := (.object "com/example/deep_query/deepquery/xdm/AtomicType"), accessFlags := 16409, slot := 9, constantValue := 0 }, { name := "IDREF", type := (.object "com/example/deep_query/deepquery/xdm/AtomicType"), accessFlags := 16409, slot := 10, constantValue := 0 }, { name := "ENTITY", type := (.object "com/example/deep_query/deepquery/xdm/AtomicType"), accessFlags := 16409, slot := 11, constantValue := 0 }, { name := "BOOLEAN", type := (.object "com/example/deep_query/deepquery/xdm/AtomicType"), accessFlags := 16409, slot := 12, constantValue := 0 }, { name := "DECIMAL", type := (.object "com/example/deep_query/deepquery/xdm/AtomicType"), accessFlags := 16409, slot := 13, constantValue := 0 }, { name := "INTEGER", type := (.object "com/example/deep_query/deepquery/xdm/AtomicType"), accessFlags := 16409, slot := 14, constantValue := 0 }, { name := "NON_POSITIVE_INTEGER", type := (.object "com/example/deep_query/deepquery/xdm/AtomicType"), accessFlags := 16409, slot := 15, constantValue := 0 }, { name := "NEGATIVE_INTEGER", type := (.object "com/example/deep_query/deepquery/xdm/AtomicType"), accessFlags := 16409, slot := 16, constantValue := 0 }, { name := "LONG", type := (.object "com/example/deep_query/deepquery/xdm/AtomicType"), accessFlags := 16409, slot := 17, constantValue := 0 }, { name := "INT", type := (.object "com/example/deep_query/deepquery/xdm/AtomicType"), accessFlags := 16409, slot := 18, constantValue := 0 }, { name := "SHORT", type := (.object "com/example/deep_query/deepquery/xdm/AtomicType"), accessFlags := 16409, slot := 19, constantValue := 0 }, { name := "BYTE", type := (.object "com/example/deep_query/deepquery/xdm/AtomicType"), accessFlags := 16409, slot := 20, constantValue := 0 }, { name := "NON_NEGATIVE_INTEGER", type := (.object "com/example/deep_query/deepquery/xdm/AtomicType"), accessFlags := 16409, slot := 21, constantValue := 0 }, { name := "UNSIGNED_LONG", type := (.object "com/example/deep_query/deepquery/xdm/AtomicType"), accessFlags := 16409, slot := 22, constantValue := 0 }, { name := "UNSIGNED_INT", type := (.object "com/example/deep_query/deepquery/xdm/AtomicType"), accessFlags := 16409, slot := 23, constantValue := 0 }, { name := "UNSIGNED_SHORT", type := (.object "com/example/deep_query/deepquery/xdm/AtomicType"), accessFlags := 16409, slot := 24, constantValue := 0 }, { name := "UNSIGNED_BYTE", type := (.object "com/example/deep_query/deepquery/xdm/AtomicType"), accessFlags := 16409, slot := 25, constantValue := 0 }, { name := "POSITIVE_INTEGER", type := (.object "com/example/deep_query/deepquery/xdm/AtomicType"), accessFlags := 16409, slot := 26, constantValue := 0 }, { name := "FLOAT", type := (.object "com/example/deep_query/deepquery/xdm/AtomicType"), accessFlags := 16409, slot := 27, constantValue := 0 }, { name := "DOUBLE", type := (.object "com/example/deep_query/deepquery/xdm/AtomicType"), accessFlags := 16409, slot := 28, constantValue := 0 }, { name := "ANY_URI", type := (.object "com/example/deep_query/deepquery/xdm/AtomicType"), accessFlags := 16409, slot := 29, constantValue := 0 }, { name := "QNAME", type := (.object "com/example/deep_query/deepquery/xdm/AtomicType"), accessFlags := 16409, slot := 30, constantValue := 0 }, { name := "HEX_BINARY", type := (.object "com/example/deep_query/deepquery/xdm/AtomicType"), accessFlags := 16409, slot := 31, constantValue := 0 }, { name := "BASE64_BINARY", type := (.object "com/example/deep_query/deepquery/xdm/AtomicType"), accessFlags := 16409, slot := 32, constantValue := 0 }, { name := "NAMESPACE", type := (.object "java/lang/String"), accessFlags := 25, slot := 33, constantValue := 0 }, { name := "BY_NAME", type := (.object "java/util/Map"), accessFlags := 26, slot := 34, constantValue := 0 }, { name := "localName", type := (.object "java/lang/String"), accessFlags := 18, slot := 3, constantValue := 0 }, { name := "base", type := (.object "com/example/deep_query/deepquery/xdm/AtomicType"), accessFlags := 18, slot := 4, constantValue := 0 }, { name := "minimum", type := (.object "java/math/BigInteger"), accessFlags := 18, slot := 5, constantValue := 0 }, { name := "maximum", type := (.object "java/math/BigInteger"), accessFlags := 18, slot := 6, constantValue := 0 }, { name := "$VALUES", type := (.array (.object "com/example/deep_query/deepquery/xdm/AtomicType")), accessFlags := 4122, slot := 35, constantValue := 0 }]
  methods := #[k6m0]
  instanceTypes := #[(.object "java/lang/String"), .int, .int, (.object "java/lang/String"), (.object "com/example/deep_query/deepquery/xdm/AtomicType"), (.object "java/math/BigInteger"), (.object "java/math/BigInteger")]
  staticTypes := #[(.object "com/example/deep_query/deepquery/xdm/AtomicType"), (.object "com/example/deep_query/deepquery/xdm/AtomicType"), (.object "com/example/deep_query/deepquery/xdm/AtomicType"), (.object "com/example/deep_query/deepquery/xdm/AtomicType"), (.object "com/example/deep_query/deepquery/xdm/AtomicType"), (.object "com/example/deep_query/deepquery/xdm/AtomicType"), (.object "com/example/deep_query/deepquery/xdm/AtomicType"), (.object "com/example/deep_query/deepquery/xdm/AtomicType"), (.object "com/example/deep_query/deepquery/xdm/AtomicType"), (.object "com/example/deep_query/deepquery/xdm/AtomicType"), (.object "com/example/deep_query/deepquery/xdm/AtomicType"), (.object "com/example/deep_query/deepquery/xdm/AtomicType"), (.object "com/example/deep_query/deepquery/xdm/AtomicType"), (.object "com/example/deep_query/deepquery/xdm/AtomicType"), (.object "com/example/deep_query/deepquery/xdm/AtomicType"), (.object "com/example/deep_query/deepquery/xdm/AtomicType"), (.object "com/example/deep_query/deepquery/xdm/AtomicType"), (.object "com/example/deep_query/deepquery/xdm/AtomicType"), (.object "com/example/deep_query/deepquery/xdm/AtomicType"), (.object "com/example/deep_query/deepquery/xdm/AtomicType"), (.object "com/example/deep_query/deepquery/xdm/AtomicType"), (.object "com/example/deep_query/deepquery/xdm/AtomicType"), (.object "com/example/deep_query/deepquery/xdm/AtomicType"), (.object "com/example/deep_query/deepquery/xdm/AtomicType"), (.object "com/example/deep_query/deepquery/xdm/AtomicType"), (.object "com/example/deep_query/deepquery/xdm/AtomicType"), (.object "com/example/deep_query/deepquery/xdm/AtomicType"), (.object "com/example/deep_query/deepquery/xdm/AtomicType"), (.object "com/example/deep_query/deepquery/xdm/AtomicType"), (.object "com/example/deep_query/deepquery/xdm/AtomicType"), (.object "com/example/deep_query/deepquery/xdm/AtomicType"), (.object "com/example/deep_query/deepquery/xdm/AtomicType"), (.object "com/example/deep_query/deepquery/xdm/AtomicType"), (.object "java/lang/String"), (.object "java/util/Map"), (.array (.object "com/example/deep_query/deepquery/xdm/AtomicType"))]
  resolved := Array.replicate 364 none
  statics := some 0 }

def pool7 : Array CpInfo := pool [(1, u "java/lang/Cloneable"), (0, .class_ 1), (0, u "java/lang/Object"), (0, .class_ 3)] 3

/-- java/lang/Cloneable -/
def k7 : Class := { plain "java/lang/Cloneable" (some 0) with
  accessFlags := 1537
  interfaces := #[]
  cf := some (fileOf pool7 2 #[] #[] 1537 4 #[] #[])
  fields := #[]
  methods := #[]
  instanceTypes := #[]
  staticTypes := #[]
  resolved := Array.replicate 8 none
  statics := none }

/-- the primitive byte -/
def k8 : Class := { plain "byte" none with kind := .primitive 'B', accessFlags := 0x411 }
/-- [B -/
def k9 : Class := { plain "[B" (some 0) with kind := .array 8 .byte, interfaces := #[7, 4], accessFlags := 1041 }

/-- the primitive int -/
def k10 : Class := { plain "int" none with kind := .primitive 'I', accessFlags := 0x411 }
/-- [I -/
def k11 : Class := { plain "[I" (some 0) with kind := .array 10 .int, interfaces := #[7, 4], accessFlags := 1041 }

/-- [Lcom/example/deep_query/deepquery/xdm/AtomicType; -/
def k12 : Class := { plain "[Lcom/example/deep_query/deepquery/xdm/AtomicType;" (some 0) with kind := .array 6 (.object "com/example/deep_query/deepquery/xdm/AtomicType"), interfaces := #[7, 4], accessFlags := 1041 }

def heap : Heap := #[{ cls := 6, slots := #[.ref 1, .ref 2, .ref 3, .ref 4, .ref 5, .ref 6, .ref 7, .ref 8, .ref 9, .ref 10, .ref 11, .ref 12, .ref 13, .ref 14, .ref 15, .ref 16, .ref 17, .ref 18, .ref 19, .ref 20, .ref 21, .ref 22, .ref 23, .ref 24, .ref 25, .ref 26, .ref 27, .ref 28, .ref 29, .ref 30, .ref 31, .ref 32, .ref 33, .null, .null, .null], vm := .statics 6 },
  { cls := 6, slots := #[.null, .int 0, .int 0, .null, .null, .null, .null], vm := .none },
  { cls := 6, slots := #[.null, .int 1, .int 0, .null, .ref 1, .null, .null], vm := .none },
  { cls := 6, slots := #[.null, .int 2, .int 0, .null, .ref 1, .null, .null], vm := .none },
  { cls := 6, slots := #[.null, .int 3, .int 0, .null, .ref 3, .null, .null], vm := .none },
  { cls := 6, slots := #[.null, .int 4, .int 0, .null, .ref 4, .null, .null], vm := .none },
  { cls := 6, slots := #[.null, .int 5, .int 0, .null, .ref 5, .null, .null], vm := .none },
  { cls := 6, slots := #[.null, .int 6, .int 0, .null, .ref 5, .null, .null], vm := .none },
  { cls := 6, slots := #[.null, .int 7, .int 0, .null, .ref 5, .null, .null], vm := .none },
  { cls := 6, slots := #[.null, .int 8, .int 0, .null, .ref 8, .null, .null], vm := .none },
  { cls := 6, slots := #[.null, .int 9, .int 0, .null, .ref 9, .null, .null], vm := .none },
  { cls := 6, slots := #[.null, .int 10, .int 0, .null, .ref 9, .null, .null], vm := .none },
  { cls := 6, slots := #[.null, .int 11, .int 0, .null, .ref 9, .null, .null], vm := .none },
  { cls := 6, slots := #[.null, .int 12, .int 0, .null, .ref 1, .null, .null], vm := .none },
  { cls := 6, slots := #[.null, .int 13, .int 0, .null, .ref 1, .null, .null], vm := .none },
  { cls := 6, slots := #[.null, .int 14, .int 0, .null, .ref 14, .null, .null], vm := .none },
  { cls := 6, slots := #[.null, .int 15, .int 0, .null, .ref 15, .null, .null], vm := .none },
  { cls := 6, slots := #[.null, .int 16, .int 0, .null, .ref 16, .null, .null], vm := .none },
  { cls := 6, slots := #[.null, .int 17, .int 0, .null, .ref 15, .null, .null], vm := .none },
  { cls := 6, slots := #[.null, .int 18, .int 0, .null, .ref 18, .null, .null], vm := .none },
  { cls := 6, slots := #[.null, .int 19, .int 0, .null, .ref 19, .null, .null], vm := .none },
  { cls := 6, slots := #[.null, .int 20, .int 0, .null, .ref 20, .null, .null], vm := .none },
  { cls := 6, slots := #[.null, .int 21, .int 0, .null, .ref 15, .null, .null], vm := .none },
  { cls := 6, slots := #[.null, .int 22, .int 0, .null, .ref 22, .null, .null], vm := .none },
  { cls := 6, slots := #[.null, .int 23, .int 0, .null, .ref 23, .null, .null], vm := .none },
  { cls := 6, slots := #[.null, .int 24, .int 0, .null, .ref 24, .null, .null], vm := .none },
  { cls := 6, slots := #[.null, .int 25, .int 0, .null, .ref 25, .null, .null], vm := .none },
  { cls := 6, slots := #[.null, .int 26, .int 0, .null, .ref 22, .null, .null], vm := .none },
  { cls := 6, slots := #[.null, .int 27, .int 0, .null, .ref 1, .null, .null], vm := .none },
  { cls := 6, slots := #[.null, .int 28, .int 0, .null, .ref 1, .null, .null], vm := .none },
  { cls := 6, slots := #[.null, .int 29, .int 0, .null, .ref 1, .null, .null], vm := .none },
  { cls := 6, slots := #[.null, .int 30, .int 0, .null, .ref 1, .null, .null], vm := .none },
  { cls := 6, slots := #[.null, .int 31, .int 0, .null, .ref 1, .null, .null], vm := .none },
  { cls := 6, slots := #[.null, .int 32, .int 0, .null, .ref 1, .null, .null], vm := .none }]
def classes : Array Class := #[k0, k1, k2, k3, k4, k5, k6, k7, k8, k9, k10, k11, k12]
def interned : List (Array UInt16 × Addr) := []
def slotsUsed : Nat := 267
def theMethod : MethodId := ⟨1, 1⟩
def args0 : Array Value := #[.int 7]
def aboutOver (below : List Frame) : State where
  vm := { classes := classes, interned := interned.toArray }
  heap := heap
  slotsUsed := slotsUsed
  threads := #[{ frames := .invoking theMethod args0 :: below }]
def below0 : List Frame := [.native { method := ⟨0, 0⟩, args := #[] }]
def about1 : State := aboutOver below0
def p0 : Program := .bare "" "" ""
def e0 : Env := launch0.env 0 0 0
theorem w_frames : about1.frames = Frame.invoking theMethod args0 :: below0 := rfl
set_option maxRecDepth 65536 in
theorem w_args : argsFit about1.vm theMethod args0 = true := by decide +kernel
set_option maxRecDepth 65536 in
theorem w_heap : heapFits about1 = true := by decide +kernel
set_option maxRecDepth 65536 in
theorem w_runnable : about1.curStatus? = some .runnable := by decide +kernel
set_option maxRecDepth 65536 in
theorem w_alone : about1.alone = true := by decide +kernel
set_option maxRecDepth 65536 in
theorem w_named : about1.methodNamed? x = some theMethod := by decide +kernel
set_option maxRecDepth 65536 in
theorem w_hears : about1.hears theMethod below0 = true := by decide +kernel
set_option maxRecDepth 65536 in
theorem w_ripe : about1.ripe theMethod args0 below0 = true := by decide +kernel
theorem w_running : about1.status = .running := rfl
set_option maxRecDepth 65536 in
theorem w_room : about1.hasRoom e0.platform room_1 = true :=
  launch0.hasRoom_least _ room_1 (by decide +kernel) (by decide +kernel) (by decide +kernel) (by decide +kernel) (by decide +kernel) (by decide +kernel)
theorem allAtoms_all (ts : List Jvm.Cond) (a : Array Jvm.Value) (st : Jvm.State) : (allAtoms ts).before a st = ts.all (fun c => c.before a st) := by
  induction ts with
  | nil => rfl
  | cons c t ih =>
    show (Jvm.Cond.and c (allAtoms t)).before a st = _
    rw [Jvm.Cond.before_and, ih, List.all_cons]
def words1 : List Jvm.Cond := Jvm.Cond.code x code maxLocals ret :: tables_1
/-- a 'code' word, met by the world's own term for the bytes: nothing is compared byte by byte -/
theorem code_word {y : MethodName} {bytes : ByteArray} {mx : Nat} {rt : Option FieldType} {a : Array Value} {s : State} {m : MethodId} {meth : Method} {c : Code} (h1 : s.methodNamed? y = some m) (h2 : s.vm.method? m = some meth) (h3 : meth.code = some c) (h4 : c.code = bytes)
    (h5 : (c.maxLocals == mx && c.exceptionTable.isEmpty && decide (c.maxStack ≤ mostOperands) && decide (meth.sig.returnType = rt) && !meth.locks && decide (parseMethodDescriptor y.desc = some meth.sig)) = true) : (Jvm.Cond.code y bytes mx rt).before a s = true := by
  simp only [Bool.and_eq_true, beq_iff_eq, Bool.not_eq_true', decide_eq_true_eq] at h5
  obtain ⟨⟨⟨⟨⟨g1, g2⟩, g3⟩, g4⟩, g5⟩, g6⟩ := h5
  simp [Cond.before, Cond.holds, Cond.value, h1, h2, h3, h4, g1, g2, g3, g4, g5, g6]
def isCode : Jvm.Cond → Bool
  | .code _ _ _ _ => true
  | _ => false
theorem all_split {L : List Jvm.Cond} {P : Jvm.Cond → Bool} (h1 : L.all (fun c => isCode c || P c) = true) (h2 : ∀ c ∈ L.filter isCode, P c = true) : L.all P = true := by
  refine List.all_eq_true.mpr fun c hc => ?_
  have h := List.all_eq_true.mp h1 c hc
  rcases Bool.eq_false_or_eq_true (isCode c) with hi | hi
  · exact h2 c (List.mem_filter.mpr ⟨hc, hi⟩)
  · simpa [hi] using h
set_option maxRecDepth 65536 in
theorem w_c0 : (Jvm.Cond.code x code maxLocals ret).before args0 about1 = true := code_word (m := ⟨1, 1⟩) (meth := k1m1) (c := k1c1) (by decide +kernel) rfl rfl rfl (by decide +kernel)
set_option maxRecDepth 65536 in
theorem w_c1 : (Jvm.Cond.code ({ cls := "com/example/deep_query/deepquery/xdm/AtomicType", name := "primitive", desc := "()Lcom/example/deep_query/deepquery/xdm/AtomicType;" } : Jvm.MethodName) prog_138_method_12_code (2 : Nat) (Option.some (Jvm.ClassFile.FieldType.object "com/example/deep_query/deepquery/xdm/AtomicType"))).before args0 about1 = true := code_word (m := ⟨6, 0⟩) (meth := k6m0) (c := k6c0) (by decide +kernel) rfl rfl rfl (by decide +kernel)
set_option maxRecDepth 65536 in
theorem w_c2 : (Jvm.Cond.code ({ cls := "com/example/deep_query/deepquery/xdm/AtomicTypePrimitivePinLaw", name := "expected", desc := "(I)Lcom/example/deep_query/deepquery/xdm/AtomicType;" } : Jvm.MethodName) method_3_code (1 : Nat) (Option.some (Jvm.ClassFile.FieldType.object "com/example/deep_query/deepquery/xdm/AtomicType"))).before args0 about1 = true := code_word (m := ⟨1, 2⟩) (meth := k1m2) (c := k1c2) (by decide +kernel) rfl rfl rfl (by decide +kernel)
def codes1 : List Jvm.Cond := [Jvm.Cond.code x code maxLocals ret, Jvm.Cond.code ({ cls := "com/example/deep_query/deepquery/xdm/AtomicType", name := "primitive", desc := "()Lcom/example/deep_query/deepquery/xdm/AtomicType;" } : Jvm.MethodName) prog_138_method_12_code (2 : Nat) (Option.some (Jvm.ClassFile.FieldType.object "com/example/deep_query/deepquery/xdm/AtomicType")), Jvm.Cond.code ({ cls := "com/example/deep_query/deepquery/xdm/AtomicTypePrimitivePinLaw", name := "expected", desc := "(I)Lcom/example/deep_query/deepquery/xdm/AtomicType;" } : Jvm.MethodName) method_3_code (1 : Nat) (Option.some (Jvm.ClassFile.FieldType.object "com/example/deep_query/deepquery/xdm/AtomicType"))]
set_option maxRecDepth 65536 in
theorem codes_eq : words1.filter isCode = codes1 := rfl
theorem w_codes : ∀ c ∈ words1.filter isCode, c.before args0 about1 = true := by
  rw [codes_eq]
  intro c hc
  simp only [codes1, List.mem_cons, List.not_mem_nil, or_false] at hc
  rcases hc with rfl | rfl | rfl
  · exact w_c0
  · exact w_c1
  · exact w_c2
set_option maxRecDepth 65536 in
theorem w_t1 : (words1.take 24).all (fun c => isCode c || c.before args0 about1) = true := by decide +kernel
set_option maxRecDepth 65536 in
theorem w_t2 : ((words1.drop 24).take 24).all (fun c => isCode c || c.before args0 about1) = true := by decide +kernel
set_option maxRecDepth 65536 in
theorem w_t3 : (((words1.drop 24).drop 24).take 24).all (fun c => isCode c || c.before args0 about1) = true := by decide +kernel
set_option maxRecDepth 65536 in
theorem w_t4 : (((words1.drop 24).drop 24).drop 24).all (fun c => isCode c || c.before args0 about1) = true := by decide +kernel
theorem w_tables : (allAtoms (Jvm.Cond.code x code maxLocals ret :: tables_1)).before args0 about1 = true := by
  rw [allAtoms_all]
  show words1.all (fun c => c.before args0 about1) = true
  refine all_split ?_ w_codes
  rw [← List.take_append_drop 24 words1, List.all_append, w_t1, ← List.take_append_drop 24 (words1.drop 24), List.all_append, w_t2, ← List.take_append_drop 24 ((words1.drop 24).drop 24), List.all_append, w_t3, w_t4]
  rfl
set_option maxRecDepth 65536 in
theorem w_case : (Jvm.Cond.and given_1 narrow_1).before args0 about1 = true := by decide +kernel
theorem w_applies : (headSpec (Jvm.Cond.code x code maxLocals ret :: tables_1) room_1).applies x e0.platform about1 = true :=
  (Spec.applies_iff w_frames).mpr ⟨w_running, w_runnable, w_alone, w_named, w_hears, w_ripe, w_room, w_tables⟩
theorem atStart : AtStart classFile x code maxLocals ret World_1 tables_1 room_1 Calls_1 rest_1 Pre_1 launch0 p0 e0 about1 theMethod args0 below0 :=
  ⟨lists_1, trivial, launch0.admits_env _ _ _, launch0.least_env, fairChoices_fair.cas, fairChoices_fair.clock, w_frames, w_args, w_heap, w_applies, trivial, trivial, w_case⟩
end start1
theorem witness_1 : WitnessClaimed_1 := ⟨start1.p0, start1.e0, start1.about1, start1.theMethod, start1.args0, start1.below0, start1.atStart⟩
end Jvm.Pilot.@@N@@
