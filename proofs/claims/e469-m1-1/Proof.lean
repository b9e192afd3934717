import JvmDerived
import JvmDerived.Pilot.@@N@@Statement
import JvmDerived.Pilot.@@N@@Code
set_option linter.unusedVariables false
set_option linter.unusedSimpArgs false
namespace Jvm.Pilot.@@N@@
open Jvm Jvm.ClassFile Sem Op Lib Jvm.Free Jvm.Stand Jvm.LawKit Jvm.RoadKit Bundle Jvm.Pilot.@@N@@.Jvm.D
section OwnKit
variable {p : Program} {l : Launch} {e : Env} {R : Room} {s : State} {m : MethodId} {args : Array Value} {below : List Frame} {meth : Method} {c : Code} {T T' : State} {locs : List Loc} {cells slots : Nat} {Z : State} {a0 : Array Value} {h : Heap} {CC SS : Nat} {QQ : Option Value → Heap → List Loc → Prop} {pc : Nat} {Ls : Array Slot} {rest : List Value}
/-- the run from the frame g on comes back, with what QQ says -/
def Go (p : Program) (e : Env) (below : List Frame) (s : State) (CC SS : Nat) (QQ : Option Value → Heap → List Loc → Prop) (T : State) (g : JFrame) : Prop :=
  ∃ s₂ o, Steps p.tables e below (T.setTop g) s₂ ∧ s₂.status = .running ∧ Ended s₂ below o ∧ ∃ v L, o = .returned v ∧ QQ v s₂.heap L ∧ FrameEnd s o s₂ L CC SS
/-- a callee's contract -/
def Met (l : Launch) (Z : State) (y : MethodName) (bytes : ByteArray) (maxL : Nat) (ret : Option FieldType) (ws : List Jvm.Cond) (rm : Room) (as' : Array Value) (h0 : Heap) (QQ : Option Value → Heap → List Loc → Prop) : Prop :=
  MetFree l y (head1 (Jvm.Cond.code y bytes maxL ret :: ws) rm) (fun a U => a = as' ∧ Z.Warmed39 U.vm ∧ U.heap = h0) (fun _ _ _ _ _ => True) (fun _ U o U' => ∃ v L, o = .returned v ∧ QQ v U'.heap L ∧ FrameEnd U o U' L rm.cells rm.slots)
theorem met_of {y : MethodName} {bytes : ByteArray} {maxL : Nat} {ret : Option FieldType} {ws : List Jvm.Cond} {rm : Room} {as' : Array Value} {h0 : Heap} (hx : plainFor y = true) (hef : ∀ m, entryFrame m as' maxL = mkF m 0 Ls [])
    (body : ∀ (p : Program) (e : Env) (s : State) (m : MethodId) (below : List Frame) (meth : Method) (c : Code) (s₁ : State), p.tables.exec = Jvm.exec → c.code = bytes → c.maxLocals = maxL → s.vm.findClass y.cls = some m.cls → meth.name = y.name → meth.sig.returnType = ret → meth.locks = false → Z.Warmed39 s.vm →
      Stand p l e rm s m as' below meth c s₁ [] 0 0 → s₁.heap = h0 → Go p e below s rm.cells rm.slots QQ s₁ (mkF m 0 Ls [])) : Met l Z y bytes maxL ret ws rm as' h0 QQ := by
  refine MetFree.of_bodySF hx hisR ?_
  intro p e s m args below meth c s₁ Bd hml0 hP hK
  obtain ⟨rfl, hZ, hh⟩ := hP
  have e0 : s₁.heap = h0 := by rw [← hh, Bd.state]; rfl
  have k := body p e s m below meth c s₁ Bd.exec Bd.bytes hml0 (findClass_of_methodNamed Bd.named) (name_of_methodNamed Bd.named Bd.method).1 Bd.returns Bd.notSynchronized hZ (Stand.of_body Bd) e0
  rw [hef m]
  exact k
theorem Go.st {g g' : JFrame} (st : ∀ t, Steps p.tables e below (T'.setTop g') t → Steps p.tables e below (T.setTop g) t) (k : Go p e below s CC SS QQ T' g') : Go p e below s CC SS QQ T g := by
  obtain ⟨s₂, o, h1, h2⟩ := k
  exact ⟨s₂, o, st _ h1, h2⟩
theorem Go.tr {g g' : JFrame} (st : Steps p.tables e below (T.setTop g) (T'.setTop g')) (k : Go p e below s CC SS QQ T' g') : Go p e below s CC SS QQ T g := by
  obtain ⟨s₂, o, h1, h2⟩ := k
  exact ⟨s₂, o, st.trans h1, h2⟩
-- the returns
theorem gRetZ (X : Stand p l e R s m args below meth c T locs cells slots) (hx : p.tables.exec = Jvm.exec) (hlk : meth.locks = false) {z z' : Int32} {t : FieldType} (hret : meth.sig.returnType = some t) (ht : t = .boolean ∨ t = .byte ∨ t = .char ∨ t = .short) (hd : decode c.code pc = .ok (.ireturn, 1)) (hz : nar t z = z')
    (hc : cells ≤ CC) (hs : slots ≤ SS) (hQ : QQ (some (.int z')) T.heap locs) : Go p e below s CC SS QQ T (mkF m pc Ls (.int z :: rest)) := by
  obtain ⟨fs, hr, hrun, hended, hW, hsame⟩ := X.leave (v := some (.int z')) (fun h => by rw [hret] at h; cases h) hlk
  exact ⟨_, _, retN X hx hret ht hd (by rw [hz]; exact hr), hrun, hended, _, _, rfl, hQ, ⟨_, rfl⟩, hW, hsame.mono hc hs⟩
theorem gRetI (X : Stand p l e R s m args below meth c T locs cells slots) (hx : p.tables.exec = Jvm.exec) (hlk : meth.locks = false) {z : Int32} (hret : meth.sig.returnType = some .int) (hd : decode c.code pc = .ok (.ireturn, 1))
    (hc : cells ≤ CC) (hs : slots ≤ SS) (hQ : QQ (some (.int z)) T.heap locs) : Go p e below s CC SS QQ T (mkF m pc Ls (.int z :: rest)) := by
  obtain ⟨fs, hr, hrun, hended, hW, hsame⟩ := X.leave (v := some (.int z)) (fun h => by rw [hret] at h; cases h) hlk
  exact ⟨_, _, retOut X hx hret rfl (Or.inl ⟨rfl, Or.inl rfl, z, rfl⟩) hd hr, hrun, hended, _, _, rfl, hQ, ⟨_, rfl⟩, hW, hsame.mono hc hs⟩
theorem gRetA (X : Stand p l e R s m args below meth c T locs cells slots) (hx : p.tables.exec = Jvm.exec) (hlk : meth.locks = false) {w : Value} {t : FieldType} (hret : meth.sig.returnType = some t) (ht : t.isReference = true) (hn : narrow t w = w) (hw : w.isRef = true) (hd : decode c.code pc = .ok (.areturn, 1))
    (hc : cells ≤ CC) (hs : slots ≤ SS) (hQ : QQ (some w) T.heap locs) : Go p e below s CC SS QQ T (mkF m pc Ls (w :: rest)) := by
  obtain ⟨fs, hr, hrun, hended, hW, hsame⟩ := X.leave (v := some w) (fun h => by rw [hret] at h; cases h) hlk
  exact ⟨_, _, retOut X hx hret hn (Or.inr (Or.inr (Or.inr (Or.inr ⟨rfl, ht, hw⟩)))) hd hr, hrun, hended, _, _, rfl, hQ, ⟨_, rfl⟩, hW, hsame.mono hc hs⟩
theorem gRetV (X : Stand p l e R s m args below meth c T locs cells slots) (hx : p.tables.exec = Jvm.exec) (hlk : meth.locks = false) (hret : meth.sig.returnType = none) (hd : decode c.code pc = .ok (.return_, 1))
    (hc : cells ≤ CC) (hs : slots ≤ SS) (hQ : QQ none T.heap locs) : Go p e below s CC SS QQ T (mkF m pc Ls []) := by
  obtain ⟨fs, hr, hrun, hended, hW, hsame⟩ := X.leave (v := none) (fun _ => rfl) hlk
  exact ⟨_, _, X.returnOut hx hret hd hr, hrun, hended, _, _, rfl, hQ, ⟨_, rfl⟩, hW, hsame.mono hc hs⟩
-- the plain steps
theorem gAloadN (X : Stand p l e R s m args below meth c T locs cells slots) (hx : p.tables.exec = Jvm.exec) {k : Fin 4} {v : Value} (hd : decode c.code pc = .ok (.aload_n k, 1)) (hl : Ls[k.val]? = some (.val v)) (hv : v.isRef = true)
    (kk : Go p e below s CC SS QQ T (mkF m (pc + 1) Ls (v :: rest))) : Go p e below s CC SS QQ T (mkF m pc Ls rest) := Go.st (fun _ => XS.aloadN X.here hx rfl hd hl hv) kk
theorem gAload (X : Stand p l e R s m args below meth c T locs cells slots) (hx : p.tables.exec = Jvm.exec) {k : Nat} {v : Value} (hd : decode c.code pc = .ok (.aload k, 2)) (hl : Ls[k]? = some (.val v)) (hv : v.isRef = true)
    (kk : Go p e below s CC SS QQ T (mkF m (pc + 2) Ls (v :: rest))) : Go p e below s CC SS QQ T (mkF m pc Ls rest) := Go.st (fun _ => XS.aload X.here hx rfl hd hl hv) kk
theorem gIloadN (X : Stand p l e R s m args below meth c T locs cells slots) (hx : p.tables.exec = Jvm.exec) {k : Fin 4} {v : Int32} (hd : decode c.code pc = .ok (.iload_n k, 1)) (hl : Ls[k.val]? = some (.val (.int v)))
    (kk : Go p e below s CC SS QQ T (mkF m (pc + 1) Ls (.int v :: rest))) : Go p e below s CC SS QQ T (mkF m pc Ls rest) := Go.st (fun _ => XS.iloadN X.here hx rfl hd hl) kk
theorem gIload (X : Stand p l e R s m args below meth c T locs cells slots) (hx : p.tables.exec = Jvm.exec) {k : Nat} {v : Int32} (hd : decode c.code pc = .ok (.iload k, 2)) (hl : Ls[k]? = some (.val (.int v)))
    (kk : Go p e below s CC SS QQ T (mkF m (pc + 2) Ls (.int v :: rest))) : Go p e below s CC SS QQ T (mkF m pc Ls rest) := Go.st (fun _ => XS.iload X.here hx rfl hd hl) kk
theorem gIconst (X : Stand p l e R s m args below meth c T locs cells slots) (hx : p.tables.exec = Jvm.exec) {i : Int} (v : Int32) (hd : decode c.code pc = .ok (.iconst i, 1)) (hv : Int32.ofInt i = v)
    (kk : Go p e below s CC SS QQ T (mkF m (pc + 1) Ls (.int v :: rest))) : Go p e below s CC SS QQ T (mkF m pc Ls rest) := by subst hv; exact Go.st (fun _ => XS.iconst X.here hx rfl hd) kk
theorem gBipush (X : Stand p l e R s m args below meth c T locs cells slots) (hx : p.tables.exec = Jvm.exec) {i : Int} (v : Int32) (hd : decode c.code pc = .ok (.bipush i, 2)) (hv : (Int8.ofInt i).toInt32 = v)
    (kk : Go p e below s CC SS QQ T (mkF m (pc + 2) Ls (.int v :: rest))) : Go p e below s CC SS QQ T (mkF m pc Ls rest) := by subst hv; exact Go.st (fun _ => XS.bipush X.here hx rfl hd) kk
theorem gSipush (X : Stand p l e R s m args below meth c T locs cells slots) (hx : p.tables.exec = Jvm.exec) {i : Int} (v : Int32) (hd : decode c.code pc = .ok (.sipush i, 3)) (hv : (Int16.ofInt i).toInt32 = v)
    (kk : Go p e below s CC SS QQ T (mkF m (pc + 3) Ls (.int v :: rest))) : Go p e below s CC SS QQ T (mkF m pc Ls rest) := by subst hv; exact Go.st (fun _ => XS.sipush X.here hx rfl hd) kk
theorem gNull (X : Stand p l e R s m args below meth c T locs cells slots) (hx : p.tables.exec = Jvm.exec) (hd : decode c.code pc = .ok (.aconst_null, 1))
    (kk : Go p e below s CC SS QQ T (mkF m (pc + 1) Ls (.null :: rest))) : Go p e below s CC SS QQ T (mkF m pc Ls rest) := Go.st (fun _ => XS.aconstNull X.here hx rfl hd) kk
theorem gLdc (X : Stand p l e R s m args below meth c T locs cells slots) (hx : p.tables.exec = Jvm.exec) (hZ : Z.Warmed39 s.vm) {own : String} {index : Nat} (v : Int32) (hown : s.vm.findClass own = some m.cls) (w : (Cond.constant own index v).before a0 Z = true) (hd : decode c.code pc = .ok (.ldc index, 2))
    (kk : Go p e below s CC SS QQ T (mkF m (pc + 2) Ls (.int v :: rest))) : Go p e below s CC SS QQ T (mkF m pc Ls rest) := Go.st (X.ldcInt hx hown (mvT hZ w) rfl hd) kk
theorem gIadd (X : Stand p l e R s m args below meth c T locs cells slots) (hx : p.tables.exec = Jvm.exec) {x y : Int32} (hd : decode c.code pc = .ok (.iadd, 1))
    (kk : Go p e below s CC SS QQ T (mkF m (pc + 1) Ls (.int (x + y) :: rest))) : Go p e below s CC SS QQ T (mkF m pc Ls (.int y :: .int x :: rest)) := Go.st (fun _ => XS.iadd X.here hx rfl hd rfl) kk
theorem gIsub (X : Stand p l e R s m args below meth c T locs cells slots) (hx : p.tables.exec = Jvm.exec) {x y : Int32} (hd : decode c.code pc = .ok (.isub, 1))
    (kk : Go p e below s CC SS QQ T (mkF m (pc + 1) Ls (.int (x - y) :: rest))) : Go p e below s CC SS QQ T (mkF m pc Ls (.int y :: .int x :: rest)) := Go.st (fun _ => XS.isub X.here hx rfl hd rfl) kk
theorem gIand (X : Stand p l e R s m args below meth c T locs cells slots) (hx : p.tables.exec = Jvm.exec) {x y : Int32} (hd : decode c.code pc = .ok (.iand, 1))
    (kk : Go p e below s CC SS QQ T (mkF m (pc + 1) Ls (.int (x &&& y) :: rest))) : Go p e below s CC SS QQ T (mkF m pc Ls (.int y :: .int x :: rest)) := Go.st (fun _ => XS.iand X.here hx rfl hd rfl) kk
theorem gImul (X : Stand p l e R s m args below meth c T locs cells slots) (hx : p.tables.exec = Jvm.exec) {x y : Int32} (hd : decode c.code pc = .ok (.imul, 1))
    (kk : Go p e below s CC SS QQ T (mkF m (pc + 1) Ls (.int (x * y) :: rest))) : Go p e below s CC SS QQ T (mkF m pc Ls (.int y :: .int x :: rest)) := Go.st (fun _ => XS.imul X.here hx rfl hd rfl) kk
theorem gIxor (X : Stand p l e R s m args below meth c T locs cells slots) (hx : p.tables.exec = Jvm.exec) {x y : Int32} (hd : decode c.code pc = .ok (.ixor, 1))
    (kk : Go p e below s CC SS QQ T (mkF m (pc + 1) Ls (.int (x ^^^ y) :: rest))) : Go p e below s CC SS QQ T (mkF m pc Ls (.int y :: .int x :: rest)) := Go.st (fun _ => XT.ixor X.here hx rfl hd rfl) kk
theorem gIshl (X : Stand p l e R s m args below meth c T locs cells slots) (hx : p.tables.exec = Jvm.exec) {x y : Int32} (hd : decode c.code pc = .ok (.ishl, 1))
    (kk : Go p e below s CC SS QQ T (mkF m (pc + 1) Ls (.int (x <<< (y &&& 31)) :: rest))) : Go p e below s CC SS QQ T (mkF m pc Ls (.int y :: .int x :: rest)) := Go.st (fun _ => XT.ishl X.here hx rfl hd rfl) kk
theorem gIshr (X : Stand p l e R s m args below meth c T locs cells slots) (hx : p.tables.exec = Jvm.exec) {x y : Int32} (hd : decode c.code pc = .ok (.ishr, 1))
    (kk : Go p e below s CC SS QQ T (mkF m (pc + 1) Ls (.int (x >>> (y &&& 31)) :: rest))) : Go p e below s CC SS QQ T (mkF m pc Ls (.int y :: .int x :: rest)) := Go.st (fun _ => XT.ishr X.here hx rfl hd rfl) kk
theorem gIushr (X : Stand p l e R s m args below meth c T locs cells slots) (hx : p.tables.exec = Jvm.exec) {x y : Int32} (hd : decode c.code pc = .ok (.iushr, 1))
    (kk : Go p e below s CC SS QQ T (mkF m (pc + 1) Ls (.int (XT.ushr x y) :: rest))) : Go p e below s CC SS QQ T (mkF m pc Ls (.int y :: .int x :: rest)) := Go.st (fun _ => XT.iushr X.here hx rfl hd rfl) kk
theorem gIrem (X : Stand p l e R s m args below meth c T locs cells slots) (hx : p.tables.exec = Jvm.exec) {x y : Int32} (hd : decode c.code pc = .ok (.irem, 1)) (hy : y ≠ 0)
    (kk : Go p e below s CC SS QQ T (mkF m (pc + 1) Ls (.int (x % y) :: rest))) : Go p e below s CC SS QQ T (mkF m pc Ls (.int y :: .int x :: rest)) := Go.st (fun _ => iremM X hx rfl hd rfl hy) kk
theorem gI2b (X : Stand p l e R s m args below meth c T locs cells slots) (hx : p.tables.exec = Jvm.exec) {x : Int32} (hd : decode c.code pc = .ok (.i2b, 1))
    (kk : Go p e below s CC SS QQ T (mkF m (pc + 1) Ls (.int x.toInt8.toInt32 :: rest))) : Go p e below s CC SS QQ T (mkF m pc Ls (.int x :: rest)) := Go.st (fun _ => XT.i2b X.here hx rfl hd rfl) kk
theorem gI2c (X : Stand p l e R s m args below meth c T locs cells slots) (hx : p.tables.exec = Jvm.exec) {x : Int32} (hd : decode c.code pc = .ok (.i2c, 1))
    (kk : Go p e below s CC SS QQ T (mkF m (pc + 1) Ls (.int x.toUInt32.toUInt16.toUInt32.toInt32 :: rest))) : Go p e below s CC SS QQ T (mkF m pc Ls (.int x :: rest)) := Go.st (fun _ => XT.i2c X.here hx rfl hd rfl) kk
theorem gDup (X : Stand p l e R s m args below meth c T locs cells slots) (hx : p.tables.exec = Jvm.exec) {x : Value} (hd : decode c.code pc = .ok (.dup, 1)) (hc : x.category = 1)
    (kk : Go p e below s CC SS QQ T (mkF m (pc + 1) Ls (x :: x :: rest))) : Go p e below s CC SS QQ T (mkF m pc Ls (x :: rest)) := Go.st (fun _ => XS.dup X.here hx rfl hd rfl hc) kk
theorem gPop (X : Stand p l e R s m args below meth c T locs cells slots) (hx : p.tables.exec = Jvm.exec) {x : Value} (hd : decode c.code pc = .ok (.pop, 1)) (hc : x.category = 1)
    (kk : Go p e below s CC SS QQ T (mkF m (pc + 1) Ls rest)) : Go p e below s CC SS QQ T (mkF m pc Ls (x :: rest)) := Go.st (fun _ => XT.pop X.here hx rfl hd rfl hc) kk
theorem gIstoreN (X : Stand p l e R s m args below meth c T locs cells slots) (hx : p.tables.exec = Jvm.exec) {k : Fin 4} {x : Int32} (l' : Array Slot) (hd : decode c.code pc = .ok (.istore_n k, 1)) (hl : storeLocals Ls k.val (.int x) = some l')
    (kk : Go p e below s CC SS QQ T (mkF m (pc + 1) l' rest)) : Go p e below s CC SS QQ T (mkF m pc Ls (.int x :: rest)) := Go.st (fun _ => XS.istoreN X.here hx rfl hd rfl hl) kk
theorem gIstore (X : Stand p l e R s m args below meth c T locs cells slots) (hx : p.tables.exec = Jvm.exec) {k : Nat} {x : Int32} (l' : Array Slot) (hd : decode c.code pc = .ok (.istore k, 2)) (hl : storeLocals Ls k (.int x) = some l')
    (kk : Go p e below s CC SS QQ T (mkF m (pc + 2) l' rest)) : Go p e below s CC SS QQ T (mkF m pc Ls (.int x :: rest)) := Go.st (fun _ => XS.istore X.here hx rfl hd rfl hl) kk
theorem gAstoreN (X : Stand p l e R s m args below meth c T locs cells slots) (hx : p.tables.exec = Jvm.exec) {k : Fin 4} {x : Value} (l' : Array Slot) (hd : decode c.code pc = .ok (.astore_n k, 1)) (hv : x.isRef = true) (hl : storeLocals Ls k.val x = some l')
    (kk : Go p e below s CC SS QQ T (mkF m (pc + 1) l' rest)) : Go p e below s CC SS QQ T (mkF m pc Ls (x :: rest)) := Go.st (fun _ => XS.astoreN X.here hx rfl hd rfl hv hl) kk
theorem gAstore (X : Stand p l e R s m args below meth c T locs cells slots) (hx : p.tables.exec = Jvm.exec) {k : Nat} {x : Value} (l' : Array Slot) (hd : decode c.code pc = .ok (.astore k, 2)) (hv : x.isRef = true) (hl : storeLocals Ls k x = some l')
    (kk : Go p e below s CC SS QQ T (mkF m (pc + 2) l' rest)) : Go p e below s CC SS QQ T (mkF m pc Ls (x :: rest)) := Go.st (fun _ => XS.astore X.here hx rfl hd rfl hv hl) kk
theorem gIinc (X : Stand p l e R s m args below meth c T locs cells slots) (hx : p.tables.exec = Jvm.exec) {k : Nat} {cst : Int} {x : Int32} (v : Int32) (l' : Array Slot) (hd : decode c.code pc = .ok (.iinc k cst, 3)) (hv : Int32.ofInt cst = v) (hl : Ls[k]? = some (.val (.int x))) (hl' : storeLocals Ls k (.int (x + v)) = some l')
    (kk : Go p e below s CC SS QQ T (mkF m (pc + 3) l' rest)) : Go p e below s CC SS QQ T (mkF m pc Ls rest) := by subst hv; exact Go.st (fun _ => XS.iinc X.here hx rfl hd hl hl') kk
theorem gGoto (X : Stand p l e R s m args below meth c T locs cells slots) (hx : p.tables.exec = Jvm.exec) {o : Int} (pc' : Nat) (hd : decode c.code pc = .ok (.goto o, 3)) (ho : 0 ≤ (pc : Int) + o) (hp : ((pc : Int) + o).toNat = pc')
    (kk : Go p e below s CC SS QQ T (mkF m pc' Ls rest)) : Go p e below s CC SS QQ T (mkF m pc Ls rest) := Go.st (fun _ => XS.goto X.here hx rfl (pc0 := pc) rfl hd ho hp) kk
-- the branches: both roads
theorem gIcmp (X : Stand p l e R s m args below meth c T locs cells slots) (hx : p.tables.exec = Jvm.exec) {cd : ClassFile.Cond} {x y : Int32} {o : Int} (pc' : Nat) (hd : decode c.code pc = .ok (.if_icmp cd o, 3)) (ho : 0 ≤ (pc : Int) + o) (hp : ((pc : Int) + o).toNat = pc')
    (kt : if_icmp.holds cd x y = true → Go p e below s CC SS QQ T (mkF m pc' Ls rest)) (kf : if_icmp.holds cd x y = false → Go p e below s CC SS QQ T (mkF m (pc + 3) Ls rest)) : Go p e below s CC SS QQ T (mkF m pc Ls (.int y :: .int x :: rest)) := by
  cases hq : if_icmp.holds cd x y
  · exact Go.st (fun _ => XS.icmpNo X.here hx rfl hd rfl hq) (kf hq)
  · exact Go.st (fun _ => XS.icmpYes X.here hx rfl (pc0 := pc) rfl hd rfl hq ho hp) (kt hq)
theorem gIf (X : Stand p l e R s m args below meth c T locs cells slots) (hx : p.tables.exec = Jvm.exec) {cd : ClassFile.Cond} {x : Int32} {o : Int} (pc' : Nat) (hd : decode c.code pc = .ok (.ifCond cd o, 3)) (ho : 0 ≤ (pc : Int) + o) (hp : ((pc : Int) + o).toNat = pc')
    (kt : if_icmp.holds cd x 0 = true → Go p e below s CC SS QQ T (mkF m pc' Ls rest)) (kf : if_icmp.holds cd x 0 = false → Go p e below s CC SS QQ T (mkF m (pc + 3) Ls rest)) : Go p e below s CC SS QQ T (mkF m pc Ls (.int x :: rest)) := by
  cases hq : if_icmp.holds cd x 0
  · exact Go.st (fun _ => XS.ifNo X.here hx rfl hd rfl ((if0 _ _).trans hq)) (kf hq)
  · exact Go.st (fun _ => XS.ifYes X.here hx rfl (pc0 := pc) rfl hd rfl ((if0 _ _).trans hq) ho hp) (kt hq)
theorem o_eqT {x y : Int32} (h : if_icmp.holds .eq x y = true) : x = y := Decidable.byContradiction fun q => by rw [(feq q).1] at h; cases h
theorem o_eqF {x y : Int32} (h : if_icmp.holds .eq x y = false) : ¬ x = y := fun q => by rw [(teq q).1] at h; cases h
theorem o_neT {x y : Int32} (h : if_icmp.holds .ne x y = true) : ¬ x = y := fun q => by rw [(teq q).2] at h; cases h
theorem o_neF {x y : Int32} (h : if_icmp.holds .ne x y = false) : x = y := Decidable.byContradiction fun q => by rw [(feq q).2] at h; cases h
theorem o_ltT {x y : Int32} (h : if_icmp.holds .lt x y = true) : x < y := Decidable.byContradiction fun q => by rw [(flt q).1] at h; cases h
theorem o_ltF {x y : Int32} (h : if_icmp.holds .lt x y = false) : ¬ x < y := fun q => by rw [(tlt q).1] at h; cases h
theorem o_geT {x y : Int32} (h : if_icmp.holds .ge x y = true) : ¬ x < y := fun q => by rw [(tlt q).2.1] at h; cases h
theorem o_geF {x y : Int32} (h : if_icmp.holds .ge x y = false) : x < y := Decidable.byContradiction fun q => by rw [(flt q).2.1] at h; cases h
theorem o_gtT {x y : Int32} (h : if_icmp.holds .gt x y = true) : y < x := Decidable.byContradiction fun q => by rw [(flt q).2.2.1] at h; cases h
theorem o_gtF {x y : Int32} (h : if_icmp.holds .gt x y = false) : ¬ y < x := fun q => by rw [(tlt q).2.2.1] at h; cases h
theorem o_leT {x y : Int32} (h : if_icmp.holds .le x y = true) : ¬ y < x := fun q => by rw [(tlt q).2.2.2] at h; cases h
theorem o_leF {x y : Int32} (h : if_icmp.holds .le x y = false) : y < x := Decidable.byContradiction fun q => by rw [(flt q).2.2.2] at h; cases h
-- calls, by the callee's contract
theorem gStatic (X : Stand p l e R s m args below meth c T locs cells slots) (hx : p.tables.exec = Jvm.exec) (hZ : Z.Warmed39 s.vm) {own : String} {index : Nat} {y : MethodName} {bytes : ByteArray} {maxL : Nat} {ret : Option FieldType} {rm : Room} {Q' : Option Value → Heap → List Loc → Prop} {argsL rest : List Value} {W : Nat}
    (hown : s.vm.findClass own = some m.cls) (hy : y.cls ≠ "java/lang/invoke/MethodHandle" ∧ y.cls ≠ "java/lang/invoke/VarHandle") (w1 : (Cond.methodLink own index y).before a0 Z = true) (w2 : (Cond.static y).before a0 Z = true) (w3 : (Cond.initialized y.cls).before a0 Z = true) (w4 : (Cond.code y bytes maxL ret).before a0 Z = true)
    (hM : Met l Z y bytes maxL ret [] rm argsL.toArray h Q') (eT : T.heap = h) (hsize : Ls.size = c.maxLocals) (hlen : ∀ sig, parseMethodDescriptor y.desc = some sig → argsL.length = sig.parameters.length) {st : List Value} (hst : st = argsL.reverse ++ rest) (hW : (rest.map fun v => v.category).sum ≤ W)
    (hf : rm.frames + 1 ≤ R.frames) (hl : W + (maxL + 11) + rm.locals ≤ R.locals) (hc : cells + rm.cells ≤ R.cells) (hs : slots + rm.slots ≤ R.slots) (hd : decode c.code pc = .ok (.invokestatic index, 3))
    (kk : ∀ (v : Option Value) (T' : State) (L : List Loc), Stand p l e R s m args below meth c T' (locs ++ L) (cells + rm.cells) (slots + rm.slots) → Q' v T'.heap L → Go p e below s CC SS QQ T' (mkF m (pc + 3) Ls (v.toList ++ rest))) : Go p e below s CC SS QQ T (mkF m pc Ls st) := by
  subst hst
  obtain ⟨v, vm₁, ⟨T', L', k', n'⟩, -, X', ⟨Lc, hQ, l1, y1, z1⟩, st⟩ := Jvm.LawKit.callS X hx (y := y) hown (mvT hZ w1) (mvT hZ w2) (mvT hZ w3) (mvT hZ w4) hy (backOf (W := W) hM hZ w4 w3 hf hl) (g := mkF m pc Ls (argsL.reverse ++ rest)) rfl hsize (argsL := argsL) (rest := rest) hlen rfl (by show 2 * 0 + _ ≤ _; omega) hd (fun _ _ => ⟨rfl, eT, hc, hs⟩)
  dsimp only [Pt.U, Pt.locs, Pt.cells, Pt.slots] at X' l1 y1 z1 st hQ
  subst l1 y1 z1
  exact Go.st st (kk v T' Lc X' hQ)
theorem gInit (X : Stand p l e R s m args below meth c T locs cells slots) (hx : p.tables.exec = Jvm.exec) (hZ : Z.Warmed39 s.vm) {own : String} {index : Nat} {y : MethodName} {bytes : ByteArray} {maxL : Nat} {rm : Room} {Q' : Option Value → Heap → List Loc → Prop} {a : Addr} {argsL rest : List Value} {W : Nat}
    (hown : s.vm.findClass own = some m.cls) (hy1 : y.name = "<init>") (hy : y.cls ≠ "java/lang/invoke/MethodHandle" ∧ y.cls ≠ "java/lang/invoke/VarHandle") (w1 : (Cond.methodLink own index y).before a0 Z = true) (w2 : (Cond.instanceMethod y).before a0 Z = true) (w3 : (Cond.initialized y.cls).before a0 Z = true) (w4 : (Cond.code y bytes maxL none).before a0 Z = true)
    (hM : Met l Z y bytes maxL none [] rm (.ref a :: argsL).toArray h Q') (eT : T.heap = h) (hsize : Ls.size = c.maxLocals) (hlen : ∀ sig, parseMethodDescriptor y.desc = some sig → argsL.length = sig.parameters.length) {st : List Value} (hst : st = argsL.reverse ++ .ref a :: rest) (hW : (rest.map fun v => v.category).sum ≤ W)
    (hf : rm.frames + 1 ≤ R.frames) (hl : W + (maxL + 11) + rm.locals ≤ R.locals) (hc : cells + rm.cells ≤ R.cells) (hs : slots + rm.slots ≤ R.slots) (hd : decode c.code pc = .ok (.invokespecial index, 3))
    (kk : ∀ (v : Option Value) (T' : State) (L : List Loc), Stand p l e R s m args below meth c T' (locs ++ L) (cells + rm.cells) (slots + rm.slots) → Q' v T'.heap L → Go p e below s CC SS QQ T' (mkF m (pc + 3) Ls (v.toList ++ rest))) : Go p e below s CC SS QQ T (mkF m pc Ls st) := by
  subst hst
  obtain ⟨v, vm₁, ⟨T', L', k', n'⟩, -, X', ⟨Lc, hQ, l1, y1, z1⟩, st⟩ := X.specialBack hx (y := y) hy1 hown (mvT hZ w1) (mvT hZ w2) (mvT hZ w4) hy (backOf (W := W) hM hZ w4 w3 hf hl) (g := mkF m pc Ls (argsL.reverse ++ .ref a :: rest)) rfl hsize (Steps.refl _) (a := a) (argsL := argsL) (rest := rest) hlen rfl (by show 2 * 0 + _ ≤ _; omega) hd (fun _ _ => ⟨rfl, eT, hc, hs⟩)
  dsimp only [Pt.U, Pt.locs, Pt.cells, Pt.slots] at X' l1 y1 z1 st hQ
  subst l1 y1 z1
  exact Go.tr st (kk v T' Lc X' hQ)
theorem gVirtual (X : Stand p l e R s m args below meth c T locs cells slots) (hx : p.tables.exec = Jvm.exec) (hZ : Z.Warmed39 s.vm) {own : String} {index : Nat} {y : MethodName} {bytes : ByteArray} {maxL : Nat} {ret : Option FieldType} {rm : Room} {Q' : Option Value → Heap → List Loc → Prop} {a : Addr} {argsL rest : List Value} {W : Nat}
    (hown : s.vm.findClass own = some m.cls) (hy : y.cls ≠ "java/lang/invoke/MethodHandle" ∧ y.cls ≠ "java/lang/invoke/VarHandle") (w1 : (Cond.methodLink own index y).before a0 Z = true) (w2 : (Cond.declares y).before a0 Z = true) (w5 : (Cond.instanceMethod y).before a0 Z = true) (w6 : (Cond.selects y.cls y y).before a0 Z = true) (w3 : (Cond.initialized y.cls).before a0 Z = true) (w4 : (Cond.code y bytes maxL ret).before a0 Z = true)
    (E : Exa Z h a y.cls) (hM : Met l Z y bytes maxL ret [] rm (.ref a :: argsL).toArray h Q') (eT : T.heap = h) (hsize : Ls.size = c.maxLocals) (hlen : ∀ sig, parseMethodDescriptor y.desc = some sig → argsL.length = sig.parameters.length) {st : List Value} (hst : st = argsL.reverse ++ .ref a :: rest) (hW : (rest.map fun v => v.category).sum ≤ W)
    (hf : rm.frames + 1 ≤ R.frames) (hl : W + (maxL + 11) + rm.locals ≤ R.locals) (hc : cells + rm.cells ≤ R.cells) (hs : slots + rm.slots ≤ R.slots) (hd : decode c.code pc = .ok (.invokevirtual index, 3))
    (kk : ∀ (v : Option Value) (T' : State) (L : List Loc), Stand p l e R s m args below meth c T' (locs ++ L) (cells + rm.cells) (slots + rm.slots) → Q' v T'.heap L → Go p e below s CC SS QQ T' (mkF m (pc + 3) Ls (v.toList ++ rest))) : Go p e below s CC SS QQ T (mkF m pc Ls st) := by
  subst hst
  obtain ⟨cq, kq, qa, qb, qc⟩ := isOf hZ eT E
  obtain ⟨v, vm₁, ⟨T', L', k', n'⟩, -, X', ⟨Lc, hQ, l1, y1, z1⟩, st⟩ := X.virtualBack hx (y := y) (z := y) hown (mvT hZ w1) (mvT hZ w2) (notFace_of_selects (args := #[]) (mvT hZ w6)) (mvT hZ w6) (mvT hZ w5) hy (backOf (W := W) hM hZ w4 w3 hf hl) qa qc (g := mkF m pc Ls (argsL.reverse ++ .ref a :: rest)) rfl hsize (Steps.refl _) (argsL := argsL) (rest := rest) hlen rfl (by show 2 * 0 + _ ≤ _; omega) hd (fun _ _ => ⟨rfl, eT, hc, hs⟩)
  dsimp only [Pt.U, Pt.locs, Pt.cells, Pt.slots] at X' l1 y1 z1 st hQ
  subst l1 y1 z1
  exact Go.tr st (kk v T' Lc X' hQ)
theorem gPrivate (X : Stand p l e R s m args below meth c T locs cells slots) (hx : p.tables.exec = Jvm.exec) (hZ : Z.Warmed39 s.vm) {own : String} {index : Nat} {y : MethodName} {bytes : ByteArray} {maxL : Nat} {ret : Option FieldType} {rm : Room} {Q' : Option Value → Heap → List Loc → Prop} {a : Addr} {C : String} {argsL rest : List Value} {W : Nat}
    (hown : s.vm.findClass own = some m.cls) (hy : y.cls ≠ "java/lang/invoke/MethodHandle" ∧ y.cls ≠ "java/lang/invoke/VarHandle") (w1 : (Cond.methodLink own index y).before a0 Z = true) (w2 : (Cond.instanceMethod y).before a0 Z = true) {kq : Nat} (w6 : (Cond.instantiable y.cls kq).before a0 Z = true) (w5 : (Cond.privateMethod y).before a0 Z = true) (w3 : (Cond.initialized y.cls).before a0 Z = true) (w4 : (Cond.code y bytes maxL ret).before a0 Z = true)
    (E : Exa Z h a C) (hM : Met l Z y bytes maxL ret [] rm (.ref a :: argsL).toArray h Q') (eT : T.heap = h) (hsize : Ls.size = c.maxLocals) (hlen : ∀ sig, parseMethodDescriptor y.desc = some sig → argsL.length = sig.parameters.length) {st : List Value} (hst : st = argsL.reverse ++ .ref a :: rest) (hW : (rest.map fun v => v.category).sum ≤ W)
    (hf : rm.frames + 1 ≤ R.frames) (hl : W + (maxL + 11) + rm.locals ≤ R.locals) (hc : cells + rm.cells ≤ R.cells) (hs : slots + rm.slots ≤ R.slots) (hd : decode c.code pc = .ok (.invokevirtual index, 3))
    (kk : ∀ (v : Option Value) (T' : State) (L : List Loc), Stand p l e R s m args below meth c T' (locs ++ L) (cells + rm.cells) (slots + rm.slots) → Q' v T'.heap L → Go p e below s CC SS QQ T' (mkF m (pc + 3) Ls (v.toList ++ rest))) : Go p e below s CC SS QQ T (mkF m pc Ls st) := by
  subst hst
  obtain ⟨cq, q1, q2⟩ := E.cell
  obtain ⟨ci, ki, hi1, hi2, -, hi3, -⟩ := Cond.instantiable_spec (mvT (args := #[]) hZ w6)
  have hsel : (Cond.selects y.cls y y).before args s = true := selects_self_of_private hi1 hi2 (by simpa using (Bool.or_eq_false_iff.mp hi3).1) (Cond.privateMethod_at (mvP hZ w5 (args := #[]))) (mvT hZ w2) hy
  obtain ⟨v, vm₁, ⟨T', L', k', n'⟩, -, X', ⟨Lc, hQ, l1, y1, z1⟩, st⟩ := X.privateBack hx (y := y) hown (mvT hZ w1) (mvT hZ w2) hsel (Cond.privateMethod_at (mvP hZ w5 (args := #[]))) (mvT hZ w4) hy (backOf (W := W) hM hZ w4 w3 hf hl) (g := mkF m pc Ls (argsL.reverse ++ .ref a :: rest)) rfl hsize (Steps.refl _) (a := a) (by rw [eT]; exact q1) q2 (argsL := argsL) (rest := rest) hlen rfl (by show 2 * 0 + _ ≤ _; omega) hd (fun _ _ => ⟨rfl, eT, hc, hs⟩)
  dsimp only [Pt.U, Pt.locs, Pt.cells, Pt.slots] at X' l1 y1 z1 st hQ
  subst l1 y1 z1
  exact Go.tr st (kk v T' Lc X' hQ)
theorem gObjInit (X : Stand p l e R s m args below meth c T locs cells slots) (hx : p.tables.exec = Jvm.exec) (hZ : Z.Warmed39 s.vm) {own : String} {idx : Nat} (hown : s.vm.findClass own = some m.cls) (w1 : (Cond.methodLink own idx Lib.objectInit).before a0 Z = true) (w2 : (Cond.instanceMethod Lib.objectInit).before a0 Z = true)
    (w3 : (Cond.code Lib.objectInit object_method_1_code 1 none).before a0 Z = true) (eT : T.heap = h) (hsize : Ls.size = c.maxLocals) {a : Addr} (hd : decode c.code pc = .ok (.invokespecial idx, 3)) (hf : 1 ≤ R.frames) {W : Nat} (hW : (rest.map fun v => v.category).sum ≤ W) (hl : W + 12 ≤ R.locals)
    (kk : ∀ T', Stand p l e R s m args below meth c T' locs cells slots → T'.heap = h → Go p e below s CC SS QQ T' (mkF m (pc + 3) Ls rest)) : Go p e below s CC SS QQ T (mkF m pc Ls (.ref a :: rest)) := by
  obtain ⟨T', X', e', st⟩ := initO X hx hZ hown w1 w2 w3 eT (g := mkF m pc Ls (.ref a :: rest)) rfl hsize rfl hd hf (W := W) (by show 2 * 0 + _ ≤ _; omega) hl
  exact Go.st st (kk T' X' e')
-- fields, new objects, arrays
theorem gGetF (X : Stand p l e R s m args below meth c T locs cells slots) (hx : p.tables.exec = Jvm.exec) (hZ : Z.Warmed39 s.vm) {own O n d : String} {index : Nat} (hown : s.vm.findClass own = some m.cls) (w : (Cond.fieldLink own index O n d).before a0 Z = true) (eT : T.heap = h) {a : Addr} {v : Value} (F : Fld Z h a O n d v) (hd : decode c.code pc = .ok (.getfield index, 3))
    (kk : ∀ T', Stand p l e R s m args below meth c T' locs cells slots → T'.heap = h → Go p e below s CC SS QQ T' (mkF m (pc + 3) Ls (v :: rest))) : Go p e below s CC SS QQ T (mkF m pc Ls (.ref a :: rest)) := by
  obtain ⟨T', X', e', st⟩ := getF X hx hZ hown (host := "") (Or.inl w) Via.refl eT F (g := mkF m pc Ls (.ref a :: rest)) rfl rfl hd
  exact Go.st st (kk T' X' e')
theorem gPutF (X : Stand p l e R s m args below meth c T locs cells slots) (hx : p.tables.exec = Jvm.exec) (hZ : Z.Warmed39 s.vm) {own O n d C : String} {index kq : Nat} {ty : FieldType} (hown : s.vm.findClass own = some m.cls) (w : (Cond.fieldLink own index O n d).before a0 Z = true) (eT : T.heap = h) {a : Addr} {v old : Value} (F : Fld Z h a O n d old) (E : Exa Z h a C)
    (L : (Cond.lays C O n d).before a0 Z = true ∨ ((Cond.laysFinal C O n d).before a0 Z = true ∧ own = O ∧ meth.name = "<init>")) (wi : (Cond.instantiable C kq).before a0 Z = true) (hty : parseFieldDescriptor d = some ty) (hn : narrow ty v = v) (hf : fits ty v = true) (hd : decode c.code pc = .ok (.putfield index, 3))
    (kk : ∀ T' h', Stand p l e R s m args below meth c T' (locs ++ [⟨a, Jvm.RoadKit.slotOf Z O n d⟩]) cells slots → T'.heap = h' → Wr h h' a (Jvm.RoadKit.slotOf Z O n d) v → Go p e below s CC SS QQ T' (mkF m (pc + 3) Ls rest)) : Go p e below s CC SS QQ T (mkF m pc Ls (v :: .ref a :: rest)) := by
  obtain ⟨T', h', X', e', W', st⟩ := putF X hx hZ hown (host := "") (Or.inl w) Via.refl eT F E L wi hty hn hf (g := mkF m pc Ls (v :: .ref a :: rest)) rfl rfl hd
  exact Go.st st (kk T' h' X' e' W')
theorem gPutFN (X : Stand p l e R s m args below meth c T locs cells slots) (hx : p.tables.exec = Jvm.exec) (hZ : Z.Warmed39 s.vm) {own O n d C : String} {index kq : Nat} {ty : FieldType} (hown : s.vm.findClass own = some m.cls) (w : (Cond.fieldLink own index O n d).before a0 Z = true) (eT : T.heap = h) {a : Addr} {v old : Value} (v' : Value) (F : Fld Z h a O n d old) (E : Exa Z h a C)
    (L : (Cond.lays C O n d).before a0 Z = true ∨ ((Cond.laysFinal C O n d).before a0 Z = true ∧ own = O ∧ meth.name = "<init>")) (wi : (Cond.instantiable C kq).before a0 Z = true) (hty : parseFieldDescriptor d = some ty) (hn : narrow ty v = v') (hf : fits ty v' = true) (hd : decode c.code pc = .ok (.putfield index, 3))
    (kk : ∀ T' h', Stand p l e R s m args below meth c T' (locs ++ [⟨a, Jvm.RoadKit.slotOf Z O n d⟩]) cells slots → T'.heap = h' → Wr h h' a (Jvm.RoadKit.slotOf Z O n d) v' → Go p e below s CC SS QQ T' (mkF m (pc + 3) Ls rest)) : Go p e below s CC SS QQ T (mkF m pc Ls (v :: .ref a :: rest)) := by
  obtain ⟨T', h', X', e', W', st⟩ := putFN X hx hZ hown w Via.refl eT F E L wi hty hn hf (g := mkF m pc Ls (v :: .ref a :: rest)) rfl rfl hd
  exact Go.st st (kk T' h' X' e' W')
theorem gNew (X : Stand p l e R s m args below meth c T locs cells slots) (hx : p.tables.exec = Jvm.exec) (hZ : Z.Warmed39 s.vm) {own C : String} {index n : Nat} (hown : s.vm.findClass own = some m.cls) (w : (Cond.classLink own index C).before a0 Z = true) (wi : (Cond.instantiable C n).before a0 Z = true) (wz : (Cond.initialized C).before a0 Z = true) (eT : T.heap = h)
    (hd : decode c.code pc = .ok (.new index, 3)) (hc : cells + 1 ≤ R.cells) (hl : slots + n ≤ R.slots)
    (kk : ∀ T' h' b, Stand p l e R s m args below meth c T' locs (cells + 1) (slots + n) → T'.heap = h' → Ext h h' → b = h.size → Exa Z h' b C → (∀ {O nm d : String} {ty : FieldType}, Laid Z a0 C O nm d → parseFieldDescriptor d = some ty → Fld Z h' b O nm d (defaultValue ty)) → Go p e below s CC SS QQ T' (mkF m (pc + 3) Ls (.ref b :: rest))) : Go p e below s CC SS QQ T (mkF m pc Ls rest) := by
  obtain ⟨T', h', X', e', E', A', D', -, st⟩ := newO X hx hZ hown w wi wz eT (g := mkF m pc Ls rest) rfl hd hc hl
  exact Go.st st (kk T' h' _ X' e' E' rfl A' D')
theorem gNewArr (X : Stand p l e R s m args below meth c T locs cells slots) (hx : p.tables.exec = Jvm.exec) (hZ : Z.Warmed39 s.vm) {aty : ArrayType} (w : (Cond.arrayClass (newarray.typeOf aty)).before a0 Z = true) (eT : T.heap = h) (hd : decode c.code pc = .ok (.newarray aty, 2)) {n : Int32} (hn : ¬ n < 0) {cap : Nat} (hcap : n.toNatClampNeg ≤ cap) (hb : cap * 8 ≤ 536870912) (hc : cells + 1 ≤ R.cells) (hl : slots + cap ≤ R.slots)
    (kk : ∀ T' h' b cA, Stand p l e R s m args below meth c T' locs (cells + 1) (slots + cap) → T'.heap = h' → Ext h h' → b = h.size → Arr Z h' b (newA cA (newarray.typeOf aty) n) (newarray.typeOf aty) → Go p e below s CC SS QQ T' (mkF m (pc + 2) Ls (.ref b :: rest))) : Go p e below s CC SS QQ T (mkF m pc Ls (.int n :: rest)) := by
  obtain ⟨T', h', cA, X', e', E', A', st⟩ := newP X hx hZ w eT (g := mkF m pc Ls (.int n :: rest)) rfl hd rfl hn (cap := cap) hcap hb hc hl
  exact Go.st st (kk T' h' _ cA X' e' E' rfl A')
/-- an array of ints (or of bytes): n places, the j-th holds f j -/
def IA (Z : State) (h : Heap) (a : Addr) (ty : FieldType) (n : Nat) (f : Nat → Int32) : Prop := ∃ cl : Cell, Arr Z h a cl ty ∧ cl.slots.size = n ∧ ∀ j, j < n → cl.slots[j]? = some (.int (f j))
def upd (f : Nat → Int32) (k : Nat) (v : Int32) : Nat → Int32 := fun j => if j = k then v else f j
theorem IA.lt {a : Addr} {ty : FieldType} {n : Nat} {f : Nat → Int32} (F : IA Z h a ty n f) : a < h.size := by obtain ⟨cl, A, -⟩ := F; exact A.lt
theorem IA.ext {h' : Heap} {a : Addr} {ty : FieldType} {n : Nat} {f : Nat → Int32} (F : IA Z h a ty n f) (E : Ext h h') : IA Z h' a ty n f := by obtain ⟨cl, A, r⟩ := F; exact ⟨cl, A.ext E, r⟩
theorem IA.other {h' : Heap} {a b : Addr} {sl : Nat} {v : Value} {ty : FieldType} {n : Nat} {f : Nat → Int32} (F : IA Z h a ty n f) (W : Wr h h' b sl v) (q : a ≠ b) : IA Z h' a ty n f := by obtain ⟨cl, A, r⟩ := F; exact ⟨cl, A.other W q, r⟩
theorem IA.keep {h' : Heap} {a : Addr} {ws : List Addr} {ty : FieldType} {n : Nat} {f : Nat → Int32} (F : IA Z h a ty n f) (K : Keep h h' ws) (q : a ∉ ws) : IA Z h' a ty n f := by
  obtain ⟨cl, A, r⟩ := F
  exact ⟨cl, ⟨K.2.1 a cl A.1 q, A.2⟩, r⟩
theorem IA.set {h' : Heap} {a : Addr} {k : Nat} {v : Int32} {ty : FieldType} {n : Nat} {f : Nat → Int32} (F : IA Z h a ty n f) (W : Wr h h' a k (.int v)) : IA Z h' a ty n (upd f k v) := by
  obtain ⟨cl, A, hs, hf⟩ := F
  refine ⟨_, A.same W, by rw [sz_set]; exact hs, fun j hj => ?_⟩
  show (cl.slots.setIfInBounds k (.int v))[j]? = _
  rw [Array.getElem?_setIfInBounds]
  by_cases q : k = j
  · subst q
    rw [if_pos rfl, if_pos (by rw [hs]; exact hj)]
    simp [upd]
  · rw [if_neg q, hf j hj]
    show _ = some (Value.int (if j = k then v else f j))
    rw [if_neg fun z => q z.symm]
theorem IA.congr {a : Addr} {ty : FieldType} {n : Nat} {f g : Nat → Int32} (F : IA Z h a ty n f) (q : ∀ j, j < n → f j = g j) : IA Z h a ty n g := by
  obtain ⟨cl, A, hs, hf⟩ := F
  exact ⟨cl, A, hs, fun j hj => by rw [hf j hj, q j hj]⟩
theorem IA.new {a : Addr} {cA : ClassId} {ty : FieldType} {z : Int32} (hty : defaultValue ty = .int 0) (A : Arr Z h a (newA cA ty z) ty) : IA Z h a ty z.toNatClampNeg (fun _ => 0) := by
  refine ⟨_, A, sz_new _ _ _, fun j hj => ?_⟩
  simp [newA, hj, hty]
theorem gIaload (X : Stand p l e R s m args below meth c T locs cells slots) (hx : p.tables.exec = Jvm.exec) (hZ : Z.Warmed39 s.vm) (eT : T.heap = h) {a : Addr} {n : Nat} {f : Nat → Int32} (F : IA Z h a .int n f) {j : Int32} (hj : ¬ j < 0 ∧ j.toNatClampNeg < n) (hd : decode c.code pc = .ok (.iaload, 1))
    (kk : Go p e below s CC SS QQ T (mkF m (pc + 1) Ls (.int (f j.toNatClampNeg) :: rest))) : Go p e below s CC SS QQ T (mkF m pc Ls (.int j :: .ref a :: rest)) := by
  obtain ⟨cl, A, hs, hf⟩ := F
  exact Go.st (X.iaload hx (j := j) (v := .int (f j.toNatClampNeg)) (by rw [eT]; exact A.1) (State.isArrayOf_alike hZ.alike A.2.1) A.2.2 (fun q => q.elim hj.1 fun r => absurd hj.2 (Nat.not_lt.mpr (hs ▸ r))) (hf _ hj.2) (g := mkF m pc Ls (.int j :: .ref a :: rest)) rfl rfl hd) kk
theorem gBaload (X : Stand p l e R s m args below meth c T locs cells slots) (hx : p.tables.exec = Jvm.exec) (hZ : Z.Warmed39 s.vm) (eT : T.heap = h) {a : Addr} {n : Nat} {f : Nat → Int32} (F : IA Z h a .byte n f) {j : Int32} (hj : ¬ j < 0 ∧ j.toNatClampNeg < n) (hd : decode c.code pc = .ok (.baload, 1))
    (kk : Go p e below s CC SS QQ T (mkF m (pc + 1) Ls (.int (f j.toNatClampNeg) :: rest))) : Go p e below s CC SS QQ T (mkF m pc Ls (.int j :: .ref a :: rest)) := by
  obtain ⟨cl, A, hs, hf⟩ := F
  exact Go.st (X.baloadBytes hx (j := j) (v := .int (f j.toNatClampNeg)) (by rw [eT]; exact A.1) (State.isArrayOf_alike hZ.alike A.2.1) A.2.2 (fun q => q.elim hj.1 fun r => absurd hj.2 (Nat.not_lt.mpr (hs ▸ r))) (hf _ hj.2) (g := mkF m pc Ls (.int j :: .ref a :: rest)) rfl rfl hd) kk
theorem gIastore (X : Stand p l e R s m args below meth c T locs cells slots) (hx : p.tables.exec = Jvm.exec) (hZ : Z.Warmed39 s.vm) (eT : T.heap = h) {a : Addr} {n : Nat} {f : Nat → Int32} (F : IA Z h a .int n f) {j x : Int32} (k : Nat) (hk : j.toNatClampNeg = k) (hj : ¬ j < 0 ∧ k < n) (hd : decode c.code pc = .ok (.iastore, 1))
    (kk : ∀ T' h', Stand p l e R s m args below meth c T' (locs ++ [⟨a, k⟩]) cells slots → T'.heap = h' → Wr h h' a k (.int x) → IA Z h' a .int n (upd f k x) → Go p e below s CC SS QQ T' (mkF m (pc + 1) Ls rest)) : Go p e below s CC SS QQ T (mkF m pc Ls (.int x :: .int j :: .ref a :: rest)) := by
  subst hk
  obtain ⟨cl, A, hs, hf⟩ := id F
  obtain ⟨T', h', X', e', W', st⟩ := stI X hx hZ eT A (j := j) (x := x) (fun q => q.elim hj.1 fun r => absurd hj.2 (Nat.not_lt.mpr (hs ▸ r))) (g := mkF m pc Ls (.int x :: .int j :: .ref a :: rest)) rfl rfl hd
  exact Go.st st (kk T' h' X' e' W' (F.set W'))
theorem gBastore (X : Stand p l e R s m args below meth c T locs cells slots) (hx : p.tables.exec = Jvm.exec) (hZ : Z.Warmed39 s.vm) (eT : T.heap = h) {a : Addr} {n : Nat} {f : Nat → Int32} (F : IA Z h a .byte n f) {j x : Int32} (k : Nat) (hk : j.toNatClampNeg = k) (hj : ¬ j < 0 ∧ k < n) (hd : decode c.code pc = .ok (.bastore, 1))
    (kk : ∀ T' h', Stand p l e R s m args below meth c T' (locs ++ [⟨a, k⟩]) cells slots → T'.heap = h' → Wr h h' a k (.int (nar .byte x)) → IA Z h' a .byte n (upd f k (nar .byte x)) → Go p e below s CC SS QQ T' (mkF m (pc + 1) Ls rest)) : Go p e below s CC SS QQ T (mkF m pc Ls (.int x :: .int j :: .ref a :: rest)) := by
  subst hk
  obtain ⟨cl, A, hs, hf⟩ := id F
  obtain ⟨T', h', X', e', W', st⟩ := stB X hx hZ eT A (j := j) (x := x) (fun q => q.elim hj.1 fun r => absurd hj.2 (Nat.not_lt.mpr (hs ▸ r))) (g := mkF m pc Ls (.int x :: .int j :: .ref a :: rest)) rfl rfl hd
  exact Go.st st (kk T' h' X' e' W' (F.set W'))
theorem gLength (X : Stand p l e R s m args below meth c T locs cells slots) (hx : p.tables.exec = Jvm.exec) (hZ : Z.Warmed39 s.vm) (eT : T.heap = h) {a : Addr} {ty : FieldType} {n : Nat} {f : Nat → Int32} (F : IA Z h a ty n f) (hd : decode c.code pc = .ok (.arraylength, 1))
    (kk : Go p e below s CC SS QQ T (mkF m (pc + 1) Ls (.int n.toInt32 :: rest))) : Go p e below s CC SS QQ T (mkF m pc Ls (.ref a :: rest)) := by
  obtain ⟨cl, A, hs, hf⟩ := F
  subst hs
  exact Go.st (X.arraylength hx (by rw [eT]; exact A.1) (State.isArrayOf_alike hZ.alike A.2.1) (g := mkF m pc Ls (.ref a :: rest)) rfl rfl hd) kk
theorem own_nb (x : Int32) : nar .byte x.toInt8.toInt32 = x.toInt8.toInt32 := by simp [nar]
theorem own_nz {b : Int32} (h : b = 0 ∨ b = 1) : narrow .boolean (.int b) = .int b := by rcases h with rfl | rfl <;> rfl
theorem own_fz {b : Int32} (h : b = 0 ∨ b = 1) : fits .boolean (.int b) = true := by rcases h with rfl | rfl <;> rfl
end OwnKit
theorem tw {a0 : Array Value} {Z : State} (hw : ∀ d ∈ tables_1, d.before a0 Z = true) (k : Nat) {d : Jvm.Cond} (h : tables_1[k]? = some d) : d.before a0 Z = true := hw _ (List.mem_of_getElem? h)
theorem own_one (i : Nat) : Int32.ofNat i + (1 : Int32) = Int32.ofNat (i + 1) := (Int32.ofNat_add i 1).symm
theorem own_n32 {n : Nat} (hn : n ≤ 8) : (Int32.ofNat n).toNatClampNeg = n := by
  rw [Int32.toNatClampNeg, Int32.toInt_ofNat_of_lt (by omega)]; rfl
theorem own_nn {n : Nat} (hn : n ≤ 8) : ¬ Int32.ofNat n < 0 := by
  rw [Int32.lt_iff_toInt_lt, Int32.toInt_ofNat_of_lt (by omega), show (0 : Int32).toInt = 0 from rfl]
  omega
theorem own_lt {i n : Nat} (hi : i ≤ 8) (hn : n ≤ 8) : (Int32.ofNat i < Int32.ofNat n) ↔ i < n := by
  rw [Int32.lt_iff_toInt_lt, Int32.toInt_ofNat_of_lt (by omega), Int32.toInt_ofNat_of_lt (by omega)]
  omega
theorem own_eq {i n : Nat} (hi : i ≤ 8) (hn : n ≤ 8) : (Int32.ofNat i = Int32.ofNat n) ↔ i = n := by
  rw [← Int32.toInt_inj, Int32.toInt_ofNat_of_lt (by omega), Int32.toInt_ofNat_of_lt (by omega)]
  omega
theorem own_sub1 {j : Nat} (h1 : 1 ≤ j) (h8 : j ≤ 8) : ¬ (Int32.ofNat j - (1 : Int32)) < 0 ∧ (Int32.ofNat j - (1 : Int32)).toNatClampNeg = j - 1 := by
  obtain ⟨k, rfl⟩ : ∃ k, j = k + 1 := ⟨j - 1, by omega⟩
  rw [← own_one, Int32.add_sub_cancel]
  exact ⟨own_nn (by omega), by rw [own_n32 (by omega)]; omega⟩
theorem own_rem (y : Int32) {k : Nat} (h1 : 1 ≤ k) (h5 : k ≤ 5) : ∃ r, r < k ∧ (y &&& (7 : Int32)) % (Int32.ofNat k) = Int32.ofNat r := by
  have h := c_mask y 7 3 (by decide) (by decide)
  have hk : (Int32.ofNat k).toInt = k := Int32.toInt_ofNat_of_lt (by omega)
  have h2 : ((y &&& (7 : Int32)) % (Int32.ofNat k)).toInt = (y &&& (7 : Int32)).toInt.tmod k := by rw [Int32.toInt_mod, hk]
  rw [h, Int.tmod_eq_emod_of_nonneg (by omega)] at h2
  have e1 := Int.emod_nonneg (y.toInt % ((2 ^ 3 : Nat) : Int)) (show (k : Int) ≠ 0 by omega)
  have e2 := Int.emod_lt_of_pos (y.toInt % ((2 ^ 3 : Nat) : Int)) (show (0 : Int) < k by omega)
  refine ⟨((y.toInt % ((2 ^ 3 : Nat) : Int)) % k).toNat, by omega, Int32.toInt_inj.mp ?_⟩
  rw [h2, Int32.toInt_ofNat_of_lt (by omega)]
  omega
theorem own_from (y : Int32) : ∃ i, i ≤ 4 ∧ (y &&& (7 : Int32)) % (5 : Int32) = Int32.ofNat i := by
  obtain ⟨r, h, e⟩ := own_rem y (k := 5) (by decide) (by decide)
  exact ⟨r, by omega, e⟩
theorem own_five {i : Nat} (h : i ≤ 4) : (5 : Int32) - Int32.ofNat i = Int32.ofNat (5 - i) := by
  have : i = 0 ∨ i = 1 ∨ i = 2 ∨ i = 3 ∨ i = 4 := by omega
  rcases this with rfl | rfl | rfl | rfl | rfl <;> decide
theorem own_fnz {i : Nat} (h : i ≤ 4) : (5 : Int32) - Int32.ofNat i ≠ 0 := by
  have : i = 0 ∨ i = 1 ∨ i = 2 ∨ i = 3 ∨ i = 4 := by omega
  rcases this with rfl | rfl | rfl | rfl | rfl <;> decide
theorem own_to (y : Int32) {i : Nat} (h : i ≤ 4) : ∃ t, i ≤ t ∧ t ≤ 4 ∧ (Int32.ofNat i) + ((y &&& (7 : Int32)) % ((5 : Int32) - (Int32.ofNat i))) = Int32.ofNat t := by
  obtain ⟨r, hr, e⟩ := own_rem y (k := 5 - i) (by omega) (by omega)
  exact ⟨i + r, by omega, by omega, by rw [own_five h, e, ← Int32.ofNat_add]⟩
theorem d0_0 : decode method_3_code 0 = .ok (.iload_n 0, 1) := by decide +kernel
theorem d0_1 : decode method_3_code 1 = .ok (.iconst 3, 1) := by decide +kernel
theorem d0_2 : decode method_3_code 2 = .ok (.iand, 1) := by decide +kernel
theorem d0_3 : decode method_3_code 3 = .ok (.istore_n 1, 1) := by decide +kernel
theorem d0_4 : decode method_3_code 4 = .ok (.iload_n 1, 1) := by decide +kernel
theorem d0_5 : decode method_3_code 5 = .ok (.ifCond .ne 6, 3) := by decide +kernel
theorem d0_8 : decode method_3_code 8 = .ok (.bipush 13, 2) := by decide +kernel
theorem d0_10 : decode method_3_code 10 = .ok (.ireturn, 1) := by decide +kernel
theorem d0_11 : decode method_3_code 11 = .ok (.iload_n 1, 1) := by decide +kernel
theorem d0_12 : decode method_3_code 12 = .ok (.iconst 1, 1) := by decide +kernel
theorem d0_13 : decode method_3_code 13 = .ok (.if_icmp .ne 6, 3) := by decide +kernel
theorem d0_16 : decode method_3_code 16 = .ok (.bipush 10, 2) := by decide +kernel
theorem d0_18 : decode method_3_code 18 = .ok (.ireturn, 1) := by decide +kernel
theorem d0_19 : decode method_3_code 19 = .ok (.iload_n 0, 1) := by decide +kernel
theorem d0_20 : decode method_3_code 20 = .ok (.iconst 2, 1) := by decide +kernel
theorem d0_21 : decode method_3_code 21 = .ok (.iushr, 1) := by decide +kernel
theorem d0_22 : decode method_3_code 22 = .ok (.i2b, 1) := by decide +kernel
theorem d0_23 : decode method_3_code 23 = .ok (.ireturn, 1) := by decide +kernel
theorem own_pn0 : plainFor (⟨"com/example/renkei/renkei/reader/LineCountTakePinLaw", "unit", "(I)B"⟩ : MethodName) = true := plainFor_of_name (by first | (simp [plainName, overriddenIn]; done) | decide +kernel)
theorem own_ef0 (p0 : Int32) (m : MethodId) : entryFrame m #[(.int p0)] 2 = mkF m 0 #[.val (.int p0), .unset] [] := by first | (simp [entryFrame, mkF, argsToLocals, Value.category]; done) | rfl
def own_unit (p0 : Int32) : Int32 := if (p0 &&& (3 : Int32)) = (0 : Int32) then (13 : Int32) else (if (p0 &&& (3 : Int32)) = (1 : Int32) then (10 : Int32) else ((XT.ushr p0 (2 : Int32)).toInt8.toInt32))
theorem own_pd0 : parseMethodDescriptor "(I)B" = some ⟨[.int], some .byte⟩ := by decide +kernel
set_option maxRecDepth 65536 in
set_option maxHeartbeats 40000000 in
theorem own_rm0 (l : Launch) (Z : State) (a0 : Array Value) (hw : ∀ d ∈ tables_1, d.before a0 Z = true) (p0 : Int32) (h0 : Heap) (n0 : Nat) (Z0 : n0 ≤ h0.size)  :
    Met l Z (⟨"com/example/renkei/renkei/reader/LineCountTakePinLaw", "unit", "(I)B"⟩ : MethodName) method_3_code 2 (some .byte) [] ({ frames := 0, cells := 0, slots := 0, locals := 0 } : Room) #[(.int p0)] h0 (fun v h L => v = some (.int (own_unit p0)) ∧ Fr n0 L ∧ h = h0) := by
  refine met_of (Ls := #[.val (.int p0), .unset]) own_pn0 (own_ef0 p0) ?_
  intro p e s m below meth c s₁ hx hby hml hown hnm hret hlk hZ X0 e0
  have N0 := Fr.nil n0
  have hq : own_unit p0 = (if (p0 &&& (3 : Int32)) = (0 : Int32) then (13 : Int32) else (if (p0 &&& (3 : Int32)) = (1 : Int32) then (10 : Int32) else ((XT.ushr p0 (2 : Int32)).toInt8.toInt32))) := rfl
  refine gIloadN X0 hx (hb hby d0_0) rfl ?_
  refine gIconst X0 hx (3 : Int32) (hb hby d0_1) rfl ?_
  refine gIand X0 hx (hb hby d0_2) ?_
  refine gIstoreN X0 hx #[.val (.int p0), .val (.int (p0 &&& (3 : Int32)))] (hb hby d0_3) rfl ?_
  refine gIloadN X0 hx (hb hby d0_4) rfl ?_
  refine gIf X0 hx 11 (hb hby d0_5) (by decide) (by decide) (fun hT => ?_) (fun hT => ?_)
  · have hc1 := o_neT hT
    have q2 := hq.trans (if_neg hc1)
    show Go _ _ _ _ _ _ _ s₁ (mkF m 11 #[.val (.int p0), .val (.int (p0 &&& (3 : Int32)))] [])
    refine gIloadN X0 hx (hb hby d0_11) rfl ?_
    refine gIconst X0 hx (1 : Int32) (hb hby d0_12) rfl ?_
    refine gIcmp X0 hx 19 (hb hby d0_13) (by decide) (by decide) (fun hT => ?_) (fun hT => ?_)
    · have hc3 := o_neT hT
      have q4 := q2.trans (if_neg hc3)
      show Go _ _ _ _ _ _ _ s₁ (mkF m 19 #[.val (.int p0), .val (.int (p0 &&& (3 : Int32)))] [])
      refine gIloadN X0 hx (hb hby d0_19) rfl ?_
      refine gIconst X0 hx (2 : Int32) (hb hby d0_20) rfl ?_
      refine gIushr X0 hx (hb hby d0_21) ?_
      refine gI2b X0 hx (hb hby d0_22) ?_
      exact gRetZ X0 hx hlk hret (by simp) (hb hby d0_23) (z' := (XT.ushr p0 (2 : Int32)).toInt8.toInt32) (own_nb _) (by decide) (by decide) ⟨congrArg (fun z => some (Value.int z)) q4.symm, N0, e0⟩
    · have hc3 := o_neF hT
      have q5 := q2.trans (if_pos hc3)
      show Go _ _ _ _ _ _ _ s₁ (mkF m 16 #[.val (.int p0), .val (.int (p0 &&& (3 : Int32)))] [])
      refine gBipush X0 hx (10 : Int32) (hb hby d0_16) rfl ?_
      exact gRetZ X0 hx hlk hret (by simp) (hb hby d0_18) (z' := (10 : Int32)) rfl (by decide) (by decide) ⟨congrArg (fun z => some (Value.int z)) q5.symm, N0, e0⟩
  · have hc1 := o_neF hT
    have q6 := hq.trans (if_pos hc1)
    show Go _ _ _ _ _ _ _ s₁ (mkF m 8 #[.val (.int p0), .val (.int (p0 &&& (3 : Int32)))] [])
    refine gBipush X0 hx (13 : Int32) (hb hby d0_8) rfl ?_
    exact gRetZ X0 hx hlk hret (by simp) (hb hby d0_10) (z' := (13 : Int32)) rfl (by decide) (by decide) ⟨congrArg (fun z => some (Value.int z)) q6.symm, N0, e0⟩
def own_tl (u ln b : Int32) : Int32 := if u = (13 : Int32) then ln + (1 : Int32) else if u = (10 : Int32) then (if b = (0 : Int32) then ln + (1 : Int32) else ln) else ln
def own_tb (u : Int32) : Int32 := if u = (13 : Int32) then (1 : Int32) else (0 : Int32)
theorem d1_0 : decode prog_83_method_1_code 0 = .ok (.aload_n 0, 1) := by decide +kernel
theorem d1_1 : decode prog_83_method_1_code 1 = .ok (.invokespecial 1, 3) := by decide +kernel
theorem d1_4 : decode prog_83_method_1_code 4 = .ok (.aload_n 0, 1) := by decide +kernel
theorem d1_5 : decode prog_83_method_1_code 5 = .ok (.iconst 1, 1) := by decide +kernel
theorem d1_6 : decode prog_83_method_1_code 6 = .ok (.putfield 7, 3) := by decide +kernel
theorem d1_9 : decode prog_83_method_1_code 9 = .ok (.return_, 1) := by decide +kernel
theorem own_pn1 : plainFor (⟨"com/example/renkei/renkei/reader/LineCount", "<init>", "()V"⟩ : MethodName) = true := plainFor_of_name (by first | (simp [plainName, overriddenIn]; done) | decide +kernel)
theorem own_ef1 (r0 : Addr) (m : MethodId) : entryFrame m #[(.ref r0)] 1 = mkF m 0 #[.val (.ref r0)] [] := by first | (simp [entryFrame, mkF, argsToLocals, Value.category]; done) | rfl
theorem own_pd1 : parseMethodDescriptor "()V" = some ⟨[], none⟩ := by decide +kernel
set_option maxRecDepth 65536 in
set_option maxHeartbeats 40000000 in
theorem own_rm1 (l : Launch) (Z : State) (a0 : Array Value) (hw : ∀ d ∈ tables_1, d.before a0 Z = true) (r0 : Addr) (h0 : Heap) (n0 : Nat) (Z0 : n0 ≤ h0.size) (ln bb : Int32) (E0 : Exa Z h0 r0 "com/example/renkei/renkei/reader/LineCount") (F0 : Fld Z h0 r0 "com/example/renkei/renkei/reader/LineCount" "line" "I" (.int ln)) (G0 : Fld Z h0 r0 "com/example/renkei/renkei/reader/LineCount" "afterCarriageReturn" "Z" (.int bb)) (g0 : n0 ≤ r0) :
    Met l Z (⟨"com/example/renkei/renkei/reader/LineCount", "<init>", "()V"⟩ : MethodName) prog_83_method_1_code 1 none [] ({ frames := 1, cells := 0, slots := 0, locals := 12 } : Room) #[(.ref r0)] h0 (fun v h L => v = none ∧ Fr n0 L ∧ Keep h0 h [r0] ∧ Exa Z h r0 "com/example/renkei/renkei/reader/LineCount" ∧ Fld Z h r0 "com/example/renkei/renkei/reader/LineCount" "line" "I" (.int (1 : Int32)) ∧ Fld Z h r0 "com/example/renkei/renkei/reader/LineCount" "afterCarriageReturn" "Z" (.int bb)) := by
  refine met_of (Ls := #[.val (.ref r0)]) own_pn1 (own_ef1 r0) ?_
  intro p e s m below meth c s₁ hx hby hml hown hnm hret hlk hZ X0 e0
  have N0 := Fr.nil n0
  refine gAloadN X0 hx (hb hby d1_0) rfl rfl ?_
  refine gObjInit X0 hx hZ hown (tw hw 11 rfl) (tw hw 12 rfl) (tw hw 13 rfl) e0 (by rw [hml]; rfl) (hb hby d1_1) (by decide) (W := 0) (Nat.le_of_eq rfl) (by decide) ?_
  intro T1 X1 e1
  show Go _ _ _ _ _ _ _ T1 (mkF m 4 #[.val (.ref r0)] [])
  refine gAloadN X1 hx (hb hby d1_4) rfl rfl ?_
  refine gIconst X1 hx (1 : Int32) (hb hby d1_5) rfl ?_
  refine gPutF X1 hx hZ hown (tw hw 14 rfl) e1 F0 E0 (Or.inl (tw hw 15 rfl)) (tw hw 6 rfl) (ty := .int) (by decide) rfl rfl (hb hby d1_6) ?_
  intro T2 h2 X2 e2 W2
  have F0__2 := F0.same W2
  have E0__2 := E0.wr W2
  have G0__2 := G0.other W2 (Or.inr (slot_ne (Or.inl (tw hw 22 rfl)) (Or.inl (tw hw 15 rfl)) (by decide) (t := .boolean) (t' := .int) (by decide) (by decide)))
  have Z_2 := Nat.le_trans Z0 (Nat.le_of_eq W2.size.symm)
  have K_2 : Keep h0 h2 [r0] := (Keep.refl h0 [r0]).wr W2 (Or.inl (List.mem_of_getElem? (i := 0) rfl))
  have N_2 := Fr.snoc X2 N0 g0
  show Go _ _ _ _ _ _ _ T2 (mkF m 9 #[.val (.ref r0)] [])
  subst e2
  exact gRetV X2 hx hlk hret (hb hby d1_9) (by decide) (by decide) ⟨rfl, N_2, K_2, E0__2, F0__2, G0__2⟩
theorem d2_0 : decode prog_83_method_5_code 0 = .ok (.aload_n 0, 1) := by decide +kernel
theorem d2_1 : decode prog_83_method_5_code 1 = .ok (.iload_n 1, 1) := by decide +kernel
theorem d2_2 : decode prog_83_method_5_code 2 = .ok (.putfield 7, 3) := by decide +kernel
theorem d2_5 : decode prog_83_method_5_code 5 = .ok (.aload_n 0, 1) := by decide +kernel
theorem d2_6 : decode prog_83_method_5_code 6 = .ok (.iconst 0, 1) := by decide +kernel
theorem d2_7 : decode prog_83_method_5_code 7 = .ok (.putfield 13, 3) := by decide +kernel
theorem d2_10 : decode prog_83_method_5_code 10 = .ok (.return_, 1) := by decide +kernel
theorem own_pn2 : plainFor (⟨"com/example/renkei/renkei/reader/LineCount", "set", "(I)V"⟩ : MethodName) = true := plainFor_of_name (by first | (simp [plainName, overriddenIn]; done) | decide +kernel)
theorem own_ef2 (r0 : Addr) (p1 : Int32) (m : MethodId) : entryFrame m #[(.ref r0), (.int p1)] 2 = mkF m 0 #[.val (.ref r0), .val (.int p1)] [] := by first | (simp [entryFrame, mkF, argsToLocals, Value.category]; done) | rfl
theorem own_pd2 : parseMethodDescriptor "(I)V" = some ⟨[.int], none⟩ := by decide +kernel
set_option maxRecDepth 65536 in
set_option maxHeartbeats 40000000 in
theorem own_rm2 (l : Launch) (Z : State) (a0 : Array Value) (hw : ∀ d ∈ tables_1, d.before a0 Z = true) (r0 : Addr) (p1 : Int32) (h0 : Heap) (n0 : Nat) (Z0 : n0 ≤ h0.size) (ln bb : Int32) (E0 : Exa Z h0 r0 "com/example/renkei/renkei/reader/LineCount") (F0 : Fld Z h0 r0 "com/example/renkei/renkei/reader/LineCount" "line" "I" (.int ln)) (G0 : Fld Z h0 r0 "com/example/renkei/renkei/reader/LineCount" "afterCarriageReturn" "Z" (.int bb)) (g0 : n0 ≤ r0) :
    Met l Z (⟨"com/example/renkei/renkei/reader/LineCount", "set", "(I)V"⟩ : MethodName) prog_83_method_5_code 2 none [] ({ frames := 0, cells := 0, slots := 0, locals := 0 } : Room) #[(.ref r0), (.int p1)] h0 (fun v h L => v = none ∧ Fr n0 L ∧ Keep h0 h [r0] ∧ Exa Z h r0 "com/example/renkei/renkei/reader/LineCount" ∧ Fld Z h r0 "com/example/renkei/renkei/reader/LineCount" "line" "I" (.int p1) ∧ Fld Z h r0 "com/example/renkei/renkei/reader/LineCount" "afterCarriageReturn" "Z" (.int (0 : Int32))) := by
  refine met_of (Ls := #[.val (.ref r0), .val (.int p1)]) own_pn2 (own_ef2 r0 p1) ?_
  intro p e s m below meth c s₁ hx hby hml hown hnm hret hlk hZ X0 e0
  have N0 := Fr.nil n0
  refine gAloadN X0 hx (hb hby d2_0) rfl rfl ?_
  refine gIloadN X0 hx (hb hby d2_1) rfl ?_
  refine gPutF X0 hx hZ hown (tw hw 14 rfl) e0 F0 E0 (Or.inl (tw hw 15 rfl)) (tw hw 6 rfl) (ty := .int) (by decide) rfl rfl (hb hby d2_2) ?_
  intro T1 h1 X1 e1 W1
  have F0__1 := F0.same W1
  have E0__1 := E0.wr W1
  have G0__1 := G0.other W1 (Or.inr (slot_ne (Or.inl (tw hw 22 rfl)) (Or.inl (tw hw 15 rfl)) (by decide) (t := .boolean) (t' := .int) (by decide) (by decide)))
  have Z_1 := Nat.le_trans Z0 (Nat.le_of_eq W1.size.symm)
  have K_1 : Keep h0 h1 [r0] := (Keep.refl h0 [r0]).wr W1 (Or.inl (List.mem_of_getElem? (i := 0) rfl))
  have N_1 := Fr.snoc X1 N0 g0
  show Go _ _ _ _ _ _ _ T1 (mkF m 5 #[.val (.ref r0), .val (.int p1)] [])
  refine gAloadN X1 hx (hb hby d2_5) rfl rfl ?_
  refine gIconst X1 hx (0 : Int32) (hb hby d2_6) rfl ?_
  refine gPutFN X1 hx hZ hown (tw hw 21 rfl) e1 (.int (0 : Int32)) G0__1 E0__1 (Or.inl (tw hw 22 rfl)) (tw hw 6 rfl) (ty := .boolean) (by decide) rfl rfl (hb hby d2_7) ?_
  intro T2 h2 X2 e2 W2
  have G0__2 := G0__1.same W2
  have E0__2 := E0__1.wr W2
  have F0__2 := F0__1.other W2 (Or.inr (slot_ne (Or.inl (tw hw 15 rfl)) (Or.inl (tw hw 22 rfl)) (by decide) (t := .int) (t' := .boolean) (by decide) (by decide)))
  have Z_2 := Nat.le_trans Z_1 (Nat.le_of_eq W2.size.symm)
  have K_2 : Keep h0 h2 [r0] := K_1.wr W2 (Or.inl (List.mem_of_getElem? (i := 0) rfl))
  have N_2 := Fr.snoc X2 N_1 g0
  show Go _ _ _ _ _ _ _ T2 (mkF m 10 #[.val (.ref r0), .val (.int p1)] [])
  subst e2
  exact gRetV X2 hx hlk hret (hb hby d2_10) (by decide) (by decide) ⟨rfl, N_2, K_2, E0__2, F0__2, G0__2⟩
theorem d3_0 : decode prog_83_method_2_code 0 = .ok (.iload_n 1, 1) := by decide +kernel
theorem d3_1 : decode prog_83_method_2_code 1 = .ok (.bipush 13, 2) := by decide +kernel
theorem d3_3 : decode prog_83_method_2_code 3 = .ok (.if_icmp .eq 16, 3) := by decide +kernel
theorem d3_6 : decode prog_83_method_2_code 6 = .ok (.iload_n 1, 1) := by decide +kernel
theorem d3_7 : decode prog_83_method_2_code 7 = .ok (.bipush 10, 2) := by decide +kernel
theorem d3_9 : decode prog_83_method_2_code 9 = .ok (.if_icmp .ne 20, 3) := by decide +kernel
theorem d3_12 : decode prog_83_method_2_code 12 = .ok (.aload_n 0, 1) := by decide +kernel
theorem d3_13 : decode prog_83_method_2_code 13 = .ok (.getfield 13, 3) := by decide +kernel
theorem d3_16 : decode prog_83_method_2_code 16 = .ok (.ifCond .ne 13, 3) := by decide +kernel
theorem d3_19 : decode prog_83_method_2_code 19 = .ok (.aload_n 0, 1) := by decide +kernel
theorem d3_20 : decode prog_83_method_2_code 20 = .ok (.dup, 1) := by decide +kernel
theorem d3_21 : decode prog_83_method_2_code 21 = .ok (.getfield 7, 3) := by decide +kernel
theorem d3_24 : decode prog_83_method_2_code 24 = .ok (.iconst 1, 1) := by decide +kernel
theorem d3_25 : decode prog_83_method_2_code 25 = .ok (.iadd, 1) := by decide +kernel
theorem d3_26 : decode prog_83_method_2_code 26 = .ok (.putfield 7, 3) := by decide +kernel
theorem d3_29 : decode prog_83_method_2_code 29 = .ok (.aload_n 0, 1) := by decide +kernel
theorem d3_30 : decode prog_83_method_2_code 30 = .ok (.iload_n 1, 1) := by decide +kernel
theorem d3_31 : decode prog_83_method_2_code 31 = .ok (.bipush 13, 2) := by decide +kernel
theorem d3_33 : decode prog_83_method_2_code 33 = .ok (.if_icmp .ne 7, 3) := by decide +kernel
theorem d3_36 : decode prog_83_method_2_code 36 = .ok (.iconst 1, 1) := by decide +kernel
theorem d3_37 : decode prog_83_method_2_code 37 = .ok (.goto 4, 3) := by decide +kernel
theorem d3_40 : decode prog_83_method_2_code 40 = .ok (.iconst 0, 1) := by decide +kernel
theorem d3_41 : decode prog_83_method_2_code 41 = .ok (.putfield 13, 3) := by decide +kernel
theorem d3_44 : decode prog_83_method_2_code 44 = .ok (.return_, 1) := by decide +kernel
theorem own_pn3 : plainFor (⟨"com/example/renkei/renkei/reader/LineCount", "take", "(I)V"⟩ : MethodName) = true := plainFor_of_name (by first | (simp [plainName, overriddenIn]; done) | decide +kernel)
theorem own_ef3 (r0 : Addr) (p1 : Int32) (m : MethodId) : entryFrame m #[(.ref r0), (.int p1)] 2 = mkF m 0 #[.val (.ref r0), .val (.int p1)] [] := by first | (simp [entryFrame, mkF, argsToLocals, Value.category]; done) | rfl
set_option maxRecDepth 65536 in
set_option maxHeartbeats 40000000 in
theorem own_rm3 (l : Launch) (Z : State) (a0 : Array Value) (hw : ∀ d ∈ tables_1, d.before a0 Z = true) (r0 : Addr) (p1 : Int32) (h0 : Heap) (n0 : Nat) (Z0 : n0 ≤ h0.size) (ln bb : Int32) (E0 : Exa Z h0 r0 "com/example/renkei/renkei/reader/LineCount") (F0 : Fld Z h0 r0 "com/example/renkei/renkei/reader/LineCount" "line" "I" (.int ln)) (G0 : Fld Z h0 r0 "com/example/renkei/renkei/reader/LineCount" "afterCarriageReturn" "Z" (.int bb)) (g0 : n0 ≤ r0) :
    Met l Z (⟨"com/example/renkei/renkei/reader/LineCount", "take", "(I)V"⟩ : MethodName) prog_83_method_2_code 2 none [] ({ frames := 0, cells := 0, slots := 0, locals := 0 } : Room) #[(.ref r0), (.int p1)] h0 (fun v h L => v = none ∧ Fr n0 L ∧ Keep h0 h [r0] ∧ Exa Z h r0 "com/example/renkei/renkei/reader/LineCount" ∧ Fld Z h r0 "com/example/renkei/renkei/reader/LineCount" "line" "I" (.int (own_tl p1 ln bb)) ∧ Fld Z h r0 "com/example/renkei/renkei/reader/LineCount" "afterCarriageReturn" "Z" (.int (own_tb p1))) := by
  refine met_of (Ls := #[.val (.ref r0), .val (.int p1)]) own_pn3 (own_ef3 r0 p1) ?_
  intro p e s m below meth c s₁ hx hby hml hown hnm hret hlk hZ X0 e0
  have N0 := Fr.nil n0
  refine gIloadN X0 hx (hb hby d3_0) rfl ?_
  refine gBipush X0 hx (13 : Int32) (hb hby d3_1) rfl ?_
  refine gIcmp X0 hx 19 (hb hby d3_3) (by decide) (by decide) (fun hT => ?_) (fun hT => ?_)
  · have hc1 := o_eqT hT
    show Go _ _ _ _ _ _ _ s₁ (mkF m 19 #[.val (.ref r0), .val (.int p1)] [])
    refine gAloadN X0 hx (hb hby d3_19) rfl rfl ?_
    refine gDup X0 hx (hb hby d3_20) rfl ?_
    refine gGetF X0 hx hZ hown (tw hw 14 rfl) e0 F0 (hb hby d3_21) ?_
    intro T2 X2 e2
    show Go _ _ _ _ _ _ _ T2 (mkF m 24 #[.val (.ref r0), .val (.int p1)] [(.int ln), (.ref r0)])
    refine gIconst X2 hx (1 : Int32) (hb hby d3_24) rfl ?_
    refine gIadd X2 hx (hb hby d3_25) ?_
    refine gPutF X2 hx hZ hown (tw hw 14 rfl) e2 F0 E0 (Or.inl (tw hw 15 rfl)) (tw hw 6 rfl) (ty := .int) (by decide) rfl rfl (hb hby d3_26) ?_
    intro T3 h3 X3 e3 W3
    have F0__3 := F0.same W3
    have E0__3 := E0.wr W3
    have G0__3 := G0.other W3 (Or.inr (slot_ne (Or.inl (tw hw 22 rfl)) (Or.inl (tw hw 15 rfl)) (by decide) (t := .boolean) (t' := .int) (by decide) (by decide)))
    have Z_3 := Nat.le_trans Z0 (Nat.le_of_eq W3.size.symm)
    have K_3 : Keep h0 h3 [r0] := (Keep.refl h0 [r0]).wr W3 (Or.inl (List.mem_of_getElem? (i := 0) rfl))
    have N_3 := Fr.snoc X3 N0 g0
    show Go _ _ _ _ _ _ _ T3 (mkF m 29 #[.val (.ref r0), .val (.int p1)] [])
    refine gAloadN X3 hx (hb hby d3_29) rfl rfl ?_
    refine gIloadN X3 hx (hb hby d3_30) rfl ?_
    refine gBipush X3 hx (13 : Int32) (hb hby d3_31) rfl ?_
    refine gIcmp X3 hx 40 (hb hby d3_33) (by decide) (by decide) (fun q => absurd hc1 (o_neT q)) (fun _ => ?_)
    show Go _ _ _ _ _ _ _ T3 (mkF m 36 #[.val (.ref r0), .val (.int p1)] [(.ref r0)])
    refine gIconst X3 hx (1 : Int32) (hb hby d3_36) rfl ?_
    refine gGoto X3 hx 41 (hb hby d3_37) (by decide) (by decide) ?_
    refine gPutFN X3 hx hZ hown (tw hw 21 rfl) e3 (.int (1 : Int32)) G0__3 E0__3 (Or.inl (tw hw 22 rfl)) (tw hw 6 rfl) (ty := .boolean) (by decide) rfl rfl (hb hby d3_41) ?_
    intro T4 h4 X4 e4 W4
    have G0__4 := G0__3.same W4
    have E0__4 := E0__3.wr W4
    have F0__4 := F0__3.other W4 (Or.inr (slot_ne (Or.inl (tw hw 15 rfl)) (Or.inl (tw hw 22 rfl)) (by decide) (t := .int) (t' := .boolean) (by decide) (by decide)))
    have Z_4 := Nat.le_trans Z_3 (Nat.le_of_eq W4.size.symm)
    have K_4 : Keep h0 h4 [r0] := K_3.wr W4 (Or.inl (List.mem_of_getElem? (i := 0) rfl))
    have N_4 := Fr.snoc X4 N_3 g0
    show Go _ _ _ _ _ _ _ T4 (mkF m 44 #[.val (.ref r0), .val (.int p1)] [])
    subst e4
    exact gRetV X4 hx hlk hret (hb hby d3_44) (by decide) (by decide) ⟨rfl, N_4, K_4, E0__4, (by rw [show own_tl p1 ln bb = (ln + (1 : Int32)) from (if_pos hc1)]; exact F0__4), (by rw [show own_tb p1 = (1 : Int32) from (if_pos hc1)]; exact G0__4)⟩
  · have hc1 := o_eqF hT
    show Go _ _ _ _ _ _ _ s₁ (mkF m 6 #[.val (.ref r0), .val (.int p1)] [])
    refine gIloadN X0 hx (hb hby d3_6) rfl ?_
    refine gBipush X0 hx (10 : Int32) (hb hby d3_7) rfl ?_
    refine gIcmp X0 hx 29 (hb hby d3_9) (by decide) (by decide) (fun hT => ?_) (fun hT => ?_)
    · have hc5 := o_neT hT
      show Go _ _ _ _ _ _ _ s₁ (mkF m 29 #[.val (.ref r0), .val (.int p1)] [])
      refine gAloadN X0 hx (hb hby d3_29) rfl rfl ?_
      refine gIloadN X0 hx (hb hby d3_30) rfl ?_
      refine gBipush X0 hx (13 : Int32) (hb hby d3_31) rfl ?_
      refine gIcmp X0 hx 40 (hb hby d3_33) (by decide) (by decide) (fun _ => ?_) (fun q => absurd (o_neF q) hc1)
      show Go _ _ _ _ _ _ _ s₁ (mkF m 40 #[.val (.ref r0), .val (.int p1)] [(.ref r0)])
      refine gIconst X0 hx (0 : Int32) (hb hby d3_40) rfl ?_
      refine gPutFN X0 hx hZ hown (tw hw 21 rfl) e0 (.int (0 : Int32)) G0 E0 (Or.inl (tw hw 22 rfl)) (tw hw 6 rfl) (ty := .boolean) (by decide) rfl rfl (hb hby d3_41) ?_
      intro T6 h6 X6 e6 W6
      have G0__6 := G0.same W6
      have E0__6 := E0.wr W6
      have F0__6 := F0.other W6 (Or.inr (slot_ne (Or.inl (tw hw 15 rfl)) (Or.inl (tw hw 22 rfl)) (by decide) (t := .int) (t' := .boolean) (by decide) (by decide)))
      have Z_6 := Nat.le_trans Z0 (Nat.le_of_eq W6.size.symm)
      have K_6 : Keep h0 h6 [r0] := (Keep.refl h0 [r0]).wr W6 (Or.inl (List.mem_of_getElem? (i := 0) rfl))
      have N_6 := Fr.snoc X6 N0 g0
      show Go _ _ _ _ _ _ _ T6 (mkF m 44 #[.val (.ref r0), .val (.int p1)] [])
      subst e6
      exact gRetV X6 hx hlk hret (hb hby d3_44) (by decide) (by decide) ⟨rfl, N_6, K_6, E0__6, (by rw [show own_tl p1 ln bb = ln from ((if_neg hc1).trans (if_neg hc5))]; exact F0__6), (by rw [show own_tb p1 = (0 : Int32) from (if_neg hc1)]; exact G0__6)⟩
    · have hc5 := o_neF hT
      show Go _ _ _ _ _ _ _ s₁ (mkF m 12 #[.val (.ref r0), .val (.int p1)] [])
      refine gAloadN X0 hx (hb hby d3_12) rfl rfl ?_
      refine gGetF X0 hx hZ hown (tw hw 21 rfl) e0 G0 (hb hby d3_13) ?_
      intro T7 X7 e7
      show Go _ _ _ _ _ _ _ T7 (mkF m 16 #[.val (.ref r0), .val (.int p1)] [(.int bb)])
      refine gIf X7 hx 29 (hb hby d3_16) (by decide) (by decide) (fun hT => ?_) (fun hT => ?_)
      · have hc8 := o_neT hT
        show Go _ _ _ _ _ _ _ T7 (mkF m 29 #[.val (.ref r0), .val (.int p1)] [])
        refine gAloadN X7 hx (hb hby d3_29) rfl rfl ?_
        refine gIloadN X7 hx (hb hby d3_30) rfl ?_
        refine gBipush X7 hx (13 : Int32) (hb hby d3_31) rfl ?_
        refine gIcmp X7 hx 40 (hb hby d3_33) (by decide) (by decide) (fun _ => ?_) (fun q => absurd (o_neF q) hc1)
        show Go _ _ _ _ _ _ _ T7 (mkF m 40 #[.val (.ref r0), .val (.int p1)] [(.ref r0)])
        refine gIconst X7 hx (0 : Int32) (hb hby d3_40) rfl ?_
        refine gPutFN X7 hx hZ hown (tw hw 21 rfl) e7 (.int (0 : Int32)) G0 E0 (Or.inl (tw hw 22 rfl)) (tw hw 6 rfl) (ty := .boolean) (by decide) rfl rfl (hb hby d3_41) ?_
        intro T9 h9 X9 e9 W9
        have G0__9 := G0.same W9
        have E0__9 := E0.wr W9
        have F0__9 := F0.other W9 (Or.inr (slot_ne (Or.inl (tw hw 15 rfl)) (Or.inl (tw hw 22 rfl)) (by decide) (t := .int) (t' := .boolean) (by decide) (by decide)))
        have Z_9 := Nat.le_trans Z0 (Nat.le_of_eq W9.size.symm)
        have K_9 : Keep h0 h9 [r0] := (Keep.refl h0 [r0]).wr W9 (Or.inl (List.mem_of_getElem? (i := 0) rfl))
        have N_9 := Fr.snoc X9 N0 g0
        show Go _ _ _ _ _ _ _ T9 (mkF m 44 #[.val (.ref r0), .val (.int p1)] [])
        subst e9
        exact gRetV X9 hx hlk hret (hb hby d3_44) (by decide) (by decide) ⟨rfl, N_9, K_9, E0__9, (by rw [show own_tl p1 ln bb = ln from ((if_neg hc1).trans ((if_pos hc5).trans (if_neg hc8)))]; exact F0__9), (by rw [show own_tb p1 = (0 : Int32) from (if_neg hc1)]; exact G0__9)⟩
      · have hc8 := o_neF hT
        show Go _ _ _ _ _ _ _ T7 (mkF m 19 #[.val (.ref r0), .val (.int p1)] [])
        refine gAloadN X7 hx (hb hby d3_19) rfl rfl ?_
        refine gDup X7 hx (hb hby d3_20) rfl ?_
        refine gGetF X7 hx hZ hown (tw hw 14 rfl) e7 F0 (hb hby d3_21) ?_
        intro T10 X10 e10
        show Go _ _ _ _ _ _ _ T10 (mkF m 24 #[.val (.ref r0), .val (.int p1)] [(.int ln), (.ref r0)])
        refine gIconst X10 hx (1 : Int32) (hb hby d3_24) rfl ?_
        refine gIadd X10 hx (hb hby d3_25) ?_
        refine gPutF X10 hx hZ hown (tw hw 14 rfl) e10 F0 E0 (Or.inl (tw hw 15 rfl)) (tw hw 6 rfl) (ty := .int) (by decide) rfl rfl (hb hby d3_26) ?_
        intro T11 h11 X11 e11 W11
        have F0__11 := F0.same W11
        have E0__11 := E0.wr W11
        have G0__11 := G0.other W11 (Or.inr (slot_ne (Or.inl (tw hw 22 rfl)) (Or.inl (tw hw 15 rfl)) (by decide) (t := .boolean) (t' := .int) (by decide) (by decide)))
        have Z_11 := Nat.le_trans Z0 (Nat.le_of_eq W11.size.symm)
        have K_11 : Keep h0 h11 [r0] := (Keep.refl h0 [r0]).wr W11 (Or.inl (List.mem_of_getElem? (i := 0) rfl))
        have N_11 := Fr.snoc X11 N0 g0
        show Go _ _ _ _ _ _ _ T11 (mkF m 29 #[.val (.ref r0), .val (.int p1)] [])
        refine gAloadN X11 hx (hb hby d3_29) rfl rfl ?_
        refine gIloadN X11 hx (hb hby d3_30) rfl ?_
        refine gBipush X11 hx (13 : Int32) (hb hby d3_31) rfl ?_
        refine gIcmp X11 hx 40 (hb hby d3_33) (by decide) (by decide) (fun _ => ?_) (fun q => absurd (o_neF q) hc1)
        show Go _ _ _ _ _ _ _ T11 (mkF m 40 #[.val (.ref r0), .val (.int p1)] [(.ref r0)])
        refine gIconst X11 hx (0 : Int32) (hb hby d3_40) rfl ?_
        refine gPutFN X11 hx hZ hown (tw hw 21 rfl) e11 (.int (0 : Int32)) G0__11 E0__11 (Or.inl (tw hw 22 rfl)) (tw hw 6 rfl) (ty := .boolean) (by decide) rfl rfl (hb hby d3_41) ?_
        intro T12 h12 X12 e12 W12
        have G0__12 := G0__11.same W12
        have E0__12 := E0__11.wr W12
        have F0__12 := F0__11.other W12 (Or.inr (slot_ne (Or.inl (tw hw 15 rfl)) (Or.inl (tw hw 22 rfl)) (by decide) (t := .int) (t' := .boolean) (by decide) (by decide)))
        have Z_12 := Nat.le_trans Z_11 (Nat.le_of_eq W12.size.symm)
        have K_12 : Keep h0 h12 [r0] := K_11.wr W12 (Or.inl (List.mem_of_getElem? (i := 0) rfl))
        have N_12 := Fr.snoc X12 N_11 g0
        show Go _ _ _ _ _ _ _ T12 (mkF m 44 #[.val (.ref r0), .val (.int p1)] [])
        subst e12
        exact gRetV X12 hx hlk hret (hb hby d3_44) (by decide) (by decide) ⟨rfl, N_12, K_12, E0__12, (by rw [show own_tl p1 ln bb = (ln + (1 : Int32)) from ((if_neg hc1).trans ((if_pos hc5).trans (if_pos hc8)))]; exact F0__12), (by rw [show own_tb p1 = (0 : Int32) from (if_neg hc1)]; exact G0__12)⟩
theorem d4_0 : decode prog_83_method_4_code 0 = .ok (.aload_n 0, 1) := by decide +kernel
theorem d4_1 : decode prog_83_method_4_code 1 = .ok (.getfield 7, 3) := by decide +kernel
theorem d4_4 : decode prog_83_method_4_code 4 = .ok (.ireturn, 1) := by decide +kernel
theorem own_pn4 : plainFor (⟨"com/example/renkei/renkei/reader/LineCount", "line", "()I"⟩ : MethodName) = true := plainFor_of_name (by first | (simp [plainName, overriddenIn]; done) | decide +kernel)
theorem own_ef4 (r0 : Addr) (m : MethodId) : entryFrame m #[(.ref r0)] 1 = mkF m 0 #[.val (.ref r0)] [] := by first | (simp [entryFrame, mkF, argsToLocals, Value.category]; done) | rfl
theorem own_pd3 : parseMethodDescriptor "()I" = some ⟨[], some .int⟩ := by decide +kernel
set_option maxRecDepth 65536 in
set_option maxHeartbeats 40000000 in
theorem own_rm4 (l : Launch) (Z : State) (a0 : Array Value) (hw : ∀ d ∈ tables_1, d.before a0 Z = true) (r0 : Addr) (h0 : Heap) (n0 : Nat) (Z0 : n0 ≤ h0.size) (ln bb : Int32) (E0 : Exa Z h0 r0 "com/example/renkei/renkei/reader/LineCount") (F0 : Fld Z h0 r0 "com/example/renkei/renkei/reader/LineCount" "line" "I" (.int ln)) (G0 : Fld Z h0 r0 "com/example/renkei/renkei/reader/LineCount" "afterCarriageReturn" "Z" (.int bb)) (g0 : n0 ≤ r0) :
    Met l Z (⟨"com/example/renkei/renkei/reader/LineCount", "line", "()I"⟩ : MethodName) prog_83_method_4_code 1 (some .int) [] ({ frames := 0, cells := 0, slots := 0, locals := 0 } : Room) #[(.ref r0)] h0 (fun v h L => v = some (.int ln) ∧ Fr n0 L ∧ h = h0) := by
  refine met_of (Ls := #[.val (.ref r0)]) own_pn4 (own_ef4 r0) ?_
  intro p e s m below meth c s₁ hx hby hml hown hnm hret hlk hZ X0 e0
  have N0 := Fr.nil n0
  refine gAloadN X0 hx (hb hby d4_0) rfl rfl ?_
  refine gGetF X0 hx hZ hown (tw hw 14 rfl) e0 F0 (hb hby d4_1) ?_
  intro T1 X1 e1
  show Go _ _ _ _ _ _ _ T1 (mkF m 4 #[.val (.ref r0)] [(.int ln)])
  exact gRetI X1 hx hlk hret (hb hby d4_4) (by decide) (by decide) ⟨rfl, N0, e1⟩
theorem d5_0 : decode method_4_code 0 = .ok (.iload_n 1, 1) := by decide +kernel
theorem d5_1 : decode method_4_code 1 = .ok (.iload_n 2, 1) := by decide +kernel
theorem d5_2 : decode method_4_code 2 = .ok (.if_icmp .lt 8, 3) := by decide +kernel
theorem d5_5 : decode method_4_code 5 = .ok (.iload_n 1, 1) := by decide +kernel
theorem d5_6 : decode method_4_code 6 = .ok (.iload_n 3, 1) := by decide +kernel
theorem d5_7 : decode method_4_code 7 = .ok (.if_icmp .lt 5, 3) := by decide +kernel
theorem d5_10 : decode method_4_code 10 = .ok (.iconst 0, 1) := by decide +kernel
theorem d5_11 : decode method_4_code 11 = .ok (.ireturn, 1) := by decide +kernel
theorem d5_12 : decode method_4_code 12 = .ok (.iload_n 1, 1) := by decide +kernel
theorem d5_13 : decode method_4_code 13 = .ok (.iload_n 2, 1) := by decide +kernel
theorem d5_14 : decode method_4_code 14 = .ok (.if_icmp .ne 8, 3) := by decide +kernel
theorem d5_17 : decode method_4_code 17 = .ok (.iload 4, 2) := by decide +kernel
theorem d5_19 : decode method_4_code 19 = .ok (.goto 18, 3) := by decide +kernel
theorem d5_22 : decode method_4_code 22 = .ok (.aload_n 0, 1) := by decide +kernel
theorem d5_23 : decode method_4_code 23 = .ok (.iload_n 1, 1) := by decide +kernel
theorem d5_24 : decode method_4_code 24 = .ok (.iconst 1, 1) := by decide +kernel
theorem d5_25 : decode method_4_code 25 = .ok (.isub, 1) := by decide +kernel
theorem d5_26 : decode method_4_code 26 = .ok (.baload, 1) := by decide +kernel
theorem d5_27 : decode method_4_code 27 = .ok (.bipush 13, 2) := by decide +kernel
theorem d5_29 : decode method_4_code 29 = .ok (.if_icmp .ne 7, 3) := by decide +kernel
theorem d5_32 : decode method_4_code 32 = .ok (.iconst 1, 1) := by decide +kernel
theorem d5_33 : decode method_4_code 33 = .ok (.goto 4, 3) := by decide +kernel
theorem d5_36 : decode method_4_code 36 = .ok (.iconst 0, 1) := by decide +kernel
theorem d5_37 : decode method_4_code 37 = .ok (.istore 5, 2) := by decide +kernel
theorem d5_39 : decode method_4_code 39 = .ok (.aload_n 0, 1) := by decide +kernel
theorem d5_40 : decode method_4_code 40 = .ok (.iload_n 1, 1) := by decide +kernel
theorem d5_41 : decode method_4_code 41 = .ok (.baload, 1) := by decide +kernel
theorem d5_42 : decode method_4_code 42 = .ok (.bipush 13, 2) := by decide +kernel
theorem d5_44 : decode method_4_code 44 = .ok (.if_icmp .ne 5, 3) := by decide +kernel
theorem d5_47 : decode method_4_code 47 = .ok (.iconst 1, 1) := by decide +kernel
theorem d5_48 : decode method_4_code 48 = .ok (.ireturn, 1) := by decide +kernel
theorem d5_49 : decode method_4_code 49 = .ok (.aload_n 0, 1) := by decide +kernel
theorem d5_50 : decode method_4_code 50 = .ok (.iload_n 1, 1) := by decide +kernel
theorem d5_51 : decode method_4_code 51 = .ok (.baload, 1) := by decide +kernel
theorem d5_52 : decode method_4_code 52 = .ok (.bipush 10, 2) := by decide +kernel
theorem d5_54 : decode method_4_code 54 = .ok (.if_icmp .ne 10, 3) := by decide +kernel
theorem d5_57 : decode method_4_code 57 = .ok (.iload 5, 2) := by decide +kernel
theorem d5_59 : decode method_4_code 59 = .ok (.ifCond .ne 5, 3) := by decide +kernel
theorem d5_62 : decode method_4_code 62 = .ok (.iconst 1, 1) := by decide +kernel
theorem d5_63 : decode method_4_code 63 = .ok (.ireturn, 1) := by decide +kernel
theorem d5_64 : decode method_4_code 64 = .ok (.iconst 0, 1) := by decide +kernel
theorem d5_65 : decode method_4_code 65 = .ok (.ireturn, 1) := by decide +kernel
theorem own_pn5 : plainFor (⟨"com/example/renkei/renkei/reader/LineCountTakePinLaw", "brk", "([BIIIZ)I"⟩ : MethodName) = true := plainFor_of_name (by first | (simp [plainName, overriddenIn]; done) | decide +kernel)
theorem own_ef5 (r0 : Addr) (p1 : Int32) (p2 : Int32) (p3 : Int32) (p4 : Int32) (m : MethodId) : entryFrame m #[(.ref r0), (.int p1), (.int p2), (.int p3), (.int p4)] 6 = mkF m 0 #[.val (.ref r0), .val (.int p1), .val (.int p2), .val (.int p3), .val (.int p4), .unset] [] := by first | (simp [entryFrame, mkF, argsToLocals, Value.category]; done) | rfl
def own_pv (f : Nat → Int32) (j i : Nat) (c : Int32) : Int32 := if j = i then c else (if f (j - 1) = (13 : Int32) then (1 : Int32) else (0 : Int32))
def own_brk (f : Nat → Int32) (j i t : Nat) (c : Int32) : Int32 := if j < i then 0 else if j < t then (if f j = (13 : Int32) then 1 else if f j = (10 : Int32) then (if own_pv f j i c = 0 then 1 else 0) else 0) else 0
theorem own_pd4 : parseMethodDescriptor "([BIIIZ)I" = some ⟨[(.array .byte), .int, .int, .int, .boolean], some .int⟩ := by decide +kernel
set_option maxRecDepth 65536 in
set_option maxHeartbeats 40000000 in
theorem own_rm5 (l : Launch) (Z : State) (a0 : Array Value) (hw : ∀ d ∈ tables_1, d.before a0 Z = true) (j i t : Nat) (r0 : Addr) (p4 : Int32) (h0 : Heap) (n0 : Nat) (Z0 : n0 ≤ h0.size) (ff : Nat → Int32) (hj : j ≤ 3) (hi : i ≤ 4) (ht : t ≤ 4) (F0 : IA Z h0 r0 .byte 4 ff) :
    Met l Z (⟨"com/example/renkei/renkei/reader/LineCountTakePinLaw", "brk", "([BIIIZ)I"⟩ : MethodName) method_4_code 6 (some .int) [] ({ frames := 0, cells := 0, slots := 0, locals := 0 } : Room) #[(.ref r0), (.int (Int32.ofNat j)), (.int (Int32.ofNat i)), (.int (Int32.ofNat t)), (.int p4)] h0 (fun v h L => v = some (.int (own_brk ff j i t p4)) ∧ Fr n0 L ∧ h = h0) := by
  refine met_of (Ls := #[.val (.ref r0), .val (.int (Int32.ofNat j)), .val (.int (Int32.ofNat i)), .val (.int (Int32.ofNat t)), .val (.int p4), .unset]) own_pn5 (own_ef5 r0 (Int32.ofNat j) (Int32.ofNat i) (Int32.ofNat t) p4) ?_
  intro p e s m below meth c s₁ hx hby hml hown hnm hret hlk hZ X0 e0
  have N0 := Fr.nil n0
  refine gIloadN X0 hx (hb hby d5_0) rfl ?_
  refine gIloadN X0 hx (hb hby d5_1) rfl ?_
  refine gIcmp X0 hx 10 (hb hby d5_2) (by decide) (by decide) (fun hT => ?_) (fun hT => ?_)
  · have hc1 := o_ltT hT
    have hc1n := (own_lt (by omega) (by omega)).mp hc1
    show Go _ _ _ _ _ _ _ s₁ (mkF m 10 #[.val (.ref r0), .val (.int (Int32.ofNat j)), .val (.int (Int32.ofNat i)), .val (.int (Int32.ofNat t)), .val (.int p4), .unset] [])
    refine gIconst X0 hx (0 : Int32) (hb hby d5_10) rfl ?_
    exact gRetI X0 hx hlk hret (hb hby d5_11) (by decide) (by decide) ⟨congrArg (fun z => some (Value.int z)) (show own_brk ff j i t p4 = (0 : Int32) from (if_pos hc1n)).symm, N0, e0⟩
  · have hc1 := o_ltF hT
    have hc1n := mt (own_lt (by omega) (by omega)).mpr hc1
    show Go _ _ _ _ _ _ _ s₁ (mkF m 5 #[.val (.ref r0), .val (.int (Int32.ofNat j)), .val (.int (Int32.ofNat i)), .val (.int (Int32.ofNat t)), .val (.int p4), .unset] [])
    refine gIloadN X0 hx (hb hby d5_5) rfl ?_
    refine gIloadN X0 hx (hb hby d5_6) rfl ?_
    refine gIcmp X0 hx 12 (hb hby d5_7) (by decide) (by decide) (fun hT => ?_) (fun hT => ?_)
    · have hc2 := o_ltT hT
      have hc2n := (own_lt (by omega) (by omega)).mp hc2
      show Go _ _ _ _ _ _ _ s₁ (mkF m 12 #[.val (.ref r0), .val (.int (Int32.ofNat j)), .val (.int (Int32.ofNat i)), .val (.int (Int32.ofNat t)), .val (.int p4), .unset] [])
      refine gIloadN X0 hx (hb hby d5_12) rfl ?_
      refine gIloadN X0 hx (hb hby d5_13) rfl ?_
      refine gIcmp X0 hx 22 (hb hby d5_14) (by decide) (by decide) (fun hT => ?_) (fun hT => ?_)
      · have hc3 := o_neT hT
        have hc3n := mt (own_eq (by omega) (by omega)).mpr hc3
        show Go _ _ _ _ _ _ _ s₁ (mkF m 22 #[.val (.ref r0), .val (.int (Int32.ofNat j)), .val (.int (Int32.ofNat i)), .val (.int (Int32.ofNat t)), .val (.int p4), .unset] [])
        refine gAloadN X0 hx (hb hby d5_22) rfl rfl ?_
        refine gIloadN X0 hx (hb hby d5_23) rfl ?_
        refine gIconst X0 hx (1 : Int32) (hb hby d5_24) rfl ?_
        refine gIsub X0 hx (hb hby d5_25) ?_
        refine gBaload X0 hx hZ e0 F0 ⟨(own_sub1 (by omega) (by omega)).1, by rw [(own_sub1 (by omega) (by omega)).2]; omega⟩ (hb hby d5_26) ?_
        rw [(own_sub1 (by omega) (by omega)).2]
        show Go _ _ _ _ _ _ _ s₁ (mkF m 27 #[.val (.ref r0), .val (.int (Int32.ofNat j)), .val (.int (Int32.ofNat i)), .val (.int (Int32.ofNat t)), .val (.int p4), .unset] [(.int (ff (j - 1)))])
        refine gBipush X0 hx (13 : Int32) (hb hby d5_27) rfl ?_
        refine gIcmp X0 hx 36 (hb hby d5_29) (by decide) (by decide) (fun hT => ?_) (fun hT => ?_)
        · have hc4 := o_neT hT
          show Go _ _ _ _ _ _ _ s₁ (mkF m 36 #[.val (.ref r0), .val (.int (Int32.ofNat j)), .val (.int (Int32.ofNat i)), .val (.int (Int32.ofNat t)), .val (.int p4), .unset] [])
          refine gIconst X0 hx (0 : Int32) (hb hby d5_36) rfl ?_
          refine gIstore X0 hx #[.val (.ref r0), .val (.int (Int32.ofNat j)), .val (.int (Int32.ofNat i)), .val (.int (Int32.ofNat t)), .val (.int p4), .val (.int (0 : Int32))] (hb hby d5_37) rfl ?_
          refine gAloadN X0 hx (hb hby d5_39) rfl rfl ?_
          refine gIloadN X0 hx (hb hby d5_40) rfl ?_
          refine gBaload X0 hx hZ e0 F0 ⟨own_nn (by omega), by rw [own_n32 (by omega)]; omega⟩ (hb hby d5_41) ?_
          rw [own_n32 (by omega)]
          show Go _ _ _ _ _ _ _ s₁ (mkF m 42 #[.val (.ref r0), .val (.int (Int32.ofNat j)), .val (.int (Int32.ofNat i)), .val (.int (Int32.ofNat t)), .val (.int p4), .val (.int (0 : Int32))] [(.int (ff j))])
          refine gBipush X0 hx (13 : Int32) (hb hby d5_42) rfl ?_
          refine gIcmp X0 hx 49 (hb hby d5_44) (by decide) (by decide) (fun hT => ?_) (fun hT => ?_)
          · have hc5 := o_neT hT
            show Go _ _ _ _ _ _ _ s₁ (mkF m 49 #[.val (.ref r0), .val (.int (Int32.ofNat j)), .val (.int (Int32.ofNat i)), .val (.int (Int32.ofNat t)), .val (.int p4), .val (.int (0 : Int32))] [])
            refine gAloadN X0 hx (hb hby d5_49) rfl rfl ?_
            refine gIloadN X0 hx (hb hby d5_50) rfl ?_
            refine gBaload X0 hx hZ e0 F0 ⟨own_nn (by omega), by rw [own_n32 (by omega)]; omega⟩ (hb hby d5_51) ?_
            rw [own_n32 (by omega)]
            show Go _ _ _ _ _ _ _ s₁ (mkF m 52 #[.val (.ref r0), .val (.int (Int32.ofNat j)), .val (.int (Int32.ofNat i)), .val (.int (Int32.ofNat t)), .val (.int p4), .val (.int (0 : Int32))] [(.int (ff j))])
            refine gBipush X0 hx (10 : Int32) (hb hby d5_52) rfl ?_
            refine gIcmp X0 hx 64 (hb hby d5_54) (by decide) (by decide) (fun hT => ?_) (fun hT => ?_)
            · have hc6 := o_neT hT
              show Go _ _ _ _ _ _ _ s₁ (mkF m 64 #[.val (.ref r0), .val (.int (Int32.ofNat j)), .val (.int (Int32.ofNat i)), .val (.int (Int32.ofNat t)), .val (.int p4), .val (.int (0 : Int32))] [])
              refine gIconst X0 hx (0 : Int32) (hb hby d5_64) rfl ?_
              exact gRetI X0 hx hlk hret (hb hby d5_65) (by decide) (by decide) ⟨congrArg (fun z => some (Value.int z)) (show own_brk ff j i t p4 = (0 : Int32) from ((if_neg hc1n).trans ((if_pos hc2n).trans ((if_neg hc5).trans (if_neg hc6))))).symm, N0, e0⟩
            · have hc6 := o_neF hT
              show Go _ _ _ _ _ _ _ s₁ (mkF m 57 #[.val (.ref r0), .val (.int (Int32.ofNat j)), .val (.int (Int32.ofNat i)), .val (.int (Int32.ofNat t)), .val (.int p4), .val (.int (0 : Int32))] [])
              refine gIload X0 hx (hb hby d5_57) rfl ?_
              refine gIf X0 hx 64 (hb hby d5_59) (by decide) (by decide) (fun q => absurd (by decide) (o_neT q)) (fun _ => ?_)
              show Go _ _ _ _ _ _ _ s₁ (mkF m 62 #[.val (.ref r0), .val (.int (Int32.ofNat j)), .val (.int (Int32.ofNat i)), .val (.int (Int32.ofNat t)), .val (.int p4), .val (.int (0 : Int32))] [])
              refine gIconst X0 hx (1 : Int32) (hb hby d5_62) rfl ?_
              exact gRetI X0 hx hlk hret (hb hby d5_63) (by decide) (by decide) ⟨congrArg (fun z => some (Value.int z)) (show own_brk ff j i t p4 = (1 : Int32) from ((if_neg hc1n).trans ((if_pos hc2n).trans ((if_neg hc5).trans ((if_pos hc6).trans (if_pos (show own_pv ff j i p4 = 0 from ((if_neg hc3n).trans (if_neg hc4))))))))).symm, N0, e0⟩
          · have hc5 := o_neF hT
            show Go _ _ _ _ _ _ _ s₁ (mkF m 47 #[.val (.ref r0), .val (.int (Int32.ofNat j)), .val (.int (Int32.ofNat i)), .val (.int (Int32.ofNat t)), .val (.int p4), .val (.int (0 : Int32))] [])
            refine gIconst X0 hx (1 : Int32) (hb hby d5_47) rfl ?_
            exact gRetI X0 hx hlk hret (hb hby d5_48) (by decide) (by decide) ⟨congrArg (fun z => some (Value.int z)) (show own_brk ff j i t p4 = (1 : Int32) from ((if_neg hc1n).trans ((if_pos hc2n).trans (if_pos hc5)))).symm, N0, e0⟩
        · have hc4 := o_neF hT
          show Go _ _ _ _ _ _ _ s₁ (mkF m 32 #[.val (.ref r0), .val (.int (Int32.ofNat j)), .val (.int (Int32.ofNat i)), .val (.int (Int32.ofNat t)), .val (.int p4), .unset] [])
          refine gIconst X0 hx (1 : Int32) (hb hby d5_32) rfl ?_
          refine gGoto X0 hx 37 (hb hby d5_33) (by decide) (by decide) ?_
          refine gIstore X0 hx #[.val (.ref r0), .val (.int (Int32.ofNat j)), .val (.int (Int32.ofNat i)), .val (.int (Int32.ofNat t)), .val (.int p4), .val (.int (1 : Int32))] (hb hby d5_37) rfl ?_
          refine gAloadN X0 hx (hb hby d5_39) rfl rfl ?_
          refine gIloadN X0 hx (hb hby d5_40) rfl ?_
          refine gBaload X0 hx hZ e0 F0 ⟨own_nn (by omega), by rw [own_n32 (by omega)]; omega⟩ (hb hby d5_41) ?_
          rw [own_n32 (by omega)]
          show Go _ _ _ _ _ _ _ s₁ (mkF m 42 #[.val (.ref r0), .val (.int (Int32.ofNat j)), .val (.int (Int32.ofNat i)), .val (.int (Int32.ofNat t)), .val (.int p4), .val (.int (1 : Int32))] [(.int (ff j))])
          refine gBipush X0 hx (13 : Int32) (hb hby d5_42) rfl ?_
          refine gIcmp X0 hx 49 (hb hby d5_44) (by decide) (by decide) (fun hT => ?_) (fun hT => ?_)
          · have hc7 := o_neT hT
            show Go _ _ _ _ _ _ _ s₁ (mkF m 49 #[.val (.ref r0), .val (.int (Int32.ofNat j)), .val (.int (Int32.ofNat i)), .val (.int (Int32.ofNat t)), .val (.int p4), .val (.int (1 : Int32))] [])
            refine gAloadN X0 hx (hb hby d5_49) rfl rfl ?_
            refine gIloadN X0 hx (hb hby d5_50) rfl ?_
            refine gBaload X0 hx hZ e0 F0 ⟨own_nn (by omega), by rw [own_n32 (by omega)]; omega⟩ (hb hby d5_51) ?_
            rw [own_n32 (by omega)]
            show Go _ _ _ _ _ _ _ s₁ (mkF m 52 #[.val (.ref r0), .val (.int (Int32.ofNat j)), .val (.int (Int32.ofNat i)), .val (.int (Int32.ofNat t)), .val (.int p4), .val (.int (1 : Int32))] [(.int (ff j))])
            refine gBipush X0 hx (10 : Int32) (hb hby d5_52) rfl ?_
            refine gIcmp X0 hx 64 (hb hby d5_54) (by decide) (by decide) (fun hT => ?_) (fun hT => ?_)
            · have hc8 := o_neT hT
              show Go _ _ _ _ _ _ _ s₁ (mkF m 64 #[.val (.ref r0), .val (.int (Int32.ofNat j)), .val (.int (Int32.ofNat i)), .val (.int (Int32.ofNat t)), .val (.int p4), .val (.int (1 : Int32))] [])
              refine gIconst X0 hx (0 : Int32) (hb hby d5_64) rfl ?_
              exact gRetI X0 hx hlk hret (hb hby d5_65) (by decide) (by decide) ⟨congrArg (fun z => some (Value.int z)) (show own_brk ff j i t p4 = (0 : Int32) from ((if_neg hc1n).trans ((if_pos hc2n).trans ((if_neg hc7).trans (if_neg hc8))))).symm, N0, e0⟩
            · have hc8 := o_neF hT
              show Go _ _ _ _ _ _ _ s₁ (mkF m 57 #[.val (.ref r0), .val (.int (Int32.ofNat j)), .val (.int (Int32.ofNat i)), .val (.int (Int32.ofNat t)), .val (.int p4), .val (.int (1 : Int32))] [])
              refine gIload X0 hx (hb hby d5_57) rfl ?_
              refine gIf X0 hx 64 (hb hby d5_59) (by decide) (by decide) (fun _ => ?_) (fun q => absurd (o_neF q) (by decide))
              show Go _ _ _ _ _ _ _ s₁ (mkF m 64 #[.val (.ref r0), .val (.int (Int32.ofNat j)), .val (.int (Int32.ofNat i)), .val (.int (Int32.ofNat t)), .val (.int p4), .val (.int (1 : Int32))] [])
              refine gIconst X0 hx (0 : Int32) (hb hby d5_64) rfl ?_
              exact gRetI X0 hx hlk hret (hb hby d5_65) (by decide) (by decide) ⟨congrArg (fun z => some (Value.int z)) (show own_brk ff j i t p4 = (0 : Int32) from ((if_neg hc1n).trans ((if_pos hc2n).trans ((if_neg hc7).trans ((if_pos hc8).trans (if_neg (fun z => absurd (((if_neg hc3n).trans (if_pos hc4)).symm.trans z) (by decide)))))))).symm, N0, e0⟩
          · have hc7 := o_neF hT
            show Go _ _ _ _ _ _ _ s₁ (mkF m 47 #[.val (.ref r0), .val (.int (Int32.ofNat j)), .val (.int (Int32.ofNat i)), .val (.int (Int32.ofNat t)), .val (.int p4), .val (.int (1 : Int32))] [])
            refine gIconst X0 hx (1 : Int32) (hb hby d5_47) rfl ?_
            exact gRetI X0 hx hlk hret (hb hby d5_48) (by decide) (by decide) ⟨congrArg (fun z => some (Value.int z)) (show own_brk ff j i t p4 = (1 : Int32) from ((if_neg hc1n).trans ((if_pos hc2n).trans (if_pos hc7)))).symm, N0, e0⟩
      · have hc3 := o_neF hT
        have hc3n := (own_eq (by omega) (by omega)).mp hc3
        show Go _ _ _ _ _ _ _ s₁ (mkF m 17 #[.val (.ref r0), .val (.int (Int32.ofNat j)), .val (.int (Int32.ofNat i)), .val (.int (Int32.ofNat t)), .val (.int p4), .unset] [])
        refine gIload X0 hx (hb hby d5_17) rfl ?_
        refine gGoto X0 hx 37 (hb hby d5_19) (by decide) (by decide) ?_
        refine gIstore X0 hx #[.val (.ref r0), .val (.int (Int32.ofNat j)), .val (.int (Int32.ofNat i)), .val (.int (Int32.ofNat t)), .val (.int p4), .val (.int p4)] (hb hby d5_37) rfl ?_
        refine gAloadN X0 hx (hb hby d5_39) rfl rfl ?_
        refine gIloadN X0 hx (hb hby d5_40) rfl ?_
        refine gBaload X0 hx hZ e0 F0 ⟨own_nn (by omega), by rw [own_n32 (by omega)]; omega⟩ (hb hby d5_41) ?_
        rw [own_n32 (by omega)]
        show Go _ _ _ _ _ _ _ s₁ (mkF m 42 #[.val (.ref r0), .val (.int (Int32.ofNat j)), .val (.int (Int32.ofNat i)), .val (.int (Int32.ofNat t)), .val (.int p4), .val (.int p4)] [(.int (ff j))])
        refine gBipush X0 hx (13 : Int32) (hb hby d5_42) rfl ?_
        refine gIcmp X0 hx 49 (hb hby d5_44) (by decide) (by decide) (fun hT => ?_) (fun hT => ?_)
        · have hc9 := o_neT hT
          show Go _ _ _ _ _ _ _ s₁ (mkF m 49 #[.val (.ref r0), .val (.int (Int32.ofNat j)), .val (.int (Int32.ofNat i)), .val (.int (Int32.ofNat t)), .val (.int p4), .val (.int p4)] [])
          refine gAloadN X0 hx (hb hby d5_49) rfl rfl ?_
          refine gIloadN X0 hx (hb hby d5_50) rfl ?_
          refine gBaload X0 hx hZ e0 F0 ⟨own_nn (by omega), by rw [own_n32 (by omega)]; omega⟩ (hb hby d5_51) ?_
          rw [own_n32 (by omega)]
          show Go _ _ _ _ _ _ _ s₁ (mkF m 52 #[.val (.ref r0), .val (.int (Int32.ofNat j)), .val (.int (Int32.ofNat i)), .val (.int (Int32.ofNat t)), .val (.int p4), .val (.int p4)] [(.int (ff j))])
          refine gBipush X0 hx (10 : Int32) (hb hby d5_52) rfl ?_
          refine gIcmp X0 hx 64 (hb hby d5_54) (by decide) (by decide) (fun hT => ?_) (fun hT => ?_)
          · have hc10 := o_neT hT
            show Go _ _ _ _ _ _ _ s₁ (mkF m 64 #[.val (.ref r0), .val (.int (Int32.ofNat j)), .val (.int (Int32.ofNat i)), .val (.int (Int32.ofNat t)), .val (.int p4), .val (.int p4)] [])
            refine gIconst X0 hx (0 : Int32) (hb hby d5_64) rfl ?_
            exact gRetI X0 hx hlk hret (hb hby d5_65) (by decide) (by decide) ⟨congrArg (fun z => some (Value.int z)) (show own_brk ff j i t p4 = (0 : Int32) from ((if_neg hc1n).trans ((if_pos hc2n).trans ((if_neg hc9).trans (if_neg hc10))))).symm, N0, e0⟩
          · have hc10 := o_neF hT
            show Go _ _ _ _ _ _ _ s₁ (mkF m 57 #[.val (.ref r0), .val (.int (Int32.ofNat j)), .val (.int (Int32.ofNat i)), .val (.int (Int32.ofNat t)), .val (.int p4), .val (.int p4)] [])
            refine gIload X0 hx (hb hby d5_57) rfl ?_
            refine gIf X0 hx 64 (hb hby d5_59) (by decide) (by decide) (fun hT => ?_) (fun hT => ?_)
            · have hc11 := o_neT hT
              show Go _ _ _ _ _ _ _ s₁ (mkF m 64 #[.val (.ref r0), .val (.int (Int32.ofNat j)), .val (.int (Int32.ofNat i)), .val (.int (Int32.ofNat t)), .val (.int p4), .val (.int p4)] [])
              refine gIconst X0 hx (0 : Int32) (hb hby d5_64) rfl ?_
              exact gRetI X0 hx hlk hret (hb hby d5_65) (by decide) (by decide) ⟨congrArg (fun z => some (Value.int z)) (show own_brk ff j i t p4 = (0 : Int32) from ((if_neg hc1n).trans ((if_pos hc2n).trans ((if_neg hc9).trans ((if_pos hc10).trans (if_neg (fun z => hc11 ((if_pos hc3n).symm.trans z)))))))).symm, N0, e0⟩
            · have hc11 := o_neF hT
              show Go _ _ _ _ _ _ _ s₁ (mkF m 62 #[.val (.ref r0), .val (.int (Int32.ofNat j)), .val (.int (Int32.ofNat i)), .val (.int (Int32.ofNat t)), .val (.int p4), .val (.int p4)] [])
              refine gIconst X0 hx (1 : Int32) (hb hby d5_62) rfl ?_
              exact gRetI X0 hx hlk hret (hb hby d5_63) (by decide) (by decide) ⟨congrArg (fun z => some (Value.int z)) (show own_brk ff j i t p4 = (1 : Int32) from ((if_neg hc1n).trans ((if_pos hc2n).trans ((if_neg hc9).trans ((if_pos hc10).trans (if_pos (show own_pv ff j i p4 = 0 from (if_pos hc3n).trans hc11))))))).symm, N0, e0⟩
        · have hc9 := o_neF hT
          show Go _ _ _ _ _ _ _ s₁ (mkF m 47 #[.val (.ref r0), .val (.int (Int32.ofNat j)), .val (.int (Int32.ofNat i)), .val (.int (Int32.ofNat t)), .val (.int p4), .val (.int p4)] [])
          refine gIconst X0 hx (1 : Int32) (hb hby d5_47) rfl ?_
          exact gRetI X0 hx hlk hret (hb hby d5_48) (by decide) (by decide) ⟨congrArg (fun z => some (Value.int z)) (show own_brk ff j i t p4 = (1 : Int32) from ((if_neg hc1n).trans ((if_pos hc2n).trans (if_pos hc9)))).symm, N0, e0⟩
    · have hc2 := o_ltF hT
      have hc2n := mt (own_lt (by omega) (by omega)).mpr hc2
      show Go _ _ _ _ _ _ _ s₁ (mkF m 10 #[.val (.ref r0), .val (.int (Int32.ofNat j)), .val (.int (Int32.ofNat i)), .val (.int (Int32.ofNat t)), .val (.int p4), .unset] [])
      refine gIconst X0 hx (0 : Int32) (hb hby d5_10) rfl ?_
      exact gRetI X0 hx hlk hret (hb hby d5_11) (by decide) (by decide) ⟨congrArg (fun z => some (Value.int z)) (show own_brk ff j i t p4 = (0 : Int32) from ((if_neg hc1n).trans (if_neg hc2n))).symm, N0, e0⟩
theorem d6_0 : decode prog_83_method_3_code 0 = .ok (.aload_n 0, 1) := by decide +kernel
theorem d6_1 : decode prog_83_method_3_code 1 = .ok (.getfield 7, 3) := by decide +kernel
theorem d6_4 : decode prog_83_method_3_code 4 = .ok (.istore 4, 2) := by decide +kernel
theorem d6_6 : decode prog_83_method_3_code 6 = .ok (.aload_n 0, 1) := by decide +kernel
theorem d6_7 : decode prog_83_method_3_code 7 = .ok (.getfield 13, 3) := by decide +kernel
theorem d6_10 : decode prog_83_method_3_code 10 = .ok (.istore 5, 2) := by decide +kernel
theorem d6_12 : decode prog_83_method_3_code 12 = .ok (.iload_n 2, 1) := by decide +kernel
theorem d6_13 : decode prog_83_method_3_code 13 = .ok (.istore 6, 2) := by decide +kernel
theorem d6_15 : decode prog_83_method_3_code 15 = .ok (.iload 6, 2) := by decide +kernel
theorem d6_17 : decode prog_83_method_3_code 17 = .ok (.iload_n 3, 1) := by decide +kernel
theorem d6_18 : decode prog_83_method_3_code 18 = .ok (.if_icmp .ge 51, 3) := by decide +kernel
theorem d6_21 : decode prog_83_method_3_code 21 = .ok (.aload_n 1, 1) := by decide +kernel
theorem d6_22 : decode prog_83_method_3_code 22 = .ok (.iload 6, 2) := by decide +kernel
theorem d6_24 : decode prog_83_method_3_code 24 = .ok (.baload, 1) := by decide +kernel
theorem d6_25 : decode prog_83_method_3_code 25 = .ok (.istore 7, 2) := by decide +kernel
theorem d6_27 : decode prog_83_method_3_code 27 = .ok (.iload 7, 2) := by decide +kernel
theorem d6_29 : decode prog_83_method_3_code 29 = .ok (.bipush 13, 2) := by decide +kernel
theorem d6_31 : decode prog_83_method_3_code 31 = .ok (.if_icmp .eq 15, 3) := by decide +kernel
theorem d6_34 : decode prog_83_method_3_code 34 = .ok (.iload 7, 2) := by decide +kernel
theorem d6_36 : decode prog_83_method_3_code 36 = .ok (.bipush 10, 2) := by decide +kernel
theorem d6_38 : decode prog_83_method_3_code 38 = .ok (.if_icmp .ne 11, 3) := by decide +kernel
theorem d6_41 : decode prog_83_method_3_code 41 = .ok (.iload 5, 2) := by decide +kernel
theorem d6_43 : decode prog_83_method_3_code 43 = .ok (.ifCond .ne 6, 3) := by decide +kernel
theorem d6_46 : decode prog_83_method_3_code 46 = .ok (.iinc 4 1, 3) := by decide +kernel
theorem d6_49 : decode prog_83_method_3_code 49 = .ok (.iload 7, 2) := by decide +kernel
theorem d6_51 : decode prog_83_method_3_code 51 = .ok (.bipush 13, 2) := by decide +kernel
theorem d6_53 : decode prog_83_method_3_code 53 = .ok (.if_icmp .ne 7, 3) := by decide +kernel
theorem d6_56 : decode prog_83_method_3_code 56 = .ok (.iconst 1, 1) := by decide +kernel
theorem d6_57 : decode prog_83_method_3_code 57 = .ok (.goto 4, 3) := by decide +kernel
theorem d6_60 : decode prog_83_method_3_code 60 = .ok (.iconst 0, 1) := by decide +kernel
theorem d6_61 : decode prog_83_method_3_code 61 = .ok (.istore 5, 2) := by decide +kernel
theorem d6_63 : decode prog_83_method_3_code 63 = .ok (.iinc 6 1, 3) := by decide +kernel
theorem d6_66 : decode prog_83_method_3_code 66 = .ok (.goto (-51), 3) := by decide +kernel
theorem d6_69 : decode prog_83_method_3_code 69 = .ok (.aload_n 0, 1) := by decide +kernel
theorem d6_70 : decode prog_83_method_3_code 70 = .ok (.iload 4, 2) := by decide +kernel
theorem d6_72 : decode prog_83_method_3_code 72 = .ok (.putfield 7, 3) := by decide +kernel
theorem d6_75 : decode prog_83_method_3_code 75 = .ok (.aload_n 0, 1) := by decide +kernel
theorem d6_76 : decode prog_83_method_3_code 76 = .ok (.iload 5, 2) := by decide +kernel
theorem d6_78 : decode prog_83_method_3_code 78 = .ok (.putfield 13, 3) := by decide +kernel
theorem d6_81 : decode prog_83_method_3_code 81 = .ok (.return_, 1) := by decide +kernel
theorem own_pn6 : plainFor (⟨"com/example/renkei/renkei/reader/LineCount", "take", "([BII)V"⟩ : MethodName) = true := plainFor_of_name (by first | (simp [plainName, overriddenIn]; done) | decide +kernel)
theorem own_ef6 (r0 : Addr) (r1 : Addr) (p2 : Int32) (p3 : Int32) (m : MethodId) : entryFrame m #[(.ref r0), (.ref r1), (.int p2), (.int p3)] 8 = mkF m 0 #[.val (.ref r0), .val (.ref r1), .val (.int p2), .val (.int p3), .unset, .unset, .unset, .unset] [] := by first | (simp [entryFrame, mkF, argsToLocals, Value.category]; done) | rfl
def own_run (f : Nat → Int32) : Nat → Nat → Int32 → Int32 → Int32 × Int32
  | 0, _, ln, b => (ln, b)
  | k + 1, i, ln, b => own_run f k (i + 1) (own_tl (f i) ln b) (own_tb (f i))
theorem own_pd5 : parseMethodDescriptor "([BII)V" = some ⟨[(.array .byte), .int, .int], none⟩ := by decide +kernel
set_option maxRecDepth 65536 in
set_option maxHeartbeats 40000000 in
theorem own_rm6 (l : Launch) (Z : State) (a0 : Array Value) (hw : ∀ d ∈ tables_1, d.before a0 Z = true) (i t : Nat) (r0 : Addr) (r1 : Addr) (h0 : Heap) (n0 : Nat) (Z0 : n0 ≤ h0.size) (ff : Nat → Int32) (ln bb : Int32) (hit : i ≤ t) (ht : t ≤ 4) (hb0 : bb = 0 ∨ bb = 1) (V0 : IA Z h0 r1 .byte 4 ff) (hne : r0 ≠ r1) (E0 : Exa Z h0 r0 "com/example/renkei/renkei/reader/LineCount") (F0 : Fld Z h0 r0 "com/example/renkei/renkei/reader/LineCount" "line" "I" (.int ln)) (G0 : Fld Z h0 r0 "com/example/renkei/renkei/reader/LineCount" "afterCarriageReturn" "Z" (.int bb)) (g0 : n0 ≤ r0) :
    Met l Z (⟨"com/example/renkei/renkei/reader/LineCount", "take", "([BII)V"⟩ : MethodName) prog_83_method_3_code 8 none [] ({ frames := 0, cells := 0, slots := 0, locals := 0 } : Room) #[(.ref r0), (.ref r1), (.int (Int32.ofNat i)), (.int (Int32.ofNat t))] h0 (fun v h L => v = none ∧ Fr n0 L ∧ Keep h0 h [r0] ∧ Exa Z h r0 "com/example/renkei/renkei/reader/LineCount" ∧ Fld Z h r0 "com/example/renkei/renkei/reader/LineCount" "line" "I" (.int (own_run ff (t - i) i ln bb).1) ∧ Fld Z h r0 "com/example/renkei/renkei/reader/LineCount" "afterCarriageReturn" "Z" (.int (own_run ff (t - i) i ln bb).2)) := by
  refine met_of (Ls := #[.val (.ref r0), .val (.ref r1), .val (.int (Int32.ofNat i)), .val (.int (Int32.ofNat t)), .unset, .unset, .unset, .unset]) own_pn6 (own_ef6 r0 r1 (Int32.ofNat i) (Int32.ofNat t)) ?_
  intro p e s m below meth c s₁ hx hby hml hown hnm hret hlk hZ X0 e0
  have N0 := Fr.nil n0
  refine gAloadN X0 hx (hb hby d6_0) rfl rfl ?_
  refine gGetF X0 hx hZ hown (tw hw 14 rfl) e0 F0 (hb hby d6_1) ?_
  intro T1 X1 e1
  show Go _ _ _ _ _ _ _ T1 (mkF m 4 #[.val (.ref r0), .val (.ref r1), .val (.int (Int32.ofNat i)), .val (.int (Int32.ofNat t)), .unset, .unset, .unset, .unset] [(.int ln)])
  refine gIstore X1 hx #[.val (.ref r0), .val (.ref r1), .val (.int (Int32.ofNat i)), .val (.int (Int32.ofNat t)), .val (.int ln), .unset, .unset, .unset] (hb hby d6_4) rfl ?_
  refine gAloadN X1 hx (hb hby d6_6) rfl rfl ?_
  refine gGetF X1 hx hZ hown (tw hw 21 rfl) e1 G0 (hb hby d6_7) ?_
  intro T2 X2 e2
  show Go _ _ _ _ _ _ _ T2 (mkF m 10 #[.val (.ref r0), .val (.ref r1), .val (.int (Int32.ofNat i)), .val (.int (Int32.ofNat t)), .val (.int ln), .unset, .unset, .unset] [(.int bb)])
  refine gIstore X2 hx #[.val (.ref r0), .val (.ref r1), .val (.int (Int32.ofNat i)), .val (.int (Int32.ofNat t)), .val (.int ln), .val (.int bb), .unset, .unset] (hb hby d6_10) rfl ?_
  refine gIloadN X2 hx (hb hby d6_12) rfl ?_
  refine gIstore X2 hx #[.val (.ref r0), .val (.ref r1), .val (.int (Int32.ofNat i)), .val (.int (Int32.ofNat t)), .val (.int ln), .val (.int bb), .val (.int (Int32.ofNat i)), .unset] (hb hby d6_13) rfl ?_
  have loop : ∀ (k j : Nat) (ln' b' u' : Int32), j + k = t → own_run ff k j ln' b' = (own_run ff (t - i) i ln bb) → (b' = 0 ∨ b' = 1) → Go p e below s ({ frames := 0, cells := 0, slots := 0, locals := 0 } : Room).cells ({ frames := 0, cells := 0, slots := 0, locals := 0 } : Room).slots (fun v h L => v = none ∧ Fr n0 L ∧ Keep h0 h [r0] ∧ Exa Z h r0 "com/example/renkei/renkei/reader/LineCount" ∧ Fld Z h r0 "com/example/renkei/renkei/reader/LineCount" "line" "I" (.int (own_run ff (t - i) i ln bb).1) ∧ Fld Z h r0 "com/example/renkei/renkei/reader/LineCount" "afterCarriageReturn" "Z" (.int (own_run ff (t - i) i ln bb).2)) T2 (mkF m 15 #[.val (.ref r0), .val (.ref r1), .val (.int (Int32.ofNat i)), .val (.int (Int32.ofNat t)), .val (.int ln'), .val (.int b'), .val (.int (Int32.ofNat j)), .val (.int u')] []) := by
    intro k
    induction k with
    | zero =>
      intro j ln' b' u' hjk hR hb1
      show Go _ _ _ _ _ _ _ T2 (mkF m 15 #[.val (.ref r0), .val (.ref r1), .val (.int (Int32.ofNat i)), .val (.int (Int32.ofNat t)), .val (.int ln'), .val (.int b'), .val (.int (Int32.ofNat j)), .val (.int u')] [])
      refine gIload X2 hx (hb hby d6_15) rfl ?_
      refine gIloadN X2 hx (hb hby d6_17) rfl ?_
      refine gIcmp X2 hx 69 (hb hby d6_18) (by decide) (by decide) (fun _ => ?_) (fun q => absurd (o_geF q) (fun q => absurd ((own_lt (by omega) (by omega)).mp q) (by omega)))
      show Go _ _ _ _ _ _ _ T2 (mkF m 69 #[.val (.ref r0), .val (.ref r1), .val (.int (Int32.ofNat i)), .val (.int (Int32.ofNat t)), .val (.int ln'), .val (.int b'), .val (.int (Int32.ofNat j)), .val (.int u')] [])
      refine gAloadN X2 hx (hb hby d6_69) rfl rfl ?_
      refine gIload X2 hx (hb hby d6_70) rfl ?_
      refine gPutF X2 hx hZ hown (tw hw 14 rfl) e2 F0 E0 (Or.inl (tw hw 15 rfl)) (tw hw 6 rfl) (ty := .int) (by decide) rfl rfl (hb hby d6_72) ?_
      intro T3 h3 X3 e3 W3
      have F0__3 := F0.same W3
      have E0__3 := E0.wr W3
      have G0__3 := G0.other W3 (Or.inr (slot_ne (Or.inl (tw hw 22 rfl)) (Or.inl (tw hw 15 rfl)) (by decide) (t := .boolean) (t' := .int) (by decide) (by decide)))
      have V0__3 := V0.other W3 (Ne.symm hne)
      have Z_3 := Nat.le_trans Z0 (Nat.le_of_eq W3.size.symm)
      have K_3 : Keep h0 h3 [r0] := (Keep.refl h0 [r0]).wr W3 (Or.inl (List.mem_of_getElem? (i := 0) rfl))
      have N_3 := Fr.snoc X3 N0 g0
      show Go _ _ _ _ _ _ _ T3 (mkF m 75 #[.val (.ref r0), .val (.ref r1), .val (.int (Int32.ofNat i)), .val (.int (Int32.ofNat t)), .val (.int ln'), .val (.int b'), .val (.int (Int32.ofNat j)), .val (.int u')] [])
      refine gAloadN X3 hx (hb hby d6_75) rfl rfl ?_
      refine gIload X3 hx (hb hby d6_76) rfl ?_
      refine gPutFN X3 hx hZ hown (tw hw 21 rfl) e3 (.int b') G0__3 E0__3 (Or.inl (tw hw 22 rfl)) (tw hw 6 rfl) (ty := .boolean) (by decide) (own_nz hb1) (own_fz hb1) (hb hby d6_78) ?_
      intro T4 h4 X4 e4 W4
      have G0__4 := G0__3.same W4
      have E0__4 := E0__3.wr W4
      have F0__4 := F0__3.other W4 (Or.inr (slot_ne (Or.inl (tw hw 15 rfl)) (Or.inl (tw hw 22 rfl)) (by decide) (t := .int) (t' := .boolean) (by decide) (by decide)))
      have V0__4 := V0__3.other W4 (Ne.symm hne)
      have Z_4 := Nat.le_trans Z_3 (Nat.le_of_eq W4.size.symm)
      have K_4 : Keep h0 h4 [r0] := K_3.wr W4 (Or.inl (List.mem_of_getElem? (i := 0) rfl))
      have N_4 := Fr.snoc X4 N_3 g0
      show Go _ _ _ _ _ _ _ T4 (mkF m 81 #[.val (.ref r0), .val (.ref r1), .val (.int (Int32.ofNat i)), .val (.int (Int32.ofNat t)), .val (.int ln'), .val (.int b'), .val (.int (Int32.ofNat j)), .val (.int u')] [])
      subst e4
      exact gRetV X4 hx hlk hret (hb hby d6_81) (by decide) (by decide) ⟨rfl, N_4, K_4, E0__4, by rw [← hR]; exact F0__4, by rw [← hR]; exact G0__4⟩
    | succ k ih =>
      intro j ln' b' u' hjk hR hb1
      show Go _ _ _ _ _ _ _ T2 (mkF m 15 #[.val (.ref r0), .val (.ref r1), .val (.int (Int32.ofNat i)), .val (.int (Int32.ofNat t)), .val (.int ln'), .val (.int b'), .val (.int (Int32.ofNat j)), .val (.int u')] [])
      refine gIload X2 hx (hb hby d6_15) rfl ?_
      refine gIloadN X2 hx (hb hby d6_17) rfl ?_
      refine gIcmp X2 hx 69 (hb hby d6_18) (by decide) (by decide) (fun q => absurd ((own_lt (by omega) (by omega)).mpr (by omega)) (o_geT q)) (fun _ => ?_)
      show Go _ _ _ _ _ _ _ T2 (mkF m 21 #[.val (.ref r0), .val (.ref r1), .val (.int (Int32.ofNat i)), .val (.int (Int32.ofNat t)), .val (.int ln'), .val (.int b'), .val (.int (Int32.ofNat j)), .val (.int u')] [])
      refine gAloadN X2 hx (hb hby d6_21) rfl rfl ?_
      refine gIload X2 hx (hb hby d6_22) rfl ?_
      refine gBaload X2 hx hZ e2 V0 ⟨own_nn (by omega), by rw [own_n32 (by omega)]; omega⟩ (hb hby d6_24) ?_
      rw [own_n32 (by omega)]
      show Go _ _ _ _ _ _ _ T2 (mkF m 25 #[.val (.ref r0), .val (.ref r1), .val (.int (Int32.ofNat i)), .val (.int (Int32.ofNat t)), .val (.int ln'), .val (.int b'), .val (.int (Int32.ofNat j)), .val (.int u')] [(.int (ff j))])
      refine gIstore X2 hx #[.val (.ref r0), .val (.ref r1), .val (.int (Int32.ofNat i)), .val (.int (Int32.ofNat t)), .val (.int ln'), .val (.int b'), .val (.int (Int32.ofNat j)), .val (.int (ff j))] (hb hby d6_25) rfl ?_
      refine gIload X2 hx (hb hby d6_27) rfl ?_
      refine gBipush X2 hx (13 : Int32) (hb hby d6_29) rfl ?_
      refine gIcmp X2 hx 46 (hb hby d6_31) (by decide) (by decide) (fun hT => ?_) (fun hT => ?_)
      · have hc5 := o_eqT hT
        show Go _ _ _ _ _ _ _ T2 (mkF m 46 #[.val (.ref r0), .val (.ref r1), .val (.int (Int32.ofNat i)), .val (.int (Int32.ofNat t)), .val (.int ln'), .val (.int b'), .val (.int (Int32.ofNat j)), .val (.int (ff j))] [])
        refine gIinc X2 hx (1 : Int32) #[.val (.ref r0), .val (.ref r1), .val (.int (Int32.ofNat i)), .val (.int (Int32.ofNat t)), .val (.int (ln' + (1 : Int32))), .val (.int b'), .val (.int (Int32.ofNat j)), .val (.int (ff j))] (hb hby d6_46) rfl rfl rfl ?_
        refine gIload X2 hx (hb hby d6_49) rfl ?_
        refine gBipush X2 hx (13 : Int32) (hb hby d6_51) rfl ?_
        refine gIcmp X2 hx 60 (hb hby d6_53) (by decide) (by decide) (fun q => absurd hc5 (o_neT q)) (fun _ => ?_)
        show Go _ _ _ _ _ _ _ T2 (mkF m 56 #[.val (.ref r0), .val (.ref r1), .val (.int (Int32.ofNat i)), .val (.int (Int32.ofNat t)), .val (.int (ln' + (1 : Int32))), .val (.int b'), .val (.int (Int32.ofNat j)), .val (.int (ff j))] [])
        refine gIconst X2 hx (1 : Int32) (hb hby d6_56) rfl ?_
        refine gGoto X2 hx 61 (hb hby d6_57) (by decide) (by decide) ?_
        refine gIstore X2 hx #[.val (.ref r0), .val (.ref r1), .val (.int (Int32.ofNat i)), .val (.int (Int32.ofNat t)), .val (.int (ln' + (1 : Int32))), .val (.int (1 : Int32)), .val (.int (Int32.ofNat j)), .val (.int (ff j))] (hb hby d6_61) rfl ?_
        refine gIinc X2 hx (1 : Int32) #[.val (.ref r0), .val (.ref r1), .val (.int (Int32.ofNat i)), .val (.int (Int32.ofNat t)), .val (.int (ln' + (1 : Int32))), .val (.int (1 : Int32)), .val (.int ((Int32.ofNat j) + (1 : Int32))), .val (.int (ff j))] (hb hby d6_63) rfl rfl rfl ?_
        refine gGoto X2 hx 15 (hb hby d6_66) (by decide) (by decide) ?_
        rw [own_one j]
        refine ih (j + 1) (ln' + (1 : Int32)) (1 : Int32) (ff j) (by omega) ?_ (by decide)
        have q1 : own_tl (ff j) ln' b' = (ln' + (1 : Int32)) := (if_pos hc5)
        have q2 : own_tb (ff j) = (1 : Int32) := (if_pos hc5)
        have q3 : own_run ff k (j + 1) (own_tl (ff j) ln' b') (own_tb (ff j)) = (own_run ff (t - i) i ln bb) := hR
        rw [q1, q2] at q3
        exact q3
      · have hc5 := o_eqF hT
        show Go _ _ _ _ _ _ _ T2 (mkF m 34 #[.val (.ref r0), .val (.ref r1), .val (.int (Int32.ofNat i)), .val (.int (Int32.ofNat t)), .val (.int ln'), .val (.int b'), .val (.int (Int32.ofNat j)), .val (.int (ff j))] [])
        refine gIload X2 hx (hb hby d6_34) rfl ?_
        refine gBipush X2 hx (10 : Int32) (hb hby d6_36) rfl ?_
        refine gIcmp X2 hx 49 (hb hby d6_38) (by decide) (by decide) (fun hT => ?_) (fun hT => ?_)
        · have hc6 := o_neT hT
          show Go _ _ _ _ _ _ _ T2 (mkF m 49 #[.val (.ref r0), .val (.ref r1), .val (.int (Int32.ofNat i)), .val (.int (Int32.ofNat t)), .val (.int ln'), .val (.int b'), .val (.int (Int32.ofNat j)), .val (.int (ff j))] [])
          refine gIload X2 hx (hb hby d6_49) rfl ?_
          refine gBipush X2 hx (13 : Int32) (hb hby d6_51) rfl ?_
          refine gIcmp X2 hx 60 (hb hby d6_53) (by decide) (by decide) (fun _ => ?_) (fun q => absurd (o_neF q) hc5)
          show Go _ _ _ _ _ _ _ T2 (mkF m 60 #[.val (.ref r0), .val (.ref r1), .val (.int (Int32.ofNat i)), .val (.int (Int32.ofNat t)), .val (.int ln'), .val (.int b'), .val (.int (Int32.ofNat j)), .val (.int (ff j))] [])
          refine gIconst X2 hx (0 : Int32) (hb hby d6_60) rfl ?_
          refine gIstore X2 hx #[.val (.ref r0), .val (.ref r1), .val (.int (Int32.ofNat i)), .val (.int (Int32.ofNat t)), .val (.int ln'), .val (.int (0 : Int32)), .val (.int (Int32.ofNat j)), .val (.int (ff j))] (hb hby d6_61) rfl ?_
          refine gIinc X2 hx (1 : Int32) #[.val (.ref r0), .val (.ref r1), .val (.int (Int32.ofNat i)), .val (.int (Int32.ofNat t)), .val (.int ln'), .val (.int (0 : Int32)), .val (.int ((Int32.ofNat j) + (1 : Int32))), .val (.int (ff j))] (hb hby d6_63) rfl rfl rfl ?_
          refine gGoto X2 hx 15 (hb hby d6_66) (by decide) (by decide) ?_
          rw [own_one j]
          refine ih (j + 1) ln' (0 : Int32) (ff j) (by omega) ?_ (by decide)
          have q1 : own_tl (ff j) ln' b' = ln' := ((if_neg hc5).trans (if_neg hc6))
          have q2 : own_tb (ff j) = (0 : Int32) := (if_neg hc5)
          have q3 : own_run ff k (j + 1) (own_tl (ff j) ln' b') (own_tb (ff j)) = (own_run ff (t - i) i ln bb) := hR
          rw [q1, q2] at q3
          exact q3
        · have hc6 := o_neF hT
          show Go _ _ _ _ _ _ _ T2 (mkF m 41 #[.val (.ref r0), .val (.ref r1), .val (.int (Int32.ofNat i)), .val (.int (Int32.ofNat t)), .val (.int ln'), .val (.int b'), .val (.int (Int32.ofNat j)), .val (.int (ff j))] [])
          refine gIload X2 hx (hb hby d6_41) rfl ?_
          refine gIf X2 hx 49 (hb hby d6_43) (by decide) (by decide) (fun hT => ?_) (fun hT => ?_)
          · have hc7 := o_neT hT
            show Go _ _ _ _ _ _ _ T2 (mkF m 49 #[.val (.ref r0), .val (.ref r1), .val (.int (Int32.ofNat i)), .val (.int (Int32.ofNat t)), .val (.int ln'), .val (.int b'), .val (.int (Int32.ofNat j)), .val (.int (ff j))] [])
            refine gIload X2 hx (hb hby d6_49) rfl ?_
            refine gBipush X2 hx (13 : Int32) (hb hby d6_51) rfl ?_
            refine gIcmp X2 hx 60 (hb hby d6_53) (by decide) (by decide) (fun _ => ?_) (fun q => absurd (o_neF q) hc5)
            show Go _ _ _ _ _ _ _ T2 (mkF m 60 #[.val (.ref r0), .val (.ref r1), .val (.int (Int32.ofNat i)), .val (.int (Int32.ofNat t)), .val (.int ln'), .val (.int b'), .val (.int (Int32.ofNat j)), .val (.int (ff j))] [])
            refine gIconst X2 hx (0 : Int32) (hb hby d6_60) rfl ?_
            refine gIstore X2 hx #[.val (.ref r0), .val (.ref r1), .val (.int (Int32.ofNat i)), .val (.int (Int32.ofNat t)), .val (.int ln'), .val (.int (0 : Int32)), .val (.int (Int32.ofNat j)), .val (.int (ff j))] (hb hby d6_61) rfl ?_
            refine gIinc X2 hx (1 : Int32) #[.val (.ref r0), .val (.ref r1), .val (.int (Int32.ofNat i)), .val (.int (Int32.ofNat t)), .val (.int ln'), .val (.int (0 : Int32)), .val (.int ((Int32.ofNat j) + (1 : Int32))), .val (.int (ff j))] (hb hby d6_63) rfl rfl rfl ?_
            refine gGoto X2 hx 15 (hb hby d6_66) (by decide) (by decide) ?_
            rw [own_one j]
            refine ih (j + 1) ln' (0 : Int32) (ff j) (by omega) ?_ (by decide)
            have q1 : own_tl (ff j) ln' b' = ln' := ((if_neg hc5).trans ((if_pos hc6).trans (if_neg hc7)))
            have q2 : own_tb (ff j) = (0 : Int32) := (if_neg hc5)
            have q3 : own_run ff k (j + 1) (own_tl (ff j) ln' b') (own_tb (ff j)) = (own_run ff (t - i) i ln bb) := hR
            rw [q1, q2] at q3
            exact q3
          · have hc7 := o_neF hT
            show Go _ _ _ _ _ _ _ T2 (mkF m 46 #[.val (.ref r0), .val (.ref r1), .val (.int (Int32.ofNat i)), .val (.int (Int32.ofNat t)), .val (.int ln'), .val (.int b'), .val (.int (Int32.ofNat j)), .val (.int (ff j))] [])
            refine gIinc X2 hx (1 : Int32) #[.val (.ref r0), .val (.ref r1), .val (.int (Int32.ofNat i)), .val (.int (Int32.ofNat t)), .val (.int (ln' + (1 : Int32))), .val (.int b'), .val (.int (Int32.ofNat j)), .val (.int (ff j))] (hb hby d6_46) rfl rfl rfl ?_
            refine gIload X2 hx (hb hby d6_49) rfl ?_
            refine gBipush X2 hx (13 : Int32) (hb hby d6_51) rfl ?_
            refine gIcmp X2 hx 60 (hb hby d6_53) (by decide) (by decide) (fun _ => ?_) (fun q => absurd (o_neF q) hc5)
            show Go _ _ _ _ _ _ _ T2 (mkF m 60 #[.val (.ref r0), .val (.ref r1), .val (.int (Int32.ofNat i)), .val (.int (Int32.ofNat t)), .val (.int (ln' + (1 : Int32))), .val (.int b'), .val (.int (Int32.ofNat j)), .val (.int (ff j))] [])
            refine gIconst X2 hx (0 : Int32) (hb hby d6_60) rfl ?_
            refine gIstore X2 hx #[.val (.ref r0), .val (.ref r1), .val (.int (Int32.ofNat i)), .val (.int (Int32.ofNat t)), .val (.int (ln' + (1 : Int32))), .val (.int (0 : Int32)), .val (.int (Int32.ofNat j)), .val (.int (ff j))] (hb hby d6_61) rfl ?_
            refine gIinc X2 hx (1 : Int32) #[.val (.ref r0), .val (.ref r1), .val (.int (Int32.ofNat i)), .val (.int (Int32.ofNat t)), .val (.int (ln' + (1 : Int32))), .val (.int (0 : Int32)), .val (.int ((Int32.ofNat j) + (1 : Int32))), .val (.int (ff j))] (hb hby d6_63) rfl rfl rfl ?_
            refine gGoto X2 hx 15 (hb hby d6_66) (by decide) (by decide) ?_
            rw [own_one j]
            refine ih (j + 1) (ln' + (1 : Int32)) (0 : Int32) (ff j) (by omega) ?_ (by decide)
            have q1 : own_tl (ff j) ln' b' = (ln' + (1 : Int32)) := ((if_neg hc5).trans ((if_pos hc6).trans (if_pos hc7)))
            have q2 : own_tb (ff j) = (0 : Int32) := (if_neg hc5)
            have q3 : own_run ff k (j + 1) (own_tl (ff j) ln' b') (own_tb (ff j)) = (own_run ff (t - i) i ln bb) := hR
            rw [q1, q2] at q3
            exact q3
  by_cases hij : i < t
  · skip
    obtain ⟨k0, hk0⟩ : ∃ k0, t - i = k0 + 1 := ⟨t - i - 1, by omega⟩
    have hR0 : own_run ff k0 (i + 1) (own_tl (ff i) ln bb) (own_tb (ff i)) = (own_run ff (t - i) i ln bb) := by rw [hk0]; rfl
    show Go _ _ _ _ _ _ _ T2 (mkF m 15 #[.val (.ref r0), .val (.ref r1), .val (.int (Int32.ofNat i)), .val (.int (Int32.ofNat t)), .val (.int ln), .val (.int bb), .val (.int (Int32.ofNat i)), .unset] [])
    refine gIload X2 hx (hb hby d6_15) rfl ?_
    refine gIloadN X2 hx (hb hby d6_17) rfl ?_
    refine gIcmp X2 hx 69 (hb hby d6_18) (by decide) (by decide) (fun q => absurd ((own_lt (by omega) (by omega)).mpr hij) (o_geT q)) (fun _ => ?_)
    show Go _ _ _ _ _ _ _ T2 (mkF m 21 #[.val (.ref r0), .val (.ref r1), .val (.int (Int32.ofNat i)), .val (.int (Int32.ofNat t)), .val (.int ln), .val (.int bb), .val (.int (Int32.ofNat i)), .unset] [])
    refine gAloadN X2 hx (hb hby d6_21) rfl rfl ?_
    refine gIload X2 hx (hb hby d6_22) rfl ?_
    refine gBaload X2 hx hZ e2 V0 ⟨own_nn (by omega), by rw [own_n32 (by omega)]; omega⟩ (hb hby d6_24) ?_
    rw [own_n32 (by omega)]
    show Go _ _ _ _ _ _ _ T2 (mkF m 25 #[.val (.ref r0), .val (.ref r1), .val (.int (Int32.ofNat i)), .val (.int (Int32.ofNat t)), .val (.int ln), .val (.int bb), .val (.int (Int32.ofNat i)), .unset] [(.int (ff i))])
    refine gIstore X2 hx #[.val (.ref r0), .val (.ref r1), .val (.int (Int32.ofNat i)), .val (.int (Int32.ofNat t)), .val (.int ln), .val (.int bb), .val (.int (Int32.ofNat i)), .val (.int (ff i))] (hb hby d6_25) rfl ?_
    refine gIload X2 hx (hb hby d6_27) rfl ?_
    refine gBipush X2 hx (13 : Int32) (hb hby d6_29) rfl ?_
    refine gIcmp X2 hx 46 (hb hby d6_31) (by decide) (by decide) (fun hT => ?_) (fun hT => ?_)
    · have hc8 := o_eqT hT
      show Go _ _ _ _ _ _ _ T2 (mkF m 46 #[.val (.ref r0), .val (.ref r1), .val (.int (Int32.ofNat i)), .val (.int (Int32.ofNat t)), .val (.int ln), .val (.int bb), .val (.int (Int32.ofNat i)), .val (.int (ff i))] [])
      refine gIinc X2 hx (1 : Int32) #[.val (.ref r0), .val (.ref r1), .val (.int (Int32.ofNat i)), .val (.int (Int32.ofNat t)), .val (.int (ln + (1 : Int32))), .val (.int bb), .val (.int (Int32.ofNat i)), .val (.int (ff i))] (hb hby d6_46) rfl rfl rfl ?_
      refine gIload X2 hx (hb hby d6_49) rfl ?_
      refine gBipush X2 hx (13 : Int32) (hb hby d6_51) rfl ?_
      refine gIcmp X2 hx 60 (hb hby d6_53) (by decide) (by decide) (fun q => absurd hc8 (o_neT q)) (fun _ => ?_)
      show Go _ _ _ _ _ _ _ T2 (mkF m 56 #[.val (.ref r0), .val (.ref r1), .val (.int (Int32.ofNat i)), .val (.int (Int32.ofNat t)), .val (.int (ln + (1 : Int32))), .val (.int bb), .val (.int (Int32.ofNat i)), .val (.int (ff i))] [])
      refine gIconst X2 hx (1 : Int32) (hb hby d6_56) rfl ?_
      refine gGoto X2 hx 61 (hb hby d6_57) (by decide) (by decide) ?_
      refine gIstore X2 hx #[.val (.ref r0), .val (.ref r1), .val (.int (Int32.ofNat i)), .val (.int (Int32.ofNat t)), .val (.int (ln + (1 : Int32))), .val (.int (1 : Int32)), .val (.int (Int32.ofNat i)), .val (.int (ff i))] (hb hby d6_61) rfl ?_
      refine gIinc X2 hx (1 : Int32) #[.val (.ref r0), .val (.ref r1), .val (.int (Int32.ofNat i)), .val (.int (Int32.ofNat t)), .val (.int (ln + (1 : Int32))), .val (.int (1 : Int32)), .val (.int ((Int32.ofNat i) + (1 : Int32))), .val (.int (ff i))] (hb hby d6_63) rfl rfl rfl ?_
      refine gGoto X2 hx 15 (hb hby d6_66) (by decide) (by decide) ?_
      rw [own_one i]
      refine loop k0 (i + 1) (ln + (1 : Int32)) (1 : Int32) (ff i) (by omega) ?_ (by decide)
      have q1 : own_tl (ff i) ln bb = (ln + (1 : Int32)) := (if_pos hc8)
      have q2 : own_tb (ff i) = (1 : Int32) := (if_pos hc8)
      have q3 : own_run ff k0 (i + 1) (own_tl (ff i) ln bb) (own_tb (ff i)) = (own_run ff (t - i) i ln bb) := hR0
      rw [q1, q2] at q3
      exact q3
    · have hc8 := o_eqF hT
      show Go _ _ _ _ _ _ _ T2 (mkF m 34 #[.val (.ref r0), .val (.ref r1), .val (.int (Int32.ofNat i)), .val (.int (Int32.ofNat t)), .val (.int ln), .val (.int bb), .val (.int (Int32.ofNat i)), .val (.int (ff i))] [])
      refine gIload X2 hx (hb hby d6_34) rfl ?_
      refine gBipush X2 hx (10 : Int32) (hb hby d6_36) rfl ?_
      refine gIcmp X2 hx 49 (hb hby d6_38) (by decide) (by decide) (fun hT => ?_) (fun hT => ?_)
      · have hc9 := o_neT hT
        show Go _ _ _ _ _ _ _ T2 (mkF m 49 #[.val (.ref r0), .val (.ref r1), .val (.int (Int32.ofNat i)), .val (.int (Int32.ofNat t)), .val (.int ln), .val (.int bb), .val (.int (Int32.ofNat i)), .val (.int (ff i))] [])
        refine gIload X2 hx (hb hby d6_49) rfl ?_
        refine gBipush X2 hx (13 : Int32) (hb hby d6_51) rfl ?_
        refine gIcmp X2 hx 60 (hb hby d6_53) (by decide) (by decide) (fun _ => ?_) (fun q => absurd (o_neF q) hc8)
        show Go _ _ _ _ _ _ _ T2 (mkF m 60 #[.val (.ref r0), .val (.ref r1), .val (.int (Int32.ofNat i)), .val (.int (Int32.ofNat t)), .val (.int ln), .val (.int bb), .val (.int (Int32.ofNat i)), .val (.int (ff i))] [])
        refine gIconst X2 hx (0 : Int32) (hb hby d6_60) rfl ?_
        refine gIstore X2 hx #[.val (.ref r0), .val (.ref r1), .val (.int (Int32.ofNat i)), .val (.int (Int32.ofNat t)), .val (.int ln), .val (.int (0 : Int32)), .val (.int (Int32.ofNat i)), .val (.int (ff i))] (hb hby d6_61) rfl ?_
        refine gIinc X2 hx (1 : Int32) #[.val (.ref r0), .val (.ref r1), .val (.int (Int32.ofNat i)), .val (.int (Int32.ofNat t)), .val (.int ln), .val (.int (0 : Int32)), .val (.int ((Int32.ofNat i) + (1 : Int32))), .val (.int (ff i))] (hb hby d6_63) rfl rfl rfl ?_
        refine gGoto X2 hx 15 (hb hby d6_66) (by decide) (by decide) ?_
        rw [own_one i]
        refine loop k0 (i + 1) ln (0 : Int32) (ff i) (by omega) ?_ (by decide)
        have q1 : own_tl (ff i) ln bb = ln := ((if_neg hc8).trans (if_neg hc9))
        have q2 : own_tb (ff i) = (0 : Int32) := (if_neg hc8)
        have q3 : own_run ff k0 (i + 1) (own_tl (ff i) ln bb) (own_tb (ff i)) = (own_run ff (t - i) i ln bb) := hR0
        rw [q1, q2] at q3
        exact q3
      · have hc9 := o_neF hT
        show Go _ _ _ _ _ _ _ T2 (mkF m 41 #[.val (.ref r0), .val (.ref r1), .val (.int (Int32.ofNat i)), .val (.int (Int32.ofNat t)), .val (.int ln), .val (.int bb), .val (.int (Int32.ofNat i)), .val (.int (ff i))] [])
        refine gIload X2 hx (hb hby d6_41) rfl ?_
        refine gIf X2 hx 49 (hb hby d6_43) (by decide) (by decide) (fun hT => ?_) (fun hT => ?_)
        · have hc10 := o_neT hT
          show Go _ _ _ _ _ _ _ T2 (mkF m 49 #[.val (.ref r0), .val (.ref r1), .val (.int (Int32.ofNat i)), .val (.int (Int32.ofNat t)), .val (.int ln), .val (.int bb), .val (.int (Int32.ofNat i)), .val (.int (ff i))] [])
          refine gIload X2 hx (hb hby d6_49) rfl ?_
          refine gBipush X2 hx (13 : Int32) (hb hby d6_51) rfl ?_
          refine gIcmp X2 hx 60 (hb hby d6_53) (by decide) (by decide) (fun _ => ?_) (fun q => absurd (o_neF q) hc8)
          show Go _ _ _ _ _ _ _ T2 (mkF m 60 #[.val (.ref r0), .val (.ref r1), .val (.int (Int32.ofNat i)), .val (.int (Int32.ofNat t)), .val (.int ln), .val (.int bb), .val (.int (Int32.ofNat i)), .val (.int (ff i))] [])
          refine gIconst X2 hx (0 : Int32) (hb hby d6_60) rfl ?_
          refine gIstore X2 hx #[.val (.ref r0), .val (.ref r1), .val (.int (Int32.ofNat i)), .val (.int (Int32.ofNat t)), .val (.int ln), .val (.int (0 : Int32)), .val (.int (Int32.ofNat i)), .val (.int (ff i))] (hb hby d6_61) rfl ?_
          refine gIinc X2 hx (1 : Int32) #[.val (.ref r0), .val (.ref r1), .val (.int (Int32.ofNat i)), .val (.int (Int32.ofNat t)), .val (.int ln), .val (.int (0 : Int32)), .val (.int ((Int32.ofNat i) + (1 : Int32))), .val (.int (ff i))] (hb hby d6_63) rfl rfl rfl ?_
          refine gGoto X2 hx 15 (hb hby d6_66) (by decide) (by decide) ?_
          rw [own_one i]
          refine loop k0 (i + 1) ln (0 : Int32) (ff i) (by omega) ?_ (by decide)
          have q1 : own_tl (ff i) ln bb = ln := ((if_neg hc8).trans ((if_pos hc9).trans (if_neg hc10)))
          have q2 : own_tb (ff i) = (0 : Int32) := (if_neg hc8)
          have q3 : own_run ff k0 (i + 1) (own_tl (ff i) ln bb) (own_tb (ff i)) = (own_run ff (t - i) i ln bb) := hR0
          rw [q1, q2] at q3
          exact q3
        · have hc10 := o_neF hT
          show Go _ _ _ _ _ _ _ T2 (mkF m 46 #[.val (.ref r0), .val (.ref r1), .val (.int (Int32.ofNat i)), .val (.int (Int32.ofNat t)), .val (.int ln), .val (.int bb), .val (.int (Int32.ofNat i)), .val (.int (ff i))] [])
          refine gIinc X2 hx (1 : Int32) #[.val (.ref r0), .val (.ref r1), .val (.int (Int32.ofNat i)), .val (.int (Int32.ofNat t)), .val (.int (ln + (1 : Int32))), .val (.int bb), .val (.int (Int32.ofNat i)), .val (.int (ff i))] (hb hby d6_46) rfl rfl rfl ?_
          refine gIload X2 hx (hb hby d6_49) rfl ?_
          refine gBipush X2 hx (13 : Int32) (hb hby d6_51) rfl ?_
          refine gIcmp X2 hx 60 (hb hby d6_53) (by decide) (by decide) (fun _ => ?_) (fun q => absurd (o_neF q) hc8)
          show Go _ _ _ _ _ _ _ T2 (mkF m 60 #[.val (.ref r0), .val (.ref r1), .val (.int (Int32.ofNat i)), .val (.int (Int32.ofNat t)), .val (.int (ln + (1 : Int32))), .val (.int bb), .val (.int (Int32.ofNat i)), .val (.int (ff i))] [])
          refine gIconst X2 hx (0 : Int32) (hb hby d6_60) rfl ?_
          refine gIstore X2 hx #[.val (.ref r0), .val (.ref r1), .val (.int (Int32.ofNat i)), .val (.int (Int32.ofNat t)), .val (.int (ln + (1 : Int32))), .val (.int (0 : Int32)), .val (.int (Int32.ofNat i)), .val (.int (ff i))] (hb hby d6_61) rfl ?_
          refine gIinc X2 hx (1 : Int32) #[.val (.ref r0), .val (.ref r1), .val (.int (Int32.ofNat i)), .val (.int (Int32.ofNat t)), .val (.int (ln + (1 : Int32))), .val (.int (0 : Int32)), .val (.int ((Int32.ofNat i) + (1 : Int32))), .val (.int (ff i))] (hb hby d6_63) rfl rfl rfl ?_
          refine gGoto X2 hx 15 (hb hby d6_66) (by decide) (by decide) ?_
          rw [own_one i]
          refine loop k0 (i + 1) (ln + (1 : Int32)) (0 : Int32) (ff i) (by omega) ?_ (by decide)
          have q1 : own_tl (ff i) ln bb = (ln + (1 : Int32)) := ((if_neg hc8).trans ((if_pos hc9).trans (if_pos hc10)))
          have q2 : own_tb (ff i) = (0 : Int32) := (if_neg hc8)
          have q3 : own_run ff k0 (i + 1) (own_tl (ff i) ln bb) (own_tb (ff i)) = (own_run ff (t - i) i ln bb) := hR0
          rw [q1, q2] at q3
          exact q3
  · skip
    have hR : own_run ff 0 i ln bb = (own_run ff (t - i) i ln bb) := by rw [show t - i = 0 by omega]
    show Go _ _ _ _ _ _ _ T2 (mkF m 15 #[.val (.ref r0), .val (.ref r1), .val (.int (Int32.ofNat i)), .val (.int (Int32.ofNat t)), .val (.int ln), .val (.int bb), .val (.int (Int32.ofNat i)), .unset] [])
    refine gIload X2 hx (hb hby d6_15) rfl ?_
    refine gIloadN X2 hx (hb hby d6_17) rfl ?_
    refine gIcmp X2 hx 69 (hb hby d6_18) (by decide) (by decide) (fun _ => ?_) (fun q => absurd (o_geF q) (fun q => absurd ((own_lt (by omega) (by omega)).mp q) hij))
    show Go _ _ _ _ _ _ _ T2 (mkF m 69 #[.val (.ref r0), .val (.ref r1), .val (.int (Int32.ofNat i)), .val (.int (Int32.ofNat t)), .val (.int ln), .val (.int bb), .val (.int (Int32.ofNat i)), .unset] [])
    refine gAloadN X2 hx (hb hby d6_69) rfl rfl ?_
    refine gIload X2 hx (hb hby d6_70) rfl ?_
    refine gPutF X2 hx hZ hown (tw hw 14 rfl) e2 F0 E0 (Or.inl (tw hw 15 rfl)) (tw hw 6 rfl) (ty := .int) (by decide) rfl rfl (hb hby d6_72) ?_
    intro T11 h11 X11 e11 W11
    have F0__11 := F0.same W11
    have E0__11 := E0.wr W11
    have G0__11 := G0.other W11 (Or.inr (slot_ne (Or.inl (tw hw 22 rfl)) (Or.inl (tw hw 15 rfl)) (by decide) (t := .boolean) (t' := .int) (by decide) (by decide)))
    have V0__11 := V0.other W11 (Ne.symm hne)
    have Z_11 := Nat.le_trans Z0 (Nat.le_of_eq W11.size.symm)
    have K_11 : Keep h0 h11 [r0] := (Keep.refl h0 [r0]).wr W11 (Or.inl (List.mem_of_getElem? (i := 0) rfl))
    have N_11 := Fr.snoc X11 N0 g0
    show Go _ _ _ _ _ _ _ T11 (mkF m 75 #[.val (.ref r0), .val (.ref r1), .val (.int (Int32.ofNat i)), .val (.int (Int32.ofNat t)), .val (.int ln), .val (.int bb), .val (.int (Int32.ofNat i)), .unset] [])
    refine gAloadN X11 hx (hb hby d6_75) rfl rfl ?_
    refine gIload X11 hx (hb hby d6_76) rfl ?_
    refine gPutFN X11 hx hZ hown (tw hw 21 rfl) e11 (.int bb) G0__11 E0__11 (Or.inl (tw hw 22 rfl)) (tw hw 6 rfl) (ty := .boolean) (by decide) (own_nz hb0) (own_fz hb0) (hb hby d6_78) ?_
    intro T12 h12 X12 e12 W12
    have G0__12 := G0__11.same W12
    have E0__12 := E0__11.wr W12
    have F0__12 := F0__11.other W12 (Or.inr (slot_ne (Or.inl (tw hw 15 rfl)) (Or.inl (tw hw 22 rfl)) (by decide) (t := .int) (t' := .boolean) (by decide) (by decide)))
    have V0__12 := V0__11.other W12 (Ne.symm hne)
    have Z_12 := Nat.le_trans Z_11 (Nat.le_of_eq W12.size.symm)
    have K_12 : Keep h0 h12 [r0] := K_11.wr W12 (Or.inl (List.mem_of_getElem? (i := 0) rfl))
    have N_12 := Fr.snoc X12 N_11 g0
    show Go _ _ _ _ _ _ _ T12 (mkF m 81 #[.val (.ref r0), .val (.ref r1), .val (.int (Int32.ofNat i)), .val (.int (Int32.ofNat t)), .val (.int ln), .val (.int bb), .val (.int (Int32.ofNat i)), .unset] [])
    subst e12
    exact gRetV X12 hx hlk hret (hb hby d6_81) (by decide) (by decide) ⟨rfl, N_12, K_12, E0__12, by rw [← hR]; exact F0__12, by rw [← hR]; exact G0__12⟩
theorem own_tb01 (u : Int32) : own_tb u = 0 ∨ own_tb u = 1 := by
  unfold own_tb; split
  · exact Or.inr rfl
  · exact Or.inl rfl
theorem own_stepB (f : Nat → Int32) {j i t : Nat} (ln c : Int32) (h1 : i ≤ j) (h2 : j < t) : own_tl (f j) ln (own_pv f j i c) = ln + own_brk f j i t c := by
  unfold own_brk
  rw [if_neg (by omega), if_pos h2]
  unfold own_tl
  by_cases q1 : f j = 13
  · rw [if_pos q1, if_pos q1]
  · rw [if_neg q1, if_neg q1]
    by_cases q2 : f j = 10
    · rw [if_pos q2, if_pos q2]
      by_cases q3 : own_pv f j i c = 0
      · rw [if_pos q3, if_pos q3]
      · rw [if_neg q3, if_neg q3, Int32.add_zero]
    · rw [if_neg q2, if_neg q2, Int32.add_zero]
theorem own_pv0 (f : Nat → Int32) (i : Nat) (c : Int32) : own_pv f i i c = c := if_pos rfl
theorem own_pvS (f : Nat → Int32) {j i : Nat} (c : Int32) (h : i < j + 1) : own_pv f (j + 1) i c = own_tb (f j) := if_neg (by omega)
/-- the breaks of the places from j on, up to t -/
def own_sum (f : Nat → Int32) (i t : Nat) (c : Int32) : Nat → Nat → Int32 → Int32
  | 0, _, s => s
  | k + 1, j, s => own_sum f i t c k (j + 1) (s + own_brk f j i t c)
theorem own_runsum (f : Nat → Int32) (i t : Nat) (c : Int32) : ∀ (k j : Nat) (ln : Int32), i ≤ j → j + k = t → (own_run f k j ln (own_pv f j i c)).1 = own_sum f i t c k j ln
  | 0, _, _, _, _ => rfl
  | k + 1, j, ln, h1, h2 => by
    show (own_run f k (j + 1) (own_tl (f j) ln (own_pv f j i c)) (own_tb (f j))).1 = own_sum f i t c k (j + 1) (ln + own_brk f j i t c)
    rw [own_stepB f ln c h1 (show j < t by omega), ← own_pvS f (j := j) (i := i) c (by omega)]
    exact own_runsum f i t c k (j + 1) _ (by omega) (by omega)
theorem own_out (f : Nat → Int32) {j i t : Nat} (c : Int32) (h : j < i ∨ t ≤ j) : own_brk f j i t c = 0 := by
  unfold own_brk
  by_cases q : j < i
  · rw [if_pos q]
  · rw [if_neg q, if_neg (by omega)]
theorem own_total (f : Nat → Int32) {i t : Nat} (s c : Int32) (hit : i ≤ t) (ht : t ≤ 4) : (own_run f (t - i) i s c).1 = (((s + own_brk f 0 i t c) + own_brk f 1 i t c) + own_brk f 2 i t c) + own_brk f 3 i t c := by
  have h := own_runsum f i t c (t - i) i s (Nat.le_refl _) (by omega)
  rw [own_pv0] at h
  rw [h]
  have z0 := own_out f (j := 0) (i := i) (t := t) c
  have z1 := own_out f (j := 1) (i := i) (t := t) c
  have z2 := own_out f (j := 2) (i := i) (t := t) c
  have z3 := own_out f (j := 3) (i := i) (t := t) c
  have ei : i = 0 ∨ i = 1 ∨ i = 2 ∨ i = 3 ∨ i = 4 := by omega
  have et : t = 0 ∨ t = 1 ∨ t = 2 ∨ t = 3 ∨ t = 4 := by omega
  rcases ei with rfl | rfl | rfl | rfl | rfl <;> rcases et with rfl | rfl | rfl | rfl | rfl <;> first
    | (exfalso; omega)
    | (simp only [Nat.reduceSub, own_sum]; (try rw [z0 (by decide)]); (try rw [z1 (by decide)]); (try rw [z2 (by decide)]); (try rw [z3 (by decide)]); (try simp only [Int32.add_zero]))
theorem own_endS (f : Nat → Int32) : ∀ (k i : Nat) (ln c : Int32), (own_run f (k + 1) i ln c).2 = own_tb (f (i + k))
  | 0, _, _, _ => rfl
  | k + 1, i, ln, c => by
    show (own_run f (k + 1) (i + 1) _ _).2 = _
    rw [own_endS f k (i + 1), show i + 1 + k = i + (k + 1) by omega]
theorem own_endA (f : Nat → Int32) {i t : Nat} (ln c : Int32) (hit : i ≤ t) (h : ¬ i < t) : (own_run f (t - i) i ln c).2 = c := by
  rw [show t - i = 0 by omega]; rfl
theorem own_endB (f : Nat → Int32) {i t : Nat} (ln c : Int32) (h : i < t) : (own_run f (t - i) i ln c).2 = own_tb (f (t - 1)) := by
  obtain ⟨k, hk⟩ : ∃ k, t - i = k + 1 := ⟨t - i - 1, by omega⟩
  rw [hk, own_endS, show i + k = t - 1 by omega]
theorem own_aft0 {ln b x : Int32} (h : b = 0) (q : ln = x) : own_tl (10 : Int32) ln b = x + (1 : Int32) := by
  subst h q; rfl
theorem own_aft1 {ln b x : Int32} (h : b = 1) (q : ln = x) : own_tl (10 : Int32) ln b = x + (0 : Int32) := by
  subst h q; rw [Int32.add_zero]; rfl
theorem own_pn7 : plainFor x = true := plainFor_of_name (by first | (simp [plainName, overriddenIn]; done) | decide +kernel)
theorem own_ef7 (p0 : Int32) (p1 : Int32) (p2 : Int32) (p3 : Int32) (p4 : Int32) (p5 : Int32) (m : MethodId) : entryFrame m #[(.int p0), (.int p1), (.int p2), (.int p3), (.int p4), (.int p5)] maxLocals = mkF m 0 #[.val (.int p0), .val (.int p1), .val (.int p2), .val (.int p3), .val (.int p4), .val (.int p5), .unset, .unset, .unset, .unset, .unset, .unset, .unset, .unset, .unset, .unset] [] := by first | (simp [entryFrame, mkF, argsToLocals, Value.category, maxLocals]; done) | rfl
theorem own_pd6 : parseMethodDescriptor "(IIIIII)Z" = some ⟨[.int, .int, .int, .int, .int, .int], some .boolean⟩ := by decide +kernel
set_option maxRecDepth 65536 in
set_option maxHeartbeats 40000000 in
theorem own_rm7 (l : Launch) (Z : State) (a0 : Array Value) (hw : ∀ d ∈ tables_1, d.before a0 Z = true) (p0 : Int32) (p1 : Int32) (p2 : Int32) (p3 : Int32) (p4 : Int32) (p5 : Int32) (h0 : Heap) (n0 : Nat) (Z0 : n0 ≤ h0.size)  :
    Met l Z x code maxLocals ret tables_1 room_1 #[(.int p0), (.int p1), (.int p2), (.int p3), (.int p4), (.int p5)] h0 (fun v h L => v = some (.int 1) ∧ Fr n0 L) := by
  refine met_of (Ls := #[.val (.int p0), .val (.int p1), .val (.int p2), .val (.int p3), .val (.int p4), .val (.int p5), .unset, .unset, .unset, .unset, .unset, .unset, .unset, .unset, .unset, .unset]) own_pn7 (own_ef7 p0 p1 p2 p3 p4 p5) ?_
  intro p e s m below meth c s₁ hx hby hml hown hnm hret hlk hZ X0 e0
  have N0 := Fr.nil n0
  refine gIconst X0 hx (4 : Int32) (hb hby at_0) rfl ?_
  refine gNewArr X0 hx hZ (tw hw 0 rfl) e0 (hb hby at_1) (by decide) (cap := 4) (by decide) (by decide) (by decide) (by decide) ?_
  intro T1 h1 b1 cA1 X1 e1 E1 g1 A1
  have g_b1 : n0 ≤ b1 := by rw [g1]; exact Z0
  have Z_1 := Nat.le_trans Z0 E1.1
  have V1 : IA Z h1 b1 .byte 4 (fun _ => 0) := (IA.new rfl A1)
  show Go _ _ _ _ _ _ _ T1 (mkF m 3 #[.val (.int p0), .val (.int p1), .val (.int p2), .val (.int p3), .val (.int p4), .val (.int p5), .unset, .unset, .unset, .unset, .unset, .unset, .unset, .unset, .unset, .unset] [(.ref b1)])
  refine gDup X1 hx (hb hby at_3) rfl ?_
  refine gIconst X1 hx (0 : Int32) (hb hby at_4) rfl ?_
  refine gIloadN X1 hx (hb hby at_5) rfl ?_
  refine gStatic X1 hx hZ (y := (⟨"com/example/renkei/renkei/reader/LineCountTakePinLaw", "unit", "(I)B"⟩ : MethodName)) hown (by decide) (tw hw 1 rfl) (tw hw 2 rfl) (tw hw 3 rfl) (tw hw 4 rfl) (own_rm0 l Z a0 hw p0 h1 n0 Z_1) e1 (by rw [hml]; rfl) (argsL := [(.int p0)]) (rest := [(.int (0 : Int32)), (.ref b1), (.ref b1)]) (W := 3) (lenOf own_pd0 rfl) rfl (Nat.le_of_eq rfl) (by decide) (by decide) (by decide) (by decide) (hb hby at_6) ?_
  rintro _ T2 L2 X2 ⟨rfl, Nq2, e2⟩
  have N_2 := Fr.app N0 Nq2
  show Go _ _ _ _ _ _ _ T2 (mkF m 9 #[.val (.int p0), .val (.int p1), .val (.int p2), .val (.int p3), .val (.int p4), .val (.int p5), .unset, .unset, .unset, .unset, .unset, .unset, .unset, .unset, .unset, .unset] [(.int (own_unit p0)), (.int (0 : Int32)), (.ref b1), (.ref b1)])
  refine gBastore X2 hx hZ e2 V1 0 rfl ⟨by decide, by decide⟩ (hb hby at_9) ?_
  intro T3 h3 X3 e3 W3 V1__3
  have Z_3 := Nat.le_trans Z_1 (Nat.le_of_eq W3.size.symm)
  have N_3 := Fr.snoc X3 N_2 g_b1
  show Go _ _ _ _ _ _ _ T3 (mkF m 10 #[.val (.int p0), .val (.int p1), .val (.int p2), .val (.int p3), .val (.int p4), .val (.int p5), .unset, .unset, .unset, .unset, .unset, .unset, .unset, .unset, .unset, .unset] [(.ref b1)])
  obtain ⟨f3, V3_⟩ : ∃ f, IA Z h3 b1 .byte 4 f := ⟨_, V1__3⟩
  refine gDup X3 hx (hb hby at_10) rfl ?_
  refine gIconst X3 hx (1 : Int32) (hb hby at_11) rfl ?_
  refine gIloadN X3 hx (hb hby at_12) rfl ?_
  refine gStatic X3 hx hZ (y := (⟨"com/example/renkei/renkei/reader/LineCountTakePinLaw", "unit", "(I)B"⟩ : MethodName)) hown (by decide) (tw hw 1 rfl) (tw hw 2 rfl) (tw hw 3 rfl) (tw hw 4 rfl) (own_rm0 l Z a0 hw p1 h3 n0 Z_3) e3 (by rw [hml]; rfl) (argsL := [(.int p1)]) (rest := [(.int (1 : Int32)), (.ref b1), (.ref b1)]) (W := 3) (lenOf own_pd0 rfl) rfl (Nat.le_of_eq rfl) (by decide) (by decide) (by decide) (by decide) (hb hby at_13) ?_
  rintro _ T4 L4 X4 ⟨rfl, Nq4, e4⟩
  have N_4 := Fr.app N_3 Nq4
  show Go _ _ _ _ _ _ _ T4 (mkF m 16 #[.val (.int p0), .val (.int p1), .val (.int p2), .val (.int p3), .val (.int p4), .val (.int p5), .unset, .unset, .unset, .unset, .unset, .unset, .unset, .unset, .unset, .unset] [(.int (own_unit p1)), (.int (1 : Int32)), (.ref b1), (.ref b1)])
  refine gBastore X4 hx hZ e4 V3_ 1 rfl ⟨by decide, by decide⟩ (hb hby at_16) ?_
  intro T5 h5 X5 e5 W5 V3___5
  have Z_5 := Nat.le_trans Z_3 (Nat.le_of_eq W5.size.symm)
  have N_5 := Fr.snoc X5 N_4 g_b1
  show Go _ _ _ _ _ _ _ T5 (mkF m 17 #[.val (.int p0), .val (.int p1), .val (.int p2), .val (.int p3), .val (.int p4), .val (.int p5), .unset, .unset, .unset, .unset, .unset, .unset, .unset, .unset, .unset, .unset] [(.ref b1)])
  obtain ⟨f5, V5_⟩ : ∃ f, IA Z h5 b1 .byte 4 f := ⟨_, V3___5⟩
  refine gDup X5 hx (hb hby at_17) rfl ?_
  refine gIconst X5 hx (2 : Int32) (hb hby at_18) rfl ?_
  refine gIloadN X5 hx (hb hby at_19) rfl ?_
  refine gStatic X5 hx hZ (y := (⟨"com/example/renkei/renkei/reader/LineCountTakePinLaw", "unit", "(I)B"⟩ : MethodName)) hown (by decide) (tw hw 1 rfl) (tw hw 2 rfl) (tw hw 3 rfl) (tw hw 4 rfl) (own_rm0 l Z a0 hw p2 h5 n0 Z_5) e5 (by rw [hml]; rfl) (argsL := [(.int p2)]) (rest := [(.int (2 : Int32)), (.ref b1), (.ref b1)]) (W := 3) (lenOf own_pd0 rfl) rfl (Nat.le_of_eq rfl) (by decide) (by decide) (by decide) (by decide) (hb hby at_20) ?_
  rintro _ T6 L6 X6 ⟨rfl, Nq6, e6⟩
  have N_6 := Fr.app N_5 Nq6
  show Go _ _ _ _ _ _ _ T6 (mkF m 23 #[.val (.int p0), .val (.int p1), .val (.int p2), .val (.int p3), .val (.int p4), .val (.int p5), .unset, .unset, .unset, .unset, .unset, .unset, .unset, .unset, .unset, .unset] [(.int (own_unit p2)), (.int (2 : Int32)), (.ref b1), (.ref b1)])
  refine gBastore X6 hx hZ e6 V5_ 2 rfl ⟨by decide, by decide⟩ (hb hby at_23) ?_
  intro T7 h7 X7 e7 W7 V5___7
  have Z_7 := Nat.le_trans Z_5 (Nat.le_of_eq W7.size.symm)
  have N_7 := Fr.snoc X7 N_6 g_b1
  show Go _ _ _ _ _ _ _ T7 (mkF m 24 #[.val (.int p0), .val (.int p1), .val (.int p2), .val (.int p3), .val (.int p4), .val (.int p5), .unset, .unset, .unset, .unset, .unset, .unset, .unset, .unset, .unset, .unset] [(.ref b1)])
  obtain ⟨f7, V7_⟩ : ∃ f, IA Z h7 b1 .byte 4 f := ⟨_, V5___7⟩
  refine gDup X7 hx (hb hby at_24) rfl ?_
  refine gIconst X7 hx (3 : Int32) (hb hby at_25) rfl ?_
  refine gIloadN X7 hx (hb hby at_26) rfl ?_
  refine gStatic X7 hx hZ (y := (⟨"com/example/renkei/renkei/reader/LineCountTakePinLaw", "unit", "(I)B"⟩ : MethodName)) hown (by decide) (tw hw 1 rfl) (tw hw 2 rfl) (tw hw 3 rfl) (tw hw 4 rfl) (own_rm0 l Z a0 hw p3 h7 n0 Z_7) e7 (by rw [hml]; rfl) (argsL := [(.int p3)]) (rest := [(.int (3 : Int32)), (.ref b1), (.ref b1)]) (W := 3) (lenOf own_pd0 rfl) rfl (Nat.le_of_eq rfl) (by decide) (by decide) (by decide) (by decide) (hb hby at_27) ?_
  rintro _ T8 L8 X8 ⟨rfl, Nq8, e8⟩
  have N_8 := Fr.app N_7 Nq8
  show Go _ _ _ _ _ _ _ T8 (mkF m 30 #[.val (.int p0), .val (.int p1), .val (.int p2), .val (.int p3), .val (.int p4), .val (.int p5), .unset, .unset, .unset, .unset, .unset, .unset, .unset, .unset, .unset, .unset] [(.int (own_unit p3)), (.int (3 : Int32)), (.ref b1), (.ref b1)])
  refine gBastore X8 hx hZ e8 V7_ 3 rfl ⟨by decide, by decide⟩ (hb hby at_30) ?_
  intro T9 h9 X9 e9 W9 V7___9
  have Z_9 := Nat.le_trans Z_7 (Nat.le_of_eq W9.size.symm)
  have N_9 := Fr.snoc X9 N_8 g_b1
  show Go _ _ _ _ _ _ _ T9 (mkF m 31 #[.val (.int p0), .val (.int p1), .val (.int p2), .val (.int p3), .val (.int p4), .val (.int p5), .unset, .unset, .unset, .unset, .unset, .unset, .unset, .unset, .unset, .unset] [(.ref b1)])
  obtain ⟨f9, V9_⟩ : ∃ f, IA Z h9 b1 .byte 4 f := ⟨_, V7___9⟩
  refine gAstore X9 hx #[.val (.int p0), .val (.int p1), .val (.int p2), .val (.int p3), .val (.int p4), .val (.int p5), .val (.ref b1), .unset, .unset, .unset, .unset, .unset, .unset, .unset, .unset, .unset] (hb hby at_31) rfl rfl ?_
  refine gIload X9 hx (hb hby at_33) rfl ?_
  refine gBipush X9 hx (7 : Int32) (hb hby at_35) rfl ?_
  refine gIand X9 hx (hb hby at_37) ?_
  refine gIconst X9 hx (5 : Int32) (hb hby at_38) rfl ?_
  refine gIrem X9 hx (hb hby at_39) (by decide) ?_
  obtain ⟨i, hi, hie⟩ := own_from p5
  rw [hie]
  have hfnz := own_fnz hi
  refine gIstore X9 hx #[.val (.int p0), .val (.int p1), .val (.int p2), .val (.int p3), .val (.int p4), .val (.int p5), .val (.ref b1), .val (.int (Int32.ofNat i)), .unset, .unset, .unset, .unset, .unset, .unset, .unset, .unset] (hb hby at_40) rfl ?_
  refine gIload X9 hx (hb hby at_42) rfl ?_
  refine gIload X9 hx (hb hby at_44) rfl ?_
  refine gIconst X9 hx (3 : Int32) (hb hby at_46) rfl ?_
  refine gIushr X9 hx (hb hby at_47) ?_
  refine gBipush X9 hx (7 : Int32) (hb hby at_48) rfl ?_
  refine gIand X9 hx (hb hby at_50) ?_
  refine gIconst X9 hx (5 : Int32) (hb hby at_51) rfl ?_
  refine gIload X9 hx (hb hby at_52) rfl ?_
  refine gIsub X9 hx (hb hby at_54) ?_
  refine gIrem X9 hx (hb hby at_55) hfnz ?_
  refine gIadd X9 hx (hb hby at_56) ?_
  obtain ⟨t, hit, ht, hte⟩ := own_to (XT.ushr p5 (3 : Int32)) hi
  rw [hte]
  refine gIstore X9 hx #[.val (.int p0), .val (.int p1), .val (.int p2), .val (.int p3), .val (.int p4), .val (.int p5), .val (.ref b1), .val (.int (Int32.ofNat i)), .val (.int (Int32.ofNat t)), .unset, .unset, .unset, .unset, .unset, .unset, .unset] (hb hby at_57) rfl ?_
  refine gIload X9 hx (hb hby at_59) rfl ?_
  refine gBipush X9 hx (6 : Int32) (hb hby at_61) rfl ?_
  refine gIushr X9 hx (hb hby at_63) ?_
  refine gIconst X9 hx (1 : Int32) (hb hby at_64) rfl ?_
  refine gIand X9 hx (hb hby at_65) ?_
  refine gIf X9 hx 73 (hb hby at_66) (by decide) (by decide) (fun hT => ?_) (fun hT => ?_)
  · have hc10 := o_eqT hT
    show Go _ _ _ _ _ _ _ T9 (mkF m 73 #[.val (.int p0), .val (.int p1), .val (.int p2), .val (.int p3), .val (.int p4), .val (.int p5), .val (.ref b1), .val (.int (Int32.ofNat i)), .val (.int (Int32.ofNat t)), .unset, .unset, .unset, .unset, .unset, .unset, .unset] [])
    refine gIconst X9 hx (0 : Int32) (hb hby at_73) rfl ?_
    refine gIstore X9 hx #[.val (.int p0), .val (.int p1), .val (.int p2), .val (.int p3), .val (.int p4), .val (.int p5), .val (.ref b1), .val (.int (Int32.ofNat i)), .val (.int (Int32.ofNat t)), .val (.int (0 : Int32)), .unset, .unset, .unset, .unset, .unset, .unset] (hb hby at_74) rfl ?_
    refine gNew X9 hx hZ hown (tw hw 5 rfl) (tw hw 6 rfl) (tw hw 7 rfl) e9 (hb hby at_76) (by decide) (by decide) ?_
    intro T11 h11 b11 X11 e11 E11 g11 A11 D11
    have lt_b1_b11 : b1 < b11 := by rw [g11]; exact V9_.lt
    have g_b11 : n0 ≤ b11 := by rw [g11]; exact Z_9
    have V9___11 := V9_.ext E11
    have Z_11 := Nat.le_trans Z_9 E11.1
    have F_line_b11 : Fld Z h11 b11 "com/example/renkei/renkei/reader/LineCount" "line" "I" (.int (0 : Int32)) := D11 (Or.inl (tw hw 15 rfl)) (ty := .int) (by decide)
    have F_afterCarriageReturn_b11 : Fld Z h11 b11 "com/example/renkei/renkei/reader/LineCount" "afterCarriageReturn" "Z" (.int (0 : Int32)) := D11 (Or.inl (tw hw 22 rfl)) (ty := .boolean) (by decide)
    show Go _ _ _ _ _ _ _ T11 (mkF m 79 #[.val (.int p0), .val (.int p1), .val (.int p2), .val (.int p3), .val (.int p4), .val (.int p5), .val (.ref b1), .val (.int (Int32.ofNat i)), .val (.int (Int32.ofNat t)), .val (.int (0 : Int32)), .unset, .unset, .unset, .unset, .unset, .unset] [(.ref b11)])
    refine gDup X11 hx (hb hby at_79) rfl ?_
    refine gInit X11 hx hZ (y := (⟨"com/example/renkei/renkei/reader/LineCount", "<init>", "()V"⟩ : MethodName)) (a := b11) hown rfl (by decide) (tw hw 8 rfl) (tw hw 9 rfl) (tw hw 7 rfl) (tw hw 10 rfl) (own_rm1 l Z a0 hw b11 h11 n0 Z_11 (0 : Int32) (0 : Int32) A11 F_line_b11 F_afterCarriageReturn_b11 g_b11) e11 (by rw [hml]; rfl) (argsL := []) (rest := [(.ref b11)]) (W := 1) (lenOf own_pd1 rfl) rfl (Nat.le_of_eq rfl) (by decide) (by decide) (by decide) (by decide) (hb hby at_80) ?_
    rintro _ T12 L12 X12 ⟨rfl, Nq12, Kq12, Eq12, Fq12, Gq12⟩
    have N_12 := Fr.app N_9 Nq12
    have V9__12 := V9___11.keep Kq12 (ninS (Nat.ne_of_lt lt_b1_b11) nin0)
    have Z_12 := Nat.le_trans Z_11 Kq12.1
    show Go _ _ _ _ _ _ _ T12 (mkF m 83 #[.val (.int p0), .val (.int p1), .val (.int p2), .val (.int p3), .val (.int p4), .val (.int p5), .val (.ref b1), .val (.int (Int32.ofNat i)), .val (.int (Int32.ofNat t)), .val (.int (0 : Int32)), .unset, .unset, .unset, .unset, .unset, .unset] [(.ref b11)])
    refine gAstore X12 hx #[.val (.int p0), .val (.int p1), .val (.int p2), .val (.int p3), .val (.int p4), .val (.int p5), .val (.ref b1), .val (.int (Int32.ofNat i)), .val (.int (Int32.ofNat t)), .val (.int (0 : Int32)), .val (.ref b11), .unset, .unset, .unset, .unset, .unset] (hb hby at_83) rfl rfl ?_
    refine gAload X12 hx (hb hby at_85) rfl rfl ?_
    refine gIload X12 hx (hb hby at_87) rfl ?_
    refine gVirtual X12 hx hZ (y := (⟨"com/example/renkei/renkei/reader/LineCount", "set", "(I)V"⟩ : MethodName)) (a := b11) hown (by decide) (tw hw 16 rfl) (tw hw 17 rfl) (tw hw 18 rfl) (tw hw 19 rfl) (tw hw 7 rfl) (tw hw 20 rfl) Eq12 (own_rm2 l Z a0 hw b11 p4 T12.heap n0 Z_12 (1 : Int32) (0 : Int32) Eq12 Fq12 Gq12 g_b11) rfl (by rw [hml]; rfl) (argsL := [(.int p4)]) (rest := []) (W := 0) (lenOf own_pd2 rfl) rfl (Nat.le_of_eq rfl) (by decide) (by decide) (by decide) (by decide) (hb hby at_89) ?_
    rintro _ T13 L13 X13 ⟨rfl, Nq13, Kq13, Eq13, Fq13, Gq13⟩
    have N_13 := Fr.app N_12 Nq13
    have V9__13 := V9__12.keep Kq13 (ninS (Nat.ne_of_lt lt_b1_b11) nin0)
    have Z_13 := Nat.le_trans Z_12 Kq13.1
    show Go _ _ _ _ _ _ _ T13 (mkF m 92 #[.val (.int p0), .val (.int p1), .val (.int p2), .val (.int p3), .val (.int p4), .val (.int p5), .val (.ref b1), .val (.int (Int32.ofNat i)), .val (.int (Int32.ofNat t)), .val (.int (0 : Int32)), .val (.ref b11), .unset, .unset, .unset, .unset, .unset] [])
    refine gIload X13 hx (hb hby at_92) rfl ?_
    refine gIstore X13 hx #[.val (.int p0), .val (.int p1), .val (.int p2), .val (.int p3), .val (.int p4), .val (.int p5), .val (.ref b1), .val (.int (Int32.ofNat i)), .val (.int (Int32.ofNat t)), .val (.int (0 : Int32)), .val (.ref b11), .val (.int p4), .unset, .unset, .unset, .unset] (hb hby at_94) rfl ?_
    refine gIload X13 hx (hb hby at_96) rfl ?_
    refine gIf X13 hx 114 (hb hby at_98) (by decide) (by decide) (fun _ => ?_) (fun q => absurd (by decide) (o_eqF q))
    show Go _ _ _ _ _ _ _ T13 (mkF m 114 #[.val (.int p0), .val (.int p1), .val (.int p2), .val (.int p3), .val (.int p4), .val (.int p5), .val (.ref b1), .val (.int (Int32.ofNat i)), .val (.int (Int32.ofNat t)), .val (.int (0 : Int32)), .val (.ref b11), .val (.int p4), .unset, .unset, .unset, .unset] [])
    have Fl : Fld Z T13.heap b11 "com/example/renkei/renkei/reader/LineCount" "line" "I" (.int p4) := Fq13
    have Fb : Fld Z T13.heap b11 "com/example/renkei/renkei/reader/LineCount" "afterCarriageReturn" "Z" (.int (0 : Int32)) := Gq13
    refine gIload X13 hx (hb hby at_114) rfl ?_
    refine gAload X13 hx (hb hby at_116) rfl rfl ?_
    refine gIconst X13 hx (0 : Int32) (hb hby at_118) rfl ?_
    refine gIload X13 hx (hb hby at_119) rfl ?_
    refine gIload X13 hx (hb hby at_121) rfl ?_
    refine gIload X13 hx (hb hby at_123) rfl ?_
    refine gStatic X13 hx hZ (y := (⟨"com/example/renkei/renkei/reader/LineCountTakePinLaw", "brk", "([BIIIZ)I"⟩ : MethodName)) hown (by decide) (tw hw 23 rfl) (tw hw 24 rfl) (tw hw 3 rfl) (tw hw 25 rfl) (own_rm5 l Z a0 hw 0 i t b1 (0 : Int32) T13.heap n0 Z_13 f9 (by decide) hi ht V9__13) rfl (by rw [hml]; rfl) (argsL := [(.ref b1), (.int (0 : Int32)), (.int (Int32.ofNat i)), (.int (Int32.ofNat t)), (.int (0 : Int32))]) (rest := [(.int p4)]) (W := 1) (lenOf own_pd4 rfl) rfl (Nat.le_of_eq rfl) (by decide) (by decide) (by decide) (by decide) (hb hby at_125) ?_
    rintro _ T14 L14 X14 ⟨rfl, Nq14, e14⟩
    have N_14 := Fr.app N_13 Nq14
    show Go _ _ _ _ _ _ _ T14 (mkF m 128 #[.val (.int p0), .val (.int p1), .val (.int p2), .val (.int p3), .val (.int p4), .val (.int p5), .val (.ref b1), .val (.int (Int32.ofNat i)), .val (.int (Int32.ofNat t)), .val (.int (0 : Int32)), .val (.ref b11), .val (.int p4), .unset, .unset, .unset, .unset] [(.int (own_brk f9 0 i t (0 : Int32))), (.int p4)])
    refine gIadd X14 hx (hb hby at_128) ?_
    refine gAload X14 hx (hb hby at_129) rfl rfl ?_
    refine gIconst X14 hx (1 : Int32) (hb hby at_131) rfl ?_
    refine gIload X14 hx (hb hby at_132) rfl ?_
    refine gIload X14 hx (hb hby at_134) rfl ?_
    refine gIload X14 hx (hb hby at_136) rfl ?_
    refine gStatic X14 hx hZ (y := (⟨"com/example/renkei/renkei/reader/LineCountTakePinLaw", "brk", "([BIIIZ)I"⟩ : MethodName)) hown (by decide) (tw hw 23 rfl) (tw hw 24 rfl) (tw hw 3 rfl) (tw hw 25 rfl) (own_rm5 l Z a0 hw 1 i t b1 (0 : Int32) T13.heap n0 Z_13 f9 (by decide) hi ht V9__13) e14 (by rw [hml]; rfl) (argsL := [(.ref b1), (.int (1 : Int32)), (.int (Int32.ofNat i)), (.int (Int32.ofNat t)), (.int (0 : Int32))]) (rest := [(.int (p4 + (own_brk f9 0 i t (0 : Int32))))]) (W := 1) (lenOf own_pd4 rfl) rfl (Nat.le_of_eq rfl) (by decide) (by decide) (by decide) (by decide) (hb hby at_138) ?_
    rintro _ T15 L15 X15 ⟨rfl, Nq15, e15⟩
    have N_15 := Fr.app N_14 Nq15
    show Go _ _ _ _ _ _ _ T15 (mkF m 141 #[.val (.int p0), .val (.int p1), .val (.int p2), .val (.int p3), .val (.int p4), .val (.int p5), .val (.ref b1), .val (.int (Int32.ofNat i)), .val (.int (Int32.ofNat t)), .val (.int (0 : Int32)), .val (.ref b11), .val (.int p4), .unset, .unset, .unset, .unset] [(.int (own_brk f9 1 i t (0 : Int32))), (.int (p4 + (own_brk f9 0 i t (0 : Int32))))])
    refine gIadd X15 hx (hb hby at_141) ?_
    refine gAload X15 hx (hb hby at_142) rfl rfl ?_
    refine gIconst X15 hx (2 : Int32) (hb hby at_144) rfl ?_
    refine gIload X15 hx (hb hby at_145) rfl ?_
    refine gIload X15 hx (hb hby at_147) rfl ?_
    refine gIload X15 hx (hb hby at_149) rfl ?_
    refine gStatic X15 hx hZ (y := (⟨"com/example/renkei/renkei/reader/LineCountTakePinLaw", "brk", "([BIIIZ)I"⟩ : MethodName)) hown (by decide) (tw hw 23 rfl) (tw hw 24 rfl) (tw hw 3 rfl) (tw hw 25 rfl) (own_rm5 l Z a0 hw 2 i t b1 (0 : Int32) T13.heap n0 Z_13 f9 (by decide) hi ht V9__13) e15 (by rw [hml]; rfl) (argsL := [(.ref b1), (.int (2 : Int32)), (.int (Int32.ofNat i)), (.int (Int32.ofNat t)), (.int (0 : Int32))]) (rest := [(.int ((p4 + (own_brk f9 0 i t (0 : Int32))) + (own_brk f9 1 i t (0 : Int32))))]) (W := 1) (lenOf own_pd4 rfl) rfl (Nat.le_of_eq rfl) (by decide) (by decide) (by decide) (by decide) (hb hby at_151) ?_
    rintro _ T16 L16 X16 ⟨rfl, Nq16, e16⟩
    have N_16 := Fr.app N_15 Nq16
    show Go _ _ _ _ _ _ _ T16 (mkF m 154 #[.val (.int p0), .val (.int p1), .val (.int p2), .val (.int p3), .val (.int p4), .val (.int p5), .val (.ref b1), .val (.int (Int32.ofNat i)), .val (.int (Int32.ofNat t)), .val (.int (0 : Int32)), .val (.ref b11), .val (.int p4), .unset, .unset, .unset, .unset] [(.int (own_brk f9 2 i t (0 : Int32))), (.int ((p4 + (own_brk f9 0 i t (0 : Int32))) + (own_brk f9 1 i t (0 : Int32))))])
    refine gIadd X16 hx (hb hby at_154) ?_
    refine gAload X16 hx (hb hby at_155) rfl rfl ?_
    refine gIconst X16 hx (3 : Int32) (hb hby at_157) rfl ?_
    refine gIload X16 hx (hb hby at_158) rfl ?_
    refine gIload X16 hx (hb hby at_160) rfl ?_
    refine gIload X16 hx (hb hby at_162) rfl ?_
    refine gStatic X16 hx hZ (y := (⟨"com/example/renkei/renkei/reader/LineCountTakePinLaw", "brk", "([BIIIZ)I"⟩ : MethodName)) hown (by decide) (tw hw 23 rfl) (tw hw 24 rfl) (tw hw 3 rfl) (tw hw 25 rfl) (own_rm5 l Z a0 hw 3 i t b1 (0 : Int32) T13.heap n0 Z_13 f9 (by decide) hi ht V9__13) e16 (by rw [hml]; rfl) (argsL := [(.ref b1), (.int (3 : Int32)), (.int (Int32.ofNat i)), (.int (Int32.ofNat t)), (.int (0 : Int32))]) (rest := [(.int (((p4 + (own_brk f9 0 i t (0 : Int32))) + (own_brk f9 1 i t (0 : Int32))) + (own_brk f9 2 i t (0 : Int32))))]) (W := 1) (lenOf own_pd4 rfl) rfl (Nat.le_of_eq rfl) (by decide) (by decide) (by decide) (by decide) (hb hby at_164) ?_
    rintro _ T17 L17 X17 ⟨rfl, Nq17, e17⟩
    have N_17 := Fr.app N_16 Nq17
    show Go _ _ _ _ _ _ _ T17 (mkF m 167 #[.val (.int p0), .val (.int p1), .val (.int p2), .val (.int p3), .val (.int p4), .val (.int p5), .val (.ref b1), .val (.int (Int32.ofNat i)), .val (.int (Int32.ofNat t)), .val (.int (0 : Int32)), .val (.ref b11), .val (.int p4), .unset, .unset, .unset, .unset] [(.int (own_brk f9 3 i t (0 : Int32))), (.int (((p4 + (own_brk f9 0 i t (0 : Int32))) + (own_brk f9 1 i t (0 : Int32))) + (own_brk f9 2 i t (0 : Int32))))])
    refine gIadd X17 hx (hb hby at_167) ?_
    refine gIstore X17 hx #[.val (.int p0), .val (.int p1), .val (.int p2), .val (.int p3), .val (.int p4), .val (.int p5), .val (.ref b1), .val (.int (Int32.ofNat i)), .val (.int (Int32.ofNat t)), .val (.int (0 : Int32)), .val (.ref b11), .val (.int p4), .val (.int ((((p4 + (own_brk f9 0 i t (0 : Int32))) + (own_brk f9 1 i t (0 : Int32))) + (own_brk f9 2 i t (0 : Int32))) + (own_brk f9 3 i t (0 : Int32)))), .unset, .unset, .unset] (hb hby at_168) rfl ?_
    refine gIload X17 hx (hb hby at_170) rfl ?_
    refine gIload X17 hx (hb hby at_172) rfl ?_
    refine gIcmp X17 hx 197 (hb hby at_174) (by decide) (by decide) (fun hT => ?_) (fun hT => ?_)
    · have hc18 := o_leT hT
      have hc18n := mt (own_lt (by omega) (by omega)).mpr hc18
      show Go _ _ _ _ _ _ _ T17 (mkF m 197 #[.val (.int p0), .val (.int p1), .val (.int p2), .val (.int p3), .val (.int p4), .val (.int p5), .val (.ref b1), .val (.int (Int32.ofNat i)), .val (.int (Int32.ofNat t)), .val (.int (0 : Int32)), .val (.ref b11), .val (.int p4), .val (.int ((((p4 + (own_brk f9 0 i t (0 : Int32))) + (own_brk f9 1 i t (0 : Int32))) + (own_brk f9 2 i t (0 : Int32))) + (own_brk f9 3 i t (0 : Int32)))), .unset, .unset, .unset] [])
      refine gIload X17 hx (hb hby at_197) rfl ?_
      refine gIstore X17 hx #[.val (.int p0), .val (.int p1), .val (.int p2), .val (.int p3), .val (.int p4), .val (.int p5), .val (.ref b1), .val (.int (Int32.ofNat i)), .val (.int (Int32.ofNat t)), .val (.int (0 : Int32)), .val (.ref b11), .val (.int p4), .val (.int ((((p4 + (own_brk f9 0 i t (0 : Int32))) + (own_brk f9 1 i t (0 : Int32))) + (own_brk f9 2 i t (0 : Int32))) + (own_brk f9 3 i t (0 : Int32)))), .val (.int (0 : Int32)), .unset, .unset] (hb hby at_199) rfl ?_
      refine gAload X17 hx (hb hby at_201) rfl rfl ?_
      refine gAload X17 hx (hb hby at_203) rfl rfl ?_
      refine gIload X17 hx (hb hby at_205) rfl ?_
      refine gIload X17 hx (hb hby at_207) rfl ?_
      refine gVirtual X17 hx hZ (y := (⟨"com/example/renkei/renkei/reader/LineCount", "take", "([BII)V"⟩ : MethodName)) (a := b11) hown (by decide) (tw hw 26 rfl) (tw hw 27 rfl) (tw hw 28 rfl) (tw hw 29 rfl) (tw hw 7 rfl) (tw hw 30 rfl) Eq13 (own_rm6 l Z a0 hw i t b11 b1 T13.heap n0 Z_13 f9 p4 (0 : Int32) hit ht (by decide) V9__13 (Ne.symm (Nat.ne_of_lt lt_b1_b11)) Eq13 Fl Fb g_b11) e17 (by rw [hml]; rfl) (argsL := [(.ref b1), (.int (Int32.ofNat i)), (.int (Int32.ofNat t))]) (rest := []) (W := 0) (lenOf own_pd5 rfl) rfl (Nat.le_of_eq rfl) (by decide) (by decide) (by decide) (by decide) (hb hby at_209) ?_
      rintro _ T19 L19 X19 ⟨rfl, Nq19, Kq19, Eq19, Fq19, Gq19⟩
      have N_19 := Fr.app N_17 Nq19
      have V9__19 := V9__13.keep Kq19 (ninS (Nat.ne_of_lt lt_b1_b11) nin0)
      have Z_19 := Nat.le_trans Z_13 Kq19.1
      show Go _ _ _ _ _ _ _ T19 (mkF m 212 #[.val (.int p0), .val (.int p1), .val (.int p2), .val (.int p3), .val (.int p4), .val (.int p5), .val (.ref b1), .val (.int (Int32.ofNat i)), .val (.int (Int32.ofNat t)), .val (.int (0 : Int32)), .val (.ref b11), .val (.int p4), .val (.int ((((p4 + (own_brk f9 0 i t (0 : Int32))) + (own_brk f9 1 i t (0 : Int32))) + (own_brk f9 2 i t (0 : Int32))) + (own_brk f9 3 i t (0 : Int32)))), .val (.int (0 : Int32)), .unset, .unset] [])
      refine gAload X19 hx (hb hby at_212) rfl rfl ?_
      refine gVirtual X19 hx hZ (y := (⟨"com/example/renkei/renkei/reader/LineCount", "line", "()I"⟩ : MethodName)) (a := b11) hown (by decide) (tw hw 31 rfl) (tw hw 32 rfl) (tw hw 33 rfl) (tw hw 34 rfl) (tw hw 7 rfl) (tw hw 35 rfl) Eq19 (own_rm4 l Z a0 hw b11 T19.heap n0 Z_19 _ _ Eq19 Fq19 Gq19 g_b11) rfl (by rw [hml]; rfl) (argsL := []) (rest := []) (W := 0) (lenOf own_pd3 rfl) rfl (Nat.le_of_eq rfl) (by decide) (by decide) (by decide) (by decide) (hb hby at_214) ?_
      rintro _ T20 L20 X20 ⟨rfl, Nq20, e20⟩
      have N_20 := Fr.app N_19 Nq20
      show Go _ _ _ _ _ _ _ T20 (mkF m 217 #[.val (.int p0), .val (.int p1), .val (.int p2), .val (.int p3), .val (.int p4), .val (.int p5), .val (.ref b1), .val (.int (Int32.ofNat i)), .val (.int (Int32.ofNat t)), .val (.int (0 : Int32)), .val (.ref b11), .val (.int p4), .val (.int ((((p4 + (own_brk f9 0 i t (0 : Int32))) + (own_brk f9 1 i t (0 : Int32))) + (own_brk f9 2 i t (0 : Int32))) + (own_brk f9 3 i t (0 : Int32)))), .val (.int (0 : Int32)), .unset, .unset] [(.int (own_run f9 (t - i) i p4 (0 : Int32)).1)])
      refine gIstore X20 hx #[.val (.int p0), .val (.int p1), .val (.int p2), .val (.int p3), .val (.int p4), .val (.int p5), .val (.ref b1), .val (.int (Int32.ofNat i)), .val (.int (Int32.ofNat t)), .val (.int (0 : Int32)), .val (.ref b11), .val (.int p4), .val (.int ((((p4 + (own_brk f9 0 i t (0 : Int32))) + (own_brk f9 1 i t (0 : Int32))) + (own_brk f9 2 i t (0 : Int32))) + (own_brk f9 3 i t (0 : Int32)))), .val (.int (0 : Int32)), .val (.int (own_run f9 (t - i) i p4 (0 : Int32)).1), .unset] (hb hby at_217) rfl ?_
      refine gAload X20 hx (hb hby at_219) rfl rfl ?_
      refine gBipush X20 hx (10 : Int32) (hb hby at_221) rfl ?_
      refine gVirtual X20 hx hZ (y := (⟨"com/example/renkei/renkei/reader/LineCount", "take", "(I)V"⟩ : MethodName)) (a := b11) hown (by decide) (tw hw 36 rfl) (tw hw 37 rfl) (tw hw 38 rfl) (tw hw 39 rfl) (tw hw 7 rfl) (tw hw 40 rfl) Eq19 (own_rm3 l Z a0 hw b11 (10 : Int32) T19.heap n0 Z_19 (own_run f9 (t - i) i p4 (0 : Int32)).1 (own_run f9 (t - i) i p4 (0 : Int32)).2 Eq19 Fq19 Gq19 g_b11) e20 (by rw [hml]; rfl) (argsL := [(.int (10 : Int32))]) (rest := []) (W := 0) (lenOf own_pd2 rfl) rfl (Nat.le_of_eq rfl) (by decide) (by decide) (by decide) (by decide) (hb hby at_223) ?_
      rintro _ T21 L21 X21 ⟨rfl, Nq21, Kq21, Eq21, Fq21, Gq21⟩
      have N_21 := Fr.app N_20 Nq21
      have V9__21 := V9__19.keep Kq21 (ninS (Nat.ne_of_lt lt_b1_b11) nin0)
      have Z_21 := Nat.le_trans Z_19 Kq21.1
      show Go _ _ _ _ _ _ _ T21 (mkF m 226 #[.val (.int p0), .val (.int p1), .val (.int p2), .val (.int p3), .val (.int p4), .val (.int p5), .val (.ref b1), .val (.int (Int32.ofNat i)), .val (.int (Int32.ofNat t)), .val (.int (0 : Int32)), .val (.ref b11), .val (.int p4), .val (.int ((((p4 + (own_brk f9 0 i t (0 : Int32))) + (own_brk f9 1 i t (0 : Int32))) + (own_brk f9 2 i t (0 : Int32))) + (own_brk f9 3 i t (0 : Int32)))), .val (.int (0 : Int32)), .val (.int (own_run f9 (t - i) i p4 (0 : Int32)).1), .unset] [])
      refine gAload X21 hx (hb hby at_226) rfl rfl ?_
      refine gVirtual X21 hx hZ (y := (⟨"com/example/renkei/renkei/reader/LineCount", "line", "()I"⟩ : MethodName)) (a := b11) hown (by decide) (tw hw 31 rfl) (tw hw 32 rfl) (tw hw 33 rfl) (tw hw 34 rfl) (tw hw 7 rfl) (tw hw 35 rfl) Eq21 (own_rm4 l Z a0 hw b11 T21.heap n0 Z_21 _ _ Eq21 Fq21 Gq21 g_b11) rfl (by rw [hml]; rfl) (argsL := []) (rest := []) (W := 0) (lenOf own_pd3 rfl) rfl (Nat.le_of_eq rfl) (by decide) (by decide) (by decide) (by decide) (hb hby at_228) ?_
      rintro _ T22 L22 X22 ⟨rfl, Nq22, e22⟩
      have N_22 := Fr.app N_21 Nq22
      show Go _ _ _ _ _ _ _ T22 (mkF m 231 #[.val (.int p0), .val (.int p1), .val (.int p2), .val (.int p3), .val (.int p4), .val (.int p5), .val (.ref b1), .val (.int (Int32.ofNat i)), .val (.int (Int32.ofNat t)), .val (.int (0 : Int32)), .val (.ref b11), .val (.int p4), .val (.int ((((p4 + (own_brk f9 0 i t (0 : Int32))) + (own_brk f9 1 i t (0 : Int32))) + (own_brk f9 2 i t (0 : Int32))) + (own_brk f9 3 i t (0 : Int32)))), .val (.int (0 : Int32)), .val (.int (own_run f9 (t - i) i p4 (0 : Int32)).1), .unset] [(.int (own_tl (10 : Int32) (own_run f9 (t - i) i p4 (0 : Int32)).1 (own_run f9 (t - i) i p4 (0 : Int32)).2))])
      refine gIstore X22 hx #[.val (.int p0), .val (.int p1), .val (.int p2), .val (.int p3), .val (.int p4), .val (.int p5), .val (.ref b1), .val (.int (Int32.ofNat i)), .val (.int (Int32.ofNat t)), .val (.int (0 : Int32)), .val (.ref b11), .val (.int p4), .val (.int ((((p4 + (own_brk f9 0 i t (0 : Int32))) + (own_brk f9 1 i t (0 : Int32))) + (own_brk f9 2 i t (0 : Int32))) + (own_brk f9 3 i t (0 : Int32)))), .val (.int (0 : Int32)), .val (.int (own_run f9 (t - i) i p4 (0 : Int32)).1), .val (.int (own_tl (10 : Int32) (own_run f9 (t - i) i p4 (0 : Int32)).1 (own_run f9 (t - i) i p4 (0 : Int32)).2))] (hb hby at_231) rfl ?_
      refine gIload X22 hx (hb hby at_233) rfl ?_
      refine gIload X22 hx (hb hby at_235) rfl ?_
      refine gIcmp X22 hx 262 (hb hby at_237) (by decide) (by decide) (fun q => absurd (own_total _ _ _ hit ht) (o_neT q)) (fun _ => ?_)
      show Go _ _ _ _ _ _ _ T22 (mkF m 240 #[.val (.int p0), .val (.int p1), .val (.int p2), .val (.int p3), .val (.int p4), .val (.int p5), .val (.ref b1), .val (.int (Int32.ofNat i)), .val (.int (Int32.ofNat t)), .val (.int (0 : Int32)), .val (.ref b11), .val (.int p4), .val (.int ((((p4 + (own_brk f9 0 i t (0 : Int32))) + (own_brk f9 1 i t (0 : Int32))) + (own_brk f9 2 i t (0 : Int32))) + (own_brk f9 3 i t (0 : Int32)))), .val (.int (0 : Int32)), .val (.int (own_run f9 (t - i) i p4 (0 : Int32)).1), .val (.int (own_tl (10 : Int32) (own_run f9 (t - i) i p4 (0 : Int32)).1 (own_run f9 (t - i) i p4 (0 : Int32)).2))] [])
      refine gIload X22 hx (hb hby at_240) rfl ?_
      refine gIload X22 hx (hb hby at_242) rfl ?_
      refine gIload X22 hx (hb hby at_244) rfl ?_
      refine gIf X22 hx 253 (hb hby at_246) (by decide) (by decide) (fun _ => ?_) (fun q => absurd (by decide) (o_eqF q))
      show Go _ _ _ _ _ _ _ T22 (mkF m 253 #[.val (.int p0), .val (.int p1), .val (.int p2), .val (.int p3), .val (.int p4), .val (.int p5), .val (.ref b1), .val (.int (Int32.ofNat i)), .val (.int (Int32.ofNat t)), .val (.int (0 : Int32)), .val (.ref b11), .val (.int p4), .val (.int ((((p4 + (own_brk f9 0 i t (0 : Int32))) + (own_brk f9 1 i t (0 : Int32))) + (own_brk f9 2 i t (0 : Int32))) + (own_brk f9 3 i t (0 : Int32)))), .val (.int (0 : Int32)), .val (.int (own_run f9 (t - i) i p4 (0 : Int32)).1), .val (.int (own_tl (10 : Int32) (own_run f9 (t - i) i p4 (0 : Int32)).1 (own_run f9 (t - i) i p4 (0 : Int32)).2))] [(.int ((((p4 + (own_brk f9 0 i t (0 : Int32))) + (own_brk f9 1 i t (0 : Int32))) + (own_brk f9 2 i t (0 : Int32))) + (own_brk f9 3 i t (0 : Int32)))), (.int (own_tl (10 : Int32) (own_run f9 (t - i) i p4 (0 : Int32)).1 (own_run f9 (t - i) i p4 (0 : Int32)).2))])
      refine gIconst X22 hx (1 : Int32) (hb hby at_253) rfl ?_
      refine gIadd X22 hx (hb hby at_254) ?_
      refine gIcmp X22 hx 262 (hb hby at_255) (by decide) (by decide) (fun q => absurd (own_aft0 (own_endA _ _ _ hit hc18n) (own_total _ _ _ hit ht)) (o_neT q)) (fun _ => ?_)
      show Go _ _ _ _ _ _ _ T22 (mkF m 258 #[.val (.int p0), .val (.int p1), .val (.int p2), .val (.int p3), .val (.int p4), .val (.int p5), .val (.ref b1), .val (.int (Int32.ofNat i)), .val (.int (Int32.ofNat t)), .val (.int (0 : Int32)), .val (.ref b11), .val (.int p4), .val (.int ((((p4 + (own_brk f9 0 i t (0 : Int32))) + (own_brk f9 1 i t (0 : Int32))) + (own_brk f9 2 i t (0 : Int32))) + (own_brk f9 3 i t (0 : Int32)))), .val (.int (0 : Int32)), .val (.int (own_run f9 (t - i) i p4 (0 : Int32)).1), .val (.int (own_tl (10 : Int32) (own_run f9 (t - i) i p4 (0 : Int32)).1 (own_run f9 (t - i) i p4 (0 : Int32)).2))] [])
      refine gIconst X22 hx (1 : Int32) (hb hby at_258) rfl ?_
      refine gGoto X22 hx 263 (hb hby at_259) (by decide) (by decide) ?_
      exact gRetZ X22 hx hlk hret (by simp) (hb hby at_263) (z' := (1 : Int32)) rfl (by decide) (by decide) ⟨rfl, N_22⟩
    · have hc18 := o_leF hT
      have hc18n := (own_lt (by omega) (by omega)).mp hc18
      show Go _ _ _ _ _ _ _ T17 (mkF m 177 #[.val (.int p0), .val (.int p1), .val (.int p2), .val (.int p3), .val (.int p4), .val (.int p5), .val (.ref b1), .val (.int (Int32.ofNat i)), .val (.int (Int32.ofNat t)), .val (.int (0 : Int32)), .val (.ref b11), .val (.int p4), .val (.int ((((p4 + (own_brk f9 0 i t (0 : Int32))) + (own_brk f9 1 i t (0 : Int32))) + (own_brk f9 2 i t (0 : Int32))) + (own_brk f9 3 i t (0 : Int32)))), .unset, .unset, .unset] [])
      refine gAload X17 hx (hb hby at_177) rfl rfl ?_
      refine gIload X17 hx (hb hby at_179) rfl ?_
      refine gIconst X17 hx (1 : Int32) (hb hby at_181) rfl ?_
      refine gIsub X17 hx (hb hby at_182) ?_
      refine gBaload X17 hx hZ e17 V9__13 ⟨(own_sub1 (by omega) (by omega)).1, by rw [(own_sub1 (by omega) (by omega)).2]; omega⟩ (hb hby at_183) ?_
      rw [(own_sub1 (by omega) (by omega)).2]
      show Go _ _ _ _ _ _ _ T17 (mkF m 184 #[.val (.int p0), .val (.int p1), .val (.int p2), .val (.int p3), .val (.int p4), .val (.int p5), .val (.ref b1), .val (.int (Int32.ofNat i)), .val (.int (Int32.ofNat t)), .val (.int (0 : Int32)), .val (.ref b11), .val (.int p4), .val (.int ((((p4 + (own_brk f9 0 i t (0 : Int32))) + (own_brk f9 1 i t (0 : Int32))) + (own_brk f9 2 i t (0 : Int32))) + (own_brk f9 3 i t (0 : Int32)))), .unset, .unset, .unset] [(.int (f9 (t - 1)))])
      refine gBipush X17 hx (13 : Int32) (hb hby at_184) rfl ?_
      refine gIcmp X17 hx 193 (hb hby at_186) (by decide) (by decide) (fun hT => ?_) (fun hT => ?_)
      · have hc23 := o_neT hT
        show Go _ _ _ _ _ _ _ T17 (mkF m 193 #[.val (.int p0), .val (.int p1), .val (.int p2), .val (.int p3), .val (.int p4), .val (.int p5), .val (.ref b1), .val (.int (Int32.ofNat i)), .val (.int (Int32.ofNat t)), .val (.int (0 : Int32)), .val (.ref b11), .val (.int p4), .val (.int ((((p4 + (own_brk f9 0 i t (0 : Int32))) + (own_brk f9 1 i t (0 : Int32))) + (own_brk f9 2 i t (0 : Int32))) + (own_brk f9 3 i t (0 : Int32)))), .unset, .unset, .unset] [])
        refine gIconst X17 hx (0 : Int32) (hb hby at_193) rfl ?_
        refine gGoto X17 hx 199 (hb hby at_194) (by decide) (by decide) ?_
        refine gIstore X17 hx #[.val (.int p0), .val (.int p1), .val (.int p2), .val (.int p3), .val (.int p4), .val (.int p5), .val (.ref b1), .val (.int (Int32.ofNat i)), .val (.int (Int32.ofNat t)), .val (.int (0 : Int32)), .val (.ref b11), .val (.int p4), .val (.int ((((p4 + (own_brk f9 0 i t (0 : Int32))) + (own_brk f9 1 i t (0 : Int32))) + (own_brk f9 2 i t (0 : Int32))) + (own_brk f9 3 i t (0 : Int32)))), .val (.int (0 : Int32)), .unset, .unset] (hb hby at_199) rfl ?_
        refine gAload X17 hx (hb hby at_201) rfl rfl ?_
        refine gAload X17 hx (hb hby at_203) rfl rfl ?_
        refine gIload X17 hx (hb hby at_205) rfl ?_
        refine gIload X17 hx (hb hby at_207) rfl ?_
        refine gVirtual X17 hx hZ (y := (⟨"com/example/renkei/renkei/reader/LineCount", "take", "([BII)V"⟩ : MethodName)) (a := b11) hown (by decide) (tw hw 26 rfl) (tw hw 27 rfl) (tw hw 28 rfl) (tw hw 29 rfl) (tw hw 7 rfl) (tw hw 30 rfl) Eq13 (own_rm6 l Z a0 hw i t b11 b1 T13.heap n0 Z_13 f9 p4 (0 : Int32) hit ht (by decide) V9__13 (Ne.symm (Nat.ne_of_lt lt_b1_b11)) Eq13 Fl Fb g_b11) e17 (by rw [hml]; rfl) (argsL := [(.ref b1), (.int (Int32.ofNat i)), (.int (Int32.ofNat t))]) (rest := []) (W := 0) (lenOf own_pd5 rfl) rfl (Nat.le_of_eq rfl) (by decide) (by decide) (by decide) (by decide) (hb hby at_209) ?_
        rintro _ T24 L24 X24 ⟨rfl, Nq24, Kq24, Eq24, Fq24, Gq24⟩
        have N_24 := Fr.app N_17 Nq24
        have V9__24 := V9__13.keep Kq24 (ninS (Nat.ne_of_lt lt_b1_b11) nin0)
        have Z_24 := Nat.le_trans Z_13 Kq24.1
        show Go _ _ _ _ _ _ _ T24 (mkF m 212 #[.val (.int p0), .val (.int p1), .val (.int p2), .val (.int p3), .val (.int p4), .val (.int p5), .val (.ref b1), .val (.int (Int32.ofNat i)), .val (.int (Int32.ofNat t)), .val (.int (0 : Int32)), .val (.ref b11), .val (.int p4), .val (.int ((((p4 + (own_brk f9 0 i t (0 : Int32))) + (own_brk f9 1 i t (0 : Int32))) + (own_brk f9 2 i t (0 : Int32))) + (own_brk f9 3 i t (0 : Int32)))), .val (.int (0 : Int32)), .unset, .unset] [])
        refine gAload X24 hx (hb hby at_212) rfl rfl ?_
        refine gVirtual X24 hx hZ (y := (⟨"com/example/renkei/renkei/reader/LineCount", "line", "()I"⟩ : MethodName)) (a := b11) hown (by decide) (tw hw 31 rfl) (tw hw 32 rfl) (tw hw 33 rfl) (tw hw 34 rfl) (tw hw 7 rfl) (tw hw 35 rfl) Eq24 (own_rm4 l Z a0 hw b11 T24.heap n0 Z_24 _ _ Eq24 Fq24 Gq24 g_b11) rfl (by rw [hml]; rfl) (argsL := []) (rest := []) (W := 0) (lenOf own_pd3 rfl) rfl (Nat.le_of_eq rfl) (by decide) (by decide) (by decide) (by decide) (hb hby at_214) ?_
        rintro _ T25 L25 X25 ⟨rfl, Nq25, e25⟩
        have N_25 := Fr.app N_24 Nq25
        show Go _ _ _ _ _ _ _ T25 (mkF m 217 #[.val (.int p0), .val (.int p1), .val (.int p2), .val (.int p3), .val (.int p4), .val (.int p5), .val (.ref b1), .val (.int (Int32.ofNat i)), .val (.int (Int32.ofNat t)), .val (.int (0 : Int32)), .val (.ref b11), .val (.int p4), .val (.int ((((p4 + (own_brk f9 0 i t (0 : Int32))) + (own_brk f9 1 i t (0 : Int32))) + (own_brk f9 2 i t (0 : Int32))) + (own_brk f9 3 i t (0 : Int32)))), .val (.int (0 : Int32)), .unset, .unset] [(.int (own_run f9 (t - i) i p4 (0 : Int32)).1)])
        refine gIstore X25 hx #[.val (.int p0), .val (.int p1), .val (.int p2), .val (.int p3), .val (.int p4), .val (.int p5), .val (.ref b1), .val (.int (Int32.ofNat i)), .val (.int (Int32.ofNat t)), .val (.int (0 : Int32)), .val (.ref b11), .val (.int p4), .val (.int ((((p4 + (own_brk f9 0 i t (0 : Int32))) + (own_brk f9 1 i t (0 : Int32))) + (own_brk f9 2 i t (0 : Int32))) + (own_brk f9 3 i t (0 : Int32)))), .val (.int (0 : Int32)), .val (.int (own_run f9 (t - i) i p4 (0 : Int32)).1), .unset] (hb hby at_217) rfl ?_
        refine gAload X25 hx (hb hby at_219) rfl rfl ?_
        refine gBipush X25 hx (10 : Int32) (hb hby at_221) rfl ?_
        refine gVirtual X25 hx hZ (y := (⟨"com/example/renkei/renkei/reader/LineCount", "take", "(I)V"⟩ : MethodName)) (a := b11) hown (by decide) (tw hw 36 rfl) (tw hw 37 rfl) (tw hw 38 rfl) (tw hw 39 rfl) (tw hw 7 rfl) (tw hw 40 rfl) Eq24 (own_rm3 l Z a0 hw b11 (10 : Int32) T24.heap n0 Z_24 (own_run f9 (t - i) i p4 (0 : Int32)).1 (own_run f9 (t - i) i p4 (0 : Int32)).2 Eq24 Fq24 Gq24 g_b11) e25 (by rw [hml]; rfl) (argsL := [(.int (10 : Int32))]) (rest := []) (W := 0) (lenOf own_pd2 rfl) rfl (Nat.le_of_eq rfl) (by decide) (by decide) (by decide) (by decide) (hb hby at_223) ?_
        rintro _ T26 L26 X26 ⟨rfl, Nq26, Kq26, Eq26, Fq26, Gq26⟩
        have N_26 := Fr.app N_25 Nq26
        have V9__26 := V9__24.keep Kq26 (ninS (Nat.ne_of_lt lt_b1_b11) nin0)
        have Z_26 := Nat.le_trans Z_24 Kq26.1
        show Go _ _ _ _ _ _ _ T26 (mkF m 226 #[.val (.int p0), .val (.int p1), .val (.int p2), .val (.int p3), .val (.int p4), .val (.int p5), .val (.ref b1), .val (.int (Int32.ofNat i)), .val (.int (Int32.ofNat t)), .val (.int (0 : Int32)), .val (.ref b11), .val (.int p4), .val (.int ((((p4 + (own_brk f9 0 i t (0 : Int32))) + (own_brk f9 1 i t (0 : Int32))) + (own_brk f9 2 i t (0 : Int32))) + (own_brk f9 3 i t (0 : Int32)))), .val (.int (0 : Int32)), .val (.int (own_run f9 (t - i) i p4 (0 : Int32)).1), .unset] [])
        refine gAload X26 hx (hb hby at_226) rfl rfl ?_
        refine gVirtual X26 hx hZ (y := (⟨"com/example/renkei/renkei/reader/LineCount", "line", "()I"⟩ : MethodName)) (a := b11) hown (by decide) (tw hw 31 rfl) (tw hw 32 rfl) (tw hw 33 rfl) (tw hw 34 rfl) (tw hw 7 rfl) (tw hw 35 rfl) Eq26 (own_rm4 l Z a0 hw b11 T26.heap n0 Z_26 _ _ Eq26 Fq26 Gq26 g_b11) rfl (by rw [hml]; rfl) (argsL := []) (rest := []) (W := 0) (lenOf own_pd3 rfl) rfl (Nat.le_of_eq rfl) (by decide) (by decide) (by decide) (by decide) (hb hby at_228) ?_
        rintro _ T27 L27 X27 ⟨rfl, Nq27, e27⟩
        have N_27 := Fr.app N_26 Nq27
        show Go _ _ _ _ _ _ _ T27 (mkF m 231 #[.val (.int p0), .val (.int p1), .val (.int p2), .val (.int p3), .val (.int p4), .val (.int p5), .val (.ref b1), .val (.int (Int32.ofNat i)), .val (.int (Int32.ofNat t)), .val (.int (0 : Int32)), .val (.ref b11), .val (.int p4), .val (.int ((((p4 + (own_brk f9 0 i t (0 : Int32))) + (own_brk f9 1 i t (0 : Int32))) + (own_brk f9 2 i t (0 : Int32))) + (own_brk f9 3 i t (0 : Int32)))), .val (.int (0 : Int32)), .val (.int (own_run f9 (t - i) i p4 (0 : Int32)).1), .unset] [(.int (own_tl (10 : Int32) (own_run f9 (t - i) i p4 (0 : Int32)).1 (own_run f9 (t - i) i p4 (0 : Int32)).2))])
        refine gIstore X27 hx #[.val (.int p0), .val (.int p1), .val (.int p2), .val (.int p3), .val (.int p4), .val (.int p5), .val (.ref b1), .val (.int (Int32.ofNat i)), .val (.int (Int32.ofNat t)), .val (.int (0 : Int32)), .val (.ref b11), .val (.int p4), .val (.int ((((p4 + (own_brk f9 0 i t (0 : Int32))) + (own_brk f9 1 i t (0 : Int32))) + (own_brk f9 2 i t (0 : Int32))) + (own_brk f9 3 i t (0 : Int32)))), .val (.int (0 : Int32)), .val (.int (own_run f9 (t - i) i p4 (0 : Int32)).1), .val (.int (own_tl (10 : Int32) (own_run f9 (t - i) i p4 (0 : Int32)).1 (own_run f9 (t - i) i p4 (0 : Int32)).2))] (hb hby at_231) rfl ?_
        refine gIload X27 hx (hb hby at_233) rfl ?_
        refine gIload X27 hx (hb hby at_235) rfl ?_
        refine gIcmp X27 hx 262 (hb hby at_237) (by decide) (by decide) (fun q => absurd (own_total _ _ _ hit ht) (o_neT q)) (fun _ => ?_)
        show Go _ _ _ _ _ _ _ T27 (mkF m 240 #[.val (.int p0), .val (.int p1), .val (.int p2), .val (.int p3), .val (.int p4), .val (.int p5), .val (.ref b1), .val (.int (Int32.ofNat i)), .val (.int (Int32.ofNat t)), .val (.int (0 : Int32)), .val (.ref b11), .val (.int p4), .val (.int ((((p4 + (own_brk f9 0 i t (0 : Int32))) + (own_brk f9 1 i t (0 : Int32))) + (own_brk f9 2 i t (0 : Int32))) + (own_brk f9 3 i t (0 : Int32)))), .val (.int (0 : Int32)), .val (.int (own_run f9 (t - i) i p4 (0 : Int32)).1), .val (.int (own_tl (10 : Int32) (own_run f9 (t - i) i p4 (0 : Int32)).1 (own_run f9 (t - i) i p4 (0 : Int32)).2))] [])
        refine gIload X27 hx (hb hby at_240) rfl ?_
        refine gIload X27 hx (hb hby at_242) rfl ?_
        refine gIload X27 hx (hb hby at_244) rfl ?_
        refine gIf X27 hx 253 (hb hby at_246) (by decide) (by decide) (fun _ => ?_) (fun q => absurd (by decide) (o_eqF q))
        show Go _ _ _ _ _ _ _ T27 (mkF m 253 #[.val (.int p0), .val (.int p1), .val (.int p2), .val (.int p3), .val (.int p4), .val (.int p5), .val (.ref b1), .val (.int (Int32.ofNat i)), .val (.int (Int32.ofNat t)), .val (.int (0 : Int32)), .val (.ref b11), .val (.int p4), .val (.int ((((p4 + (own_brk f9 0 i t (0 : Int32))) + (own_brk f9 1 i t (0 : Int32))) + (own_brk f9 2 i t (0 : Int32))) + (own_brk f9 3 i t (0 : Int32)))), .val (.int (0 : Int32)), .val (.int (own_run f9 (t - i) i p4 (0 : Int32)).1), .val (.int (own_tl (10 : Int32) (own_run f9 (t - i) i p4 (0 : Int32)).1 (own_run f9 (t - i) i p4 (0 : Int32)).2))] [(.int ((((p4 + (own_brk f9 0 i t (0 : Int32))) + (own_brk f9 1 i t (0 : Int32))) + (own_brk f9 2 i t (0 : Int32))) + (own_brk f9 3 i t (0 : Int32)))), (.int (own_tl (10 : Int32) (own_run f9 (t - i) i p4 (0 : Int32)).1 (own_run f9 (t - i) i p4 (0 : Int32)).2))])
        refine gIconst X27 hx (1 : Int32) (hb hby at_253) rfl ?_
        refine gIadd X27 hx (hb hby at_254) ?_
        refine gIcmp X27 hx 262 (hb hby at_255) (by decide) (by decide) (fun q => absurd (own_aft0 ((own_endB _ _ _ hc18n).trans (if_neg hc23)) (own_total _ _ _ hit ht)) (o_neT q)) (fun _ => ?_)
        show Go _ _ _ _ _ _ _ T27 (mkF m 258 #[.val (.int p0), .val (.int p1), .val (.int p2), .val (.int p3), .val (.int p4), .val (.int p5), .val (.ref b1), .val (.int (Int32.ofNat i)), .val (.int (Int32.ofNat t)), .val (.int (0 : Int32)), .val (.ref b11), .val (.int p4), .val (.int ((((p4 + (own_brk f9 0 i t (0 : Int32))) + (own_brk f9 1 i t (0 : Int32))) + (own_brk f9 2 i t (0 : Int32))) + (own_brk f9 3 i t (0 : Int32)))), .val (.int (0 : Int32)), .val (.int (own_run f9 (t - i) i p4 (0 : Int32)).1), .val (.int (own_tl (10 : Int32) (own_run f9 (t - i) i p4 (0 : Int32)).1 (own_run f9 (t - i) i p4 (0 : Int32)).2))] [])
        refine gIconst X27 hx (1 : Int32) (hb hby at_258) rfl ?_
        refine gGoto X27 hx 263 (hb hby at_259) (by decide) (by decide) ?_
        exact gRetZ X27 hx hlk hret (by simp) (hb hby at_263) (z' := (1 : Int32)) rfl (by decide) (by decide) ⟨rfl, N_27⟩
      · have hc23 := o_neF hT
        show Go _ _ _ _ _ _ _ T17 (mkF m 189 #[.val (.int p0), .val (.int p1), .val (.int p2), .val (.int p3), .val (.int p4), .val (.int p5), .val (.ref b1), .val (.int (Int32.ofNat i)), .val (.int (Int32.ofNat t)), .val (.int (0 : Int32)), .val (.ref b11), .val (.int p4), .val (.int ((((p4 + (own_brk f9 0 i t (0 : Int32))) + (own_brk f9 1 i t (0 : Int32))) + (own_brk f9 2 i t (0 : Int32))) + (own_brk f9 3 i t (0 : Int32)))), .unset, .unset, .unset] [])
        refine gIconst X17 hx (1 : Int32) (hb hby at_189) rfl ?_
        refine gGoto X17 hx 199 (hb hby at_190) (by decide) (by decide) ?_
        refine gIstore X17 hx #[.val (.int p0), .val (.int p1), .val (.int p2), .val (.int p3), .val (.int p4), .val (.int p5), .val (.ref b1), .val (.int (Int32.ofNat i)), .val (.int (Int32.ofNat t)), .val (.int (0 : Int32)), .val (.ref b11), .val (.int p4), .val (.int ((((p4 + (own_brk f9 0 i t (0 : Int32))) + (own_brk f9 1 i t (0 : Int32))) + (own_brk f9 2 i t (0 : Int32))) + (own_brk f9 3 i t (0 : Int32)))), .val (.int (1 : Int32)), .unset, .unset] (hb hby at_199) rfl ?_
        refine gAload X17 hx (hb hby at_201) rfl rfl ?_
        refine gAload X17 hx (hb hby at_203) rfl rfl ?_
        refine gIload X17 hx (hb hby at_205) rfl ?_
        refine gIload X17 hx (hb hby at_207) rfl ?_
        refine gVirtual X17 hx hZ (y := (⟨"com/example/renkei/renkei/reader/LineCount", "take", "([BII)V"⟩ : MethodName)) (a := b11) hown (by decide) (tw hw 26 rfl) (tw hw 27 rfl) (tw hw 28 rfl) (tw hw 29 rfl) (tw hw 7 rfl) (tw hw 30 rfl) Eq13 (own_rm6 l Z a0 hw i t b11 b1 T13.heap n0 Z_13 f9 p4 (0 : Int32) hit ht (by decide) V9__13 (Ne.symm (Nat.ne_of_lt lt_b1_b11)) Eq13 Fl Fb g_b11) e17 (by rw [hml]; rfl) (argsL := [(.ref b1), (.int (Int32.ofNat i)), (.int (Int32.ofNat t))]) (rest := []) (W := 0) (lenOf own_pd5 rfl) rfl (Nat.le_of_eq rfl) (by decide) (by decide) (by decide) (by decide) (hb hby at_209) ?_
        rintro _ T28 L28 X28 ⟨rfl, Nq28, Kq28, Eq28, Fq28, Gq28⟩
        have N_28 := Fr.app N_17 Nq28
        have V9__28 := V9__13.keep Kq28 (ninS (Nat.ne_of_lt lt_b1_b11) nin0)
        have Z_28 := Nat.le_trans Z_13 Kq28.1
        show Go _ _ _ _ _ _ _ T28 (mkF m 212 #[.val (.int p0), .val (.int p1), .val (.int p2), .val (.int p3), .val (.int p4), .val (.int p5), .val (.ref b1), .val (.int (Int32.ofNat i)), .val (.int (Int32.ofNat t)), .val (.int (0 : Int32)), .val (.ref b11), .val (.int p4), .val (.int ((((p4 + (own_brk f9 0 i t (0 : Int32))) + (own_brk f9 1 i t (0 : Int32))) + (own_brk f9 2 i t (0 : Int32))) + (own_brk f9 3 i t (0 : Int32)))), .val (.int (1 : Int32)), .unset, .unset] [])
        refine gAload X28 hx (hb hby at_212) rfl rfl ?_
        refine gVirtual X28 hx hZ (y := (⟨"com/example/renkei/renkei/reader/LineCount", "line", "()I"⟩ : MethodName)) (a := b11) hown (by decide) (tw hw 31 rfl) (tw hw 32 rfl) (tw hw 33 rfl) (tw hw 34 rfl) (tw hw 7 rfl) (tw hw 35 rfl) Eq28 (own_rm4 l Z a0 hw b11 T28.heap n0 Z_28 _ _ Eq28 Fq28 Gq28 g_b11) rfl (by rw [hml]; rfl) (argsL := []) (rest := []) (W := 0) (lenOf own_pd3 rfl) rfl (Nat.le_of_eq rfl) (by decide) (by decide) (by decide) (by decide) (hb hby at_214) ?_
        rintro _ T29 L29 X29 ⟨rfl, Nq29, e29⟩
        have N_29 := Fr.app N_28 Nq29
        show Go _ _ _ _ _ _ _ T29 (mkF m 217 #[.val (.int p0), .val (.int p1), .val (.int p2), .val (.int p3), .val (.int p4), .val (.int p5), .val (.ref b1), .val (.int (Int32.ofNat i)), .val (.int (Int32.ofNat t)), .val (.int (0 : Int32)), .val (.ref b11), .val (.int p4), .val (.int ((((p4 + (own_brk f9 0 i t (0 : Int32))) + (own_brk f9 1 i t (0 : Int32))) + (own_brk f9 2 i t (0 : Int32))) + (own_brk f9 3 i t (0 : Int32)))), .val (.int (1 : Int32)), .unset, .unset] [(.int (own_run f9 (t - i) i p4 (0 : Int32)).1)])
        refine gIstore X29 hx #[.val (.int p0), .val (.int p1), .val (.int p2), .val (.int p3), .val (.int p4), .val (.int p5), .val (.ref b1), .val (.int (Int32.ofNat i)), .val (.int (Int32.ofNat t)), .val (.int (0 : Int32)), .val (.ref b11), .val (.int p4), .val (.int ((((p4 + (own_brk f9 0 i t (0 : Int32))) + (own_brk f9 1 i t (0 : Int32))) + (own_brk f9 2 i t (0 : Int32))) + (own_brk f9 3 i t (0 : Int32)))), .val (.int (1 : Int32)), .val (.int (own_run f9 (t - i) i p4 (0 : Int32)).1), .unset] (hb hby at_217) rfl ?_
        refine gAload X29 hx (hb hby at_219) rfl rfl ?_
        refine gBipush X29 hx (10 : Int32) (hb hby at_221) rfl ?_
        refine gVirtual X29 hx hZ (y := (⟨"com/example/renkei/renkei/reader/LineCount", "take", "(I)V"⟩ : MethodName)) (a := b11) hown (by decide) (tw hw 36 rfl) (tw hw 37 rfl) (tw hw 38 rfl) (tw hw 39 rfl) (tw hw 7 rfl) (tw hw 40 rfl) Eq28 (own_rm3 l Z a0 hw b11 (10 : Int32) T28.heap n0 Z_28 (own_run f9 (t - i) i p4 (0 : Int32)).1 (own_run f9 (t - i) i p4 (0 : Int32)).2 Eq28 Fq28 Gq28 g_b11) e29 (by rw [hml]; rfl) (argsL := [(.int (10 : Int32))]) (rest := []) (W := 0) (lenOf own_pd2 rfl) rfl (Nat.le_of_eq rfl) (by decide) (by decide) (by decide) (by decide) (hb hby at_223) ?_
        rintro _ T30 L30 X30 ⟨rfl, Nq30, Kq30, Eq30, Fq30, Gq30⟩
        have N_30 := Fr.app N_29 Nq30
        have V9__30 := V9__28.keep Kq30 (ninS (Nat.ne_of_lt lt_b1_b11) nin0)
        have Z_30 := Nat.le_trans Z_28 Kq30.1
        show Go _ _ _ _ _ _ _ T30 (mkF m 226 #[.val (.int p0), .val (.int p1), .val (.int p2), .val (.int p3), .val (.int p4), .val (.int p5), .val (.ref b1), .val (.int (Int32.ofNat i)), .val (.int (Int32.ofNat t)), .val (.int (0 : Int32)), .val (.ref b11), .val (.int p4), .val (.int ((((p4 + (own_brk f9 0 i t (0 : Int32))) + (own_brk f9 1 i t (0 : Int32))) + (own_brk f9 2 i t (0 : Int32))) + (own_brk f9 3 i t (0 : Int32)))), .val (.int (1 : Int32)), .val (.int (own_run f9 (t - i) i p4 (0 : Int32)).1), .unset] [])
        refine gAload X30 hx (hb hby at_226) rfl rfl ?_
        refine gVirtual X30 hx hZ (y := (⟨"com/example/renkei/renkei/reader/LineCount", "line", "()I"⟩ : MethodName)) (a := b11) hown (by decide) (tw hw 31 rfl) (tw hw 32 rfl) (tw hw 33 rfl) (tw hw 34 rfl) (tw hw 7 rfl) (tw hw 35 rfl) Eq30 (own_rm4 l Z a0 hw b11 T30.heap n0 Z_30 _ _ Eq30 Fq30 Gq30 g_b11) rfl (by rw [hml]; rfl) (argsL := []) (rest := []) (W := 0) (lenOf own_pd3 rfl) rfl (Nat.le_of_eq rfl) (by decide) (by decide) (by decide) (by decide) (hb hby at_228) ?_
        rintro _ T31 L31 X31 ⟨rfl, Nq31, e31⟩
        have N_31 := Fr.app N_30 Nq31
        show Go _ _ _ _ _ _ _ T31 (mkF m 231 #[.val (.int p0), .val (.int p1), .val (.int p2), .val (.int p3), .val (.int p4), .val (.int p5), .val (.ref b1), .val (.int (Int32.ofNat i)), .val (.int (Int32.ofNat t)), .val (.int (0 : Int32)), .val (.ref b11), .val (.int p4), .val (.int ((((p4 + (own_brk f9 0 i t (0 : Int32))) + (own_brk f9 1 i t (0 : Int32))) + (own_brk f9 2 i t (0 : Int32))) + (own_brk f9 3 i t (0 : Int32)))), .val (.int (1 : Int32)), .val (.int (own_run f9 (t - i) i p4 (0 : Int32)).1), .unset] [(.int (own_tl (10 : Int32) (own_run f9 (t - i) i p4 (0 : Int32)).1 (own_run f9 (t - i) i p4 (0 : Int32)).2))])
        refine gIstore X31 hx #[.val (.int p0), .val (.int p1), .val (.int p2), .val (.int p3), .val (.int p4), .val (.int p5), .val (.ref b1), .val (.int (Int32.ofNat i)), .val (.int (Int32.ofNat t)), .val (.int (0 : Int32)), .val (.ref b11), .val (.int p4), .val (.int ((((p4 + (own_brk f9 0 i t (0 : Int32))) + (own_brk f9 1 i t (0 : Int32))) + (own_brk f9 2 i t (0 : Int32))) + (own_brk f9 3 i t (0 : Int32)))), .val (.int (1 : Int32)), .val (.int (own_run f9 (t - i) i p4 (0 : Int32)).1), .val (.int (own_tl (10 : Int32) (own_run f9 (t - i) i p4 (0 : Int32)).1 (own_run f9 (t - i) i p4 (0 : Int32)).2))] (hb hby at_231) rfl ?_
        refine gIload X31 hx (hb hby at_233) rfl ?_
        refine gIload X31 hx (hb hby at_235) rfl ?_
        refine gIcmp X31 hx 262 (hb hby at_237) (by decide) (by decide) (fun q => absurd (own_total _ _ _ hit ht) (o_neT q)) (fun _ => ?_)
        show Go _ _ _ _ _ _ _ T31 (mkF m 240 #[.val (.int p0), .val (.int p1), .val (.int p2), .val (.int p3), .val (.int p4), .val (.int p5), .val (.ref b1), .val (.int (Int32.ofNat i)), .val (.int (Int32.ofNat t)), .val (.int (0 : Int32)), .val (.ref b11), .val (.int p4), .val (.int ((((p4 + (own_brk f9 0 i t (0 : Int32))) + (own_brk f9 1 i t (0 : Int32))) + (own_brk f9 2 i t (0 : Int32))) + (own_brk f9 3 i t (0 : Int32)))), .val (.int (1 : Int32)), .val (.int (own_run f9 (t - i) i p4 (0 : Int32)).1), .val (.int (own_tl (10 : Int32) (own_run f9 (t - i) i p4 (0 : Int32)).1 (own_run f9 (t - i) i p4 (0 : Int32)).2))] [])
        refine gIload X31 hx (hb hby at_240) rfl ?_
        refine gIload X31 hx (hb hby at_242) rfl ?_
        refine gIload X31 hx (hb hby at_244) rfl ?_
        refine gIf X31 hx 253 (hb hby at_246) (by decide) (by decide) (fun q => absurd (o_eqT q) (by decide)) (fun _ => ?_)
        show Go _ _ _ _ _ _ _ T31 (mkF m 249 #[.val (.int p0), .val (.int p1), .val (.int p2), .val (.int p3), .val (.int p4), .val (.int p5), .val (.ref b1), .val (.int (Int32.ofNat i)), .val (.int (Int32.ofNat t)), .val (.int (0 : Int32)), .val (.ref b11), .val (.int p4), .val (.int ((((p4 + (own_brk f9 0 i t (0 : Int32))) + (own_brk f9 1 i t (0 : Int32))) + (own_brk f9 2 i t (0 : Int32))) + (own_brk f9 3 i t (0 : Int32)))), .val (.int (1 : Int32)), .val (.int (own_run f9 (t - i) i p4 (0 : Int32)).1), .val (.int (own_tl (10 : Int32) (own_run f9 (t - i) i p4 (0 : Int32)).1 (own_run f9 (t - i) i p4 (0 : Int32)).2))] [(.int ((((p4 + (own_brk f9 0 i t (0 : Int32))) + (own_brk f9 1 i t (0 : Int32))) + (own_brk f9 2 i t (0 : Int32))) + (own_brk f9 3 i t (0 : Int32)))), (.int (own_tl (10 : Int32) (own_run f9 (t - i) i p4 (0 : Int32)).1 (own_run f9 (t - i) i p4 (0 : Int32)).2))])
        refine gIconst X31 hx (0 : Int32) (hb hby at_249) rfl ?_
        refine gGoto X31 hx 254 (hb hby at_250) (by decide) (by decide) ?_
        refine gIadd X31 hx (hb hby at_254) ?_
        refine gIcmp X31 hx 262 (hb hby at_255) (by decide) (by decide) (fun q => absurd (own_aft1 ((own_endB _ _ _ hc18n).trans (if_pos hc23)) (own_total _ _ _ hit ht)) (o_neT q)) (fun _ => ?_)
        show Go _ _ _ _ _ _ _ T31 (mkF m 258 #[.val (.int p0), .val (.int p1), .val (.int p2), .val (.int p3), .val (.int p4), .val (.int p5), .val (.ref b1), .val (.int (Int32.ofNat i)), .val (.int (Int32.ofNat t)), .val (.int (0 : Int32)), .val (.ref b11), .val (.int p4), .val (.int ((((p4 + (own_brk f9 0 i t (0 : Int32))) + (own_brk f9 1 i t (0 : Int32))) + (own_brk f9 2 i t (0 : Int32))) + (own_brk f9 3 i t (0 : Int32)))), .val (.int (1 : Int32)), .val (.int (own_run f9 (t - i) i p4 (0 : Int32)).1), .val (.int (own_tl (10 : Int32) (own_run f9 (t - i) i p4 (0 : Int32)).1 (own_run f9 (t - i) i p4 (0 : Int32)).2))] [])
        refine gIconst X31 hx (1 : Int32) (hb hby at_258) rfl ?_
        refine gGoto X31 hx 263 (hb hby at_259) (by decide) (by decide) ?_
        exact gRetZ X31 hx hlk hret (by simp) (hb hby at_263) (z' := (1 : Int32)) rfl (by decide) (by decide) ⟨rfl, N_31⟩
  · have hc10 := o_eqF hT
    show Go _ _ _ _ _ _ _ T9 (mkF m 69 #[.val (.int p0), .val (.int p1), .val (.int p2), .val (.int p3), .val (.int p4), .val (.int p5), .val (.ref b1), .val (.int (Int32.ofNat i)), .val (.int (Int32.ofNat t)), .unset, .unset, .unset, .unset, .unset, .unset, .unset] [])
    refine gIconst X9 hx (1 : Int32) (hb hby at_69) rfl ?_
    refine gGoto X9 hx 74 (hb hby at_70) (by decide) (by decide) ?_
    refine gIstore X9 hx #[.val (.int p0), .val (.int p1), .val (.int p2), .val (.int p3), .val (.int p4), .val (.int p5), .val (.ref b1), .val (.int (Int32.ofNat i)), .val (.int (Int32.ofNat t)), .val (.int (1 : Int32)), .unset, .unset, .unset, .unset, .unset, .unset] (hb hby at_74) rfl ?_
    refine gNew X9 hx hZ hown (tw hw 5 rfl) (tw hw 6 rfl) (tw hw 7 rfl) e9 (hb hby at_76) (by decide) (by decide) ?_
    intro T32 h32 b32 X32 e32 E32 g32 A32 D32
    have lt_b1_b32 : b1 < b32 := by rw [g32]; exact V9_.lt
    have g_b32 : n0 ≤ b32 := by rw [g32]; exact Z_9
    have V9___32 := V9_.ext E32
    have Z_32 := Nat.le_trans Z_9 E32.1
    have F_line_b32 : Fld Z h32 b32 "com/example/renkei/renkei/reader/LineCount" "line" "I" (.int (0 : Int32)) := D32 (Or.inl (tw hw 15 rfl)) (ty := .int) (by decide)
    have F_afterCarriageReturn_b32 : Fld Z h32 b32 "com/example/renkei/renkei/reader/LineCount" "afterCarriageReturn" "Z" (.int (0 : Int32)) := D32 (Or.inl (tw hw 22 rfl)) (ty := .boolean) (by decide)
    show Go _ _ _ _ _ _ _ T32 (mkF m 79 #[.val (.int p0), .val (.int p1), .val (.int p2), .val (.int p3), .val (.int p4), .val (.int p5), .val (.ref b1), .val (.int (Int32.ofNat i)), .val (.int (Int32.ofNat t)), .val (.int (1 : Int32)), .unset, .unset, .unset, .unset, .unset, .unset] [(.ref b32)])
    refine gDup X32 hx (hb hby at_79) rfl ?_
    refine gInit X32 hx hZ (y := (⟨"com/example/renkei/renkei/reader/LineCount", "<init>", "()V"⟩ : MethodName)) (a := b32) hown rfl (by decide) (tw hw 8 rfl) (tw hw 9 rfl) (tw hw 7 rfl) (tw hw 10 rfl) (own_rm1 l Z a0 hw b32 h32 n0 Z_32 (0 : Int32) (0 : Int32) A32 F_line_b32 F_afterCarriageReturn_b32 g_b32) e32 (by rw [hml]; rfl) (argsL := []) (rest := [(.ref b32)]) (W := 1) (lenOf own_pd1 rfl) rfl (Nat.le_of_eq rfl) (by decide) (by decide) (by decide) (by decide) (hb hby at_80) ?_
    rintro _ T33 L33 X33 ⟨rfl, Nq33, Kq33, Eq33, Fq33, Gq33⟩
    have N_33 := Fr.app N_9 Nq33
    have V9__33 := V9___32.keep Kq33 (ninS (Nat.ne_of_lt lt_b1_b32) nin0)
    have Z_33 := Nat.le_trans Z_32 Kq33.1
    show Go _ _ _ _ _ _ _ T33 (mkF m 83 #[.val (.int p0), .val (.int p1), .val (.int p2), .val (.int p3), .val (.int p4), .val (.int p5), .val (.ref b1), .val (.int (Int32.ofNat i)), .val (.int (Int32.ofNat t)), .val (.int (1 : Int32)), .unset, .unset, .unset, .unset, .unset, .unset] [(.ref b32)])
    refine gAstore X33 hx #[.val (.int p0), .val (.int p1), .val (.int p2), .val (.int p3), .val (.int p4), .val (.int p5), .val (.ref b1), .val (.int (Int32.ofNat i)), .val (.int (Int32.ofNat t)), .val (.int (1 : Int32)), .val (.ref b32), .unset, .unset, .unset, .unset, .unset] (hb hby at_83) rfl rfl ?_
    refine gAload X33 hx (hb hby at_85) rfl rfl ?_
    refine gIload X33 hx (hb hby at_87) rfl ?_
    refine gVirtual X33 hx hZ (y := (⟨"com/example/renkei/renkei/reader/LineCount", "set", "(I)V"⟩ : MethodName)) (a := b32) hown (by decide) (tw hw 16 rfl) (tw hw 17 rfl) (tw hw 18 rfl) (tw hw 19 rfl) (tw hw 7 rfl) (tw hw 20 rfl) Eq33 (own_rm2 l Z a0 hw b32 p4 T33.heap n0 Z_33 (1 : Int32) (0 : Int32) Eq33 Fq33 Gq33 g_b32) rfl (by rw [hml]; rfl) (argsL := [(.int p4)]) (rest := []) (W := 0) (lenOf own_pd2 rfl) rfl (Nat.le_of_eq rfl) (by decide) (by decide) (by decide) (by decide) (hb hby at_89) ?_
    rintro _ T34 L34 X34 ⟨rfl, Nq34, Kq34, Eq34, Fq34, Gq34⟩
    have N_34 := Fr.app N_33 Nq34
    have V9__34 := V9__33.keep Kq34 (ninS (Nat.ne_of_lt lt_b1_b32) nin0)
    have Z_34 := Nat.le_trans Z_33 Kq34.1
    show Go _ _ _ _ _ _ _ T34 (mkF m 92 #[.val (.int p0), .val (.int p1), .val (.int p2), .val (.int p3), .val (.int p4), .val (.int p5), .val (.ref b1), .val (.int (Int32.ofNat i)), .val (.int (Int32.ofNat t)), .val (.int (1 : Int32)), .val (.ref b32), .unset, .unset, .unset, .unset, .unset] [])
    refine gIload X34 hx (hb hby at_92) rfl ?_
    refine gIstore X34 hx #[.val (.int p0), .val (.int p1), .val (.int p2), .val (.int p3), .val (.int p4), .val (.int p5), .val (.ref b1), .val (.int (Int32.ofNat i)), .val (.int (Int32.ofNat t)), .val (.int (1 : Int32)), .val (.ref b32), .val (.int p4), .unset, .unset, .unset, .unset] (hb hby at_94) rfl ?_
    refine gIload X34 hx (hb hby at_96) rfl ?_
    refine gIf X34 hx 114 (hb hby at_98) (by decide) (by decide) (fun q => absurd (o_eqT q) (by decide)) (fun _ => ?_)
    show Go _ _ _ _ _ _ _ T34 (mkF m 101 #[.val (.int p0), .val (.int p1), .val (.int p2), .val (.int p3), .val (.int p4), .val (.int p5), .val (.ref b1), .val (.int (Int32.ofNat i)), .val (.int (Int32.ofNat t)), .val (.int (1 : Int32)), .val (.ref b32), .val (.int p4), .unset, .unset, .unset, .unset] [])
    refine gAload X34 hx (hb hby at_101) rfl rfl ?_
    refine gBipush X34 hx (13 : Int32) (hb hby at_103) rfl ?_
    refine gVirtual X34 hx hZ (y := (⟨"com/example/renkei/renkei/reader/LineCount", "take", "(I)V"⟩ : MethodName)) (a := b32) hown (by decide) (tw hw 36 rfl) (tw hw 37 rfl) (tw hw 38 rfl) (tw hw 39 rfl) (tw hw 7 rfl) (tw hw 40 rfl) Eq34 (own_rm3 l Z a0 hw b32 (13 : Int32) T34.heap n0 Z_34 p4 (0 : Int32) Eq34 Fq34 Gq34 g_b32) rfl (by rw [hml]; rfl) (argsL := [(.int (13 : Int32))]) (rest := []) (W := 0) (lenOf own_pd2 rfl) rfl (Nat.le_of_eq rfl) (by decide) (by decide) (by decide) (by decide) (hb hby at_105) ?_
    rintro _ T35 L35 X35 ⟨rfl, Nq35, Kq35, Eq35, Fq35, Gq35⟩
    have N_35 := Fr.app N_34 Nq35
    have V9__35 := V9__34.keep Kq35 (ninS (Nat.ne_of_lt lt_b1_b32) nin0)
    have Z_35 := Nat.le_trans Z_34 Kq35.1
    show Go _ _ _ _ _ _ _ T35 (mkF m 108 #[.val (.int p0), .val (.int p1), .val (.int p2), .val (.int p3), .val (.int p4), .val (.int p5), .val (.ref b1), .val (.int (Int32.ofNat i)), .val (.int (Int32.ofNat t)), .val (.int (1 : Int32)), .val (.ref b32), .val (.int p4), .unset, .unset, .unset, .unset] [])
    refine gIload X35 hx (hb hby at_108) rfl ?_
    refine gIconst X35 hx (1 : Int32) (hb hby at_110) rfl ?_
    refine gIadd X35 hx (hb hby at_111) ?_
    refine gIstore X35 hx #[.val (.int p0), .val (.int p1), .val (.int p2), .val (.int p3), .val (.int p4), .val (.int p5), .val (.ref b1), .val (.int (Int32.ofNat i)), .val (.int (Int32.ofNat t)), .val (.int (1 : Int32)), .val (.ref b32), .val (.int (p4 + (1 : Int32))), .unset, .unset, .unset, .unset] (hb hby at_112) rfl ?_
    have Fl : Fld Z T35.heap b32 "com/example/renkei/renkei/reader/LineCount" "line" "I" (.int (p4 + (1 : Int32))) := Fq35
    have Fb : Fld Z T35.heap b32 "com/example/renkei/renkei/reader/LineCount" "afterCarriageReturn" "Z" (.int (1 : Int32)) := Gq35
    refine gIload X35 hx (hb hby at_114) rfl ?_
    refine gAload X35 hx (hb hby at_116) rfl rfl ?_
    refine gIconst X35 hx (0 : Int32) (hb hby at_118) rfl ?_
    refine gIload X35 hx (hb hby at_119) rfl ?_
    refine gIload X35 hx (hb hby at_121) rfl ?_
    refine gIload X35 hx (hb hby at_123) rfl ?_
    refine gStatic X35 hx hZ (y := (⟨"com/example/renkei/renkei/reader/LineCountTakePinLaw", "brk", "([BIIIZ)I"⟩ : MethodName)) hown (by decide) (tw hw 23 rfl) (tw hw 24 rfl) (tw hw 3 rfl) (tw hw 25 rfl) (own_rm5 l Z a0 hw 0 i t b1 (1 : Int32) T35.heap n0 Z_35 f9 (by decide) hi ht V9__35) rfl (by rw [hml]; rfl) (argsL := [(.ref b1), (.int (0 : Int32)), (.int (Int32.ofNat i)), (.int (Int32.ofNat t)), (.int (1 : Int32))]) (rest := [(.int (p4 + (1 : Int32)))]) (W := 1) (lenOf own_pd4 rfl) rfl (Nat.le_of_eq rfl) (by decide) (by decide) (by decide) (by decide) (hb hby at_125) ?_
    rintro _ T36 L36 X36 ⟨rfl, Nq36, e36⟩
    have N_36 := Fr.app N_35 Nq36
    show Go _ _ _ _ _ _ _ T36 (mkF m 128 #[.val (.int p0), .val (.int p1), .val (.int p2), .val (.int p3), .val (.int p4), .val (.int p5), .val (.ref b1), .val (.int (Int32.ofNat i)), .val (.int (Int32.ofNat t)), .val (.int (1 : Int32)), .val (.ref b32), .val (.int (p4 + (1 : Int32))), .unset, .unset, .unset, .unset] [(.int (own_brk f9 0 i t (1 : Int32))), (.int (p4 + (1 : Int32)))])
    refine gIadd X36 hx (hb hby at_128) ?_
    refine gAload X36 hx (hb hby at_129) rfl rfl ?_
    refine gIconst X36 hx (1 : Int32) (hb hby at_131) rfl ?_
    refine gIload X36 hx (hb hby at_132) rfl ?_
    refine gIload X36 hx (hb hby at_134) rfl ?_
    refine gIload X36 hx (hb hby at_136) rfl ?_
    refine gStatic X36 hx hZ (y := (⟨"com/example/renkei/renkei/reader/LineCountTakePinLaw", "brk", "([BIIIZ)I"⟩ : MethodName)) hown (by decide) (tw hw 23 rfl) (tw hw 24 rfl) (tw hw 3 rfl) (tw hw 25 rfl) (own_rm5 l Z a0 hw 1 i t b1 (1 : Int32) T35.heap n0 Z_35 f9 (by decide) hi ht V9__35) e36 (by rw [hml]; rfl) (argsL := [(.ref b1), (.int (1 : Int32)), (.int (Int32.ofNat i)), (.int (Int32.ofNat t)), (.int (1 : Int32))]) (rest := [(.int ((p4 + (1 : Int32)) + (own_brk f9 0 i t (1 : Int32))))]) (W := 1) (lenOf own_pd4 rfl) rfl (Nat.le_of_eq rfl) (by decide) (by decide) (by decide) (by decide) (hb hby at_138) ?_
    rintro _ T37 L37 X37 ⟨rfl, Nq37, e37⟩
    have N_37 := Fr.app N_36 Nq37
    show Go _ _ _ _ _ _ _ T37 (mkF m 141 #[.val (.int p0), .val (.int p1), .val (.int p2), .val (.int p3), .val (.int p4), .val (.int p5), .val (.ref b1), .val (.int (Int32.ofNat i)), .val (.int (Int32.ofNat t)), .val (.int (1 : Int32)), .val (.ref b32), .val (.int (p4 + (1 : Int32))), .unset, .unset, .unset, .unset] [(.int (own_brk f9 1 i t (1 : Int32))), (.int ((p4 + (1 : Int32)) + (own_brk f9 0 i t (1 : Int32))))])
    refine gIadd X37 hx (hb hby at_141) ?_
    refine gAload X37 hx (hb hby at_142) rfl rfl ?_
    refine gIconst X37 hx (2 : Int32) (hb hby at_144) rfl ?_
    refine gIload X37 hx (hb hby at_145) rfl ?_
    refine gIload X37 hx (hb hby at_147) rfl ?_
    refine gIload X37 hx (hb hby at_149) rfl ?_
    refine gStatic X37 hx hZ (y := (⟨"com/example/renkei/renkei/reader/LineCountTakePinLaw", "brk", "([BIIIZ)I"⟩ : MethodName)) hown (by decide) (tw hw 23 rfl) (tw hw 24 rfl) (tw hw 3 rfl) (tw hw 25 rfl) (own_rm5 l Z a0 hw 2 i t b1 (1 : Int32) T35.heap n0 Z_35 f9 (by decide) hi ht V9__35) e37 (by rw [hml]; rfl) (argsL := [(.ref b1), (.int (2 : Int32)), (.int (Int32.ofNat i)), (.int (Int32.ofNat t)), (.int (1 : Int32))]) (rest := [(.int (((p4 + (1 : Int32)) + (own_brk f9 0 i t (1 : Int32))) + (own_brk f9 1 i t (1 : Int32))))]) (W := 1) (lenOf own_pd4 rfl) rfl (Nat.le_of_eq rfl) (by decide) (by decide) (by decide) (by decide) (hb hby at_151) ?_
    rintro _ T38 L38 X38 ⟨rfl, Nq38, e38⟩
    have N_38 := Fr.app N_37 Nq38
    show Go _ _ _ _ _ _ _ T38 (mkF m 154 #[.val (.int p0), .val (.int p1), .val (.int p2), .val (.int p3), .val (.int p4), .val (.int p5), .val (.ref b1), .val (.int (Int32.ofNat i)), .val (.int (Int32.ofNat t)), .val (.int (1 : Int32)), .val (.ref b32), .val (.int (p4 + (1 : Int32))), .unset, .unset, .unset, .unset] [(.int (own_brk f9 2 i t (1 : Int32))), (.int (((p4 + (1 : Int32)) + (own_brk f9 0 i t (1 : Int32))) + (own_brk f9 1 i t (1 : Int32))))])
    refine gIadd X38 hx (hb hby at_154) ?_
    refine gAload X38 hx (hb hby at_155) rfl rfl ?_
    refine gIconst X38 hx (3 : Int32) (hb hby at_157) rfl ?_
    refine gIload X38 hx (hb hby at_158) rfl ?_
    refine gIload X38 hx (hb hby at_160) rfl ?_
    refine gIload X38 hx (hb hby at_162) rfl ?_
    refine gStatic X38 hx hZ (y := (⟨"com/example/renkei/renkei/reader/LineCountTakePinLaw", "brk", "([BIIIZ)I"⟩ : MethodName)) hown (by decide) (tw hw 23 rfl) (tw hw 24 rfl) (tw hw 3 rfl) (tw hw 25 rfl) (own_rm5 l Z a0 hw 3 i t b1 (1 : Int32) T35.heap n0 Z_35 f9 (by decide) hi ht V9__35) e38 (by rw [hml]; rfl) (argsL := [(.ref b1), (.int (3 : Int32)), (.int (Int32.ofNat i)), (.int (Int32.ofNat t)), (.int (1 : Int32))]) (rest := [(.int ((((p4 + (1 : Int32)) + (own_brk f9 0 i t (1 : Int32))) + (own_brk f9 1 i t (1 : Int32))) + (own_brk f9 2 i t (1 : Int32))))]) (W := 1) (lenOf own_pd4 rfl) rfl (Nat.le_of_eq rfl) (by decide) (by decide) (by decide) (by decide) (hb hby at_164) ?_
    rintro _ T39 L39 X39 ⟨rfl, Nq39, e39⟩
    have N_39 := Fr.app N_38 Nq39
    show Go _ _ _ _ _ _ _ T39 (mkF m 167 #[.val (.int p0), .val (.int p1), .val (.int p2), .val (.int p3), .val (.int p4), .val (.int p5), .val (.ref b1), .val (.int (Int32.ofNat i)), .val (.int (Int32.ofNat t)), .val (.int (1 : Int32)), .val (.ref b32), .val (.int (p4 + (1 : Int32))), .unset, .unset, .unset, .unset] [(.int (own_brk f9 3 i t (1 : Int32))), (.int ((((p4 + (1 : Int32)) + (own_brk f9 0 i t (1 : Int32))) + (own_brk f9 1 i t (1 : Int32))) + (own_brk f9 2 i t (1 : Int32))))])
    refine gIadd X39 hx (hb hby at_167) ?_
    refine gIstore X39 hx #[.val (.int p0), .val (.int p1), .val (.int p2), .val (.int p3), .val (.int p4), .val (.int p5), .val (.ref b1), .val (.int (Int32.ofNat i)), .val (.int (Int32.ofNat t)), .val (.int (1 : Int32)), .val (.ref b32), .val (.int (p4 + (1 : Int32))), .val (.int (((((p4 + (1 : Int32)) + (own_brk f9 0 i t (1 : Int32))) + (own_brk f9 1 i t (1 : Int32))) + (own_brk f9 2 i t (1 : Int32))) + (own_brk f9 3 i t (1 : Int32)))), .unset, .unset, .unset] (hb hby at_168) rfl ?_
    refine gIload X39 hx (hb hby at_170) rfl ?_
    refine gIload X39 hx (hb hby at_172) rfl ?_
    refine gIcmp X39 hx 197 (hb hby at_174) (by decide) (by decide) (fun hT => ?_) (fun hT => ?_)
    · have hc40 := o_leT hT
      have hc40n := mt (own_lt (by omega) (by omega)).mpr hc40
      show Go _ _ _ _ _ _ _ T39 (mkF m 197 #[.val (.int p0), .val (.int p1), .val (.int p2), .val (.int p3), .val (.int p4), .val (.int p5), .val (.ref b1), .val (.int (Int32.ofNat i)), .val (.int (Int32.ofNat t)), .val (.int (1 : Int32)), .val (.ref b32), .val (.int (p4 + (1 : Int32))), .val (.int (((((p4 + (1 : Int32)) + (own_brk f9 0 i t (1 : Int32))) + (own_brk f9 1 i t (1 : Int32))) + (own_brk f9 2 i t (1 : Int32))) + (own_brk f9 3 i t (1 : Int32)))), .unset, .unset, .unset] [])
      refine gIload X39 hx (hb hby at_197) rfl ?_
      refine gIstore X39 hx #[.val (.int p0), .val (.int p1), .val (.int p2), .val (.int p3), .val (.int p4), .val (.int p5), .val (.ref b1), .val (.int (Int32.ofNat i)), .val (.int (Int32.ofNat t)), .val (.int (1 : Int32)), .val (.ref b32), .val (.int (p4 + (1 : Int32))), .val (.int (((((p4 + (1 : Int32)) + (own_brk f9 0 i t (1 : Int32))) + (own_brk f9 1 i t (1 : Int32))) + (own_brk f9 2 i t (1 : Int32))) + (own_brk f9 3 i t (1 : Int32)))), .val (.int (1 : Int32)), .unset, .unset] (hb hby at_199) rfl ?_
      refine gAload X39 hx (hb hby at_201) rfl rfl ?_
      refine gAload X39 hx (hb hby at_203) rfl rfl ?_
      refine gIload X39 hx (hb hby at_205) rfl ?_
      refine gIload X39 hx (hb hby at_207) rfl ?_
      refine gVirtual X39 hx hZ (y := (⟨"com/example/renkei/renkei/reader/LineCount", "take", "([BII)V"⟩ : MethodName)) (a := b32) hown (by decide) (tw hw 26 rfl) (tw hw 27 rfl) (tw hw 28 rfl) (tw hw 29 rfl) (tw hw 7 rfl) (tw hw 30 rfl) Eq35 (own_rm6 l Z a0 hw i t b32 b1 T35.heap n0 Z_35 f9 (p4 + (1 : Int32)) (1 : Int32) hit ht (by decide) V9__35 (Ne.symm (Nat.ne_of_lt lt_b1_b32)) Eq35 Fl Fb g_b32) e39 (by rw [hml]; rfl) (argsL := [(.ref b1), (.int (Int32.ofNat i)), (.int (Int32.ofNat t))]) (rest := []) (W := 0) (lenOf own_pd5 rfl) rfl (Nat.le_of_eq rfl) (by decide) (by decide) (by decide) (by decide) (hb hby at_209) ?_
      rintro _ T41 L41 X41 ⟨rfl, Nq41, Kq41, Eq41, Fq41, Gq41⟩
      have N_41 := Fr.app N_39 Nq41
      have V9__41 := V9__35.keep Kq41 (ninS (Nat.ne_of_lt lt_b1_b32) nin0)
      have Z_41 := Nat.le_trans Z_35 Kq41.1
      show Go _ _ _ _ _ _ _ T41 (mkF m 212 #[.val (.int p0), .val (.int p1), .val (.int p2), .val (.int p3), .val (.int p4), .val (.int p5), .val (.ref b1), .val (.int (Int32.ofNat i)), .val (.int (Int32.ofNat t)), .val (.int (1 : Int32)), .val (.ref b32), .val (.int (p4 + (1 : Int32))), .val (.int (((((p4 + (1 : Int32)) + (own_brk f9 0 i t (1 : Int32))) + (own_brk f9 1 i t (1 : Int32))) + (own_brk f9 2 i t (1 : Int32))) + (own_brk f9 3 i t (1 : Int32)))), .val (.int (1 : Int32)), .unset, .unset] [])
      refine gAload X41 hx (hb hby at_212) rfl rfl ?_
      refine gVirtual X41 hx hZ (y := (⟨"com/example/renkei/renkei/reader/LineCount", "line", "()I"⟩ : MethodName)) (a := b32) hown (by decide) (tw hw 31 rfl) (tw hw 32 rfl) (tw hw 33 rfl) (tw hw 34 rfl) (tw hw 7 rfl) (tw hw 35 rfl) Eq41 (own_rm4 l Z a0 hw b32 T41.heap n0 Z_41 _ _ Eq41 Fq41 Gq41 g_b32) rfl (by rw [hml]; rfl) (argsL := []) (rest := []) (W := 0) (lenOf own_pd3 rfl) rfl (Nat.le_of_eq rfl) (by decide) (by decide) (by decide) (by decide) (hb hby at_214) ?_
      rintro _ T42 L42 X42 ⟨rfl, Nq42, e42⟩
      have N_42 := Fr.app N_41 Nq42
      show Go _ _ _ _ _ _ _ T42 (mkF m 217 #[.val (.int p0), .val (.int p1), .val (.int p2), .val (.int p3), .val (.int p4), .val (.int p5), .val (.ref b1), .val (.int (Int32.ofNat i)), .val (.int (Int32.ofNat t)), .val (.int (1 : Int32)), .val (.ref b32), .val (.int (p4 + (1 : Int32))), .val (.int (((((p4 + (1 : Int32)) + (own_brk f9 0 i t (1 : Int32))) + (own_brk f9 1 i t (1 : Int32))) + (own_brk f9 2 i t (1 : Int32))) + (own_brk f9 3 i t (1 : Int32)))), .val (.int (1 : Int32)), .unset, .unset] [(.int (own_run f9 (t - i) i (p4 + (1 : Int32)) (1 : Int32)).1)])
      refine gIstore X42 hx #[.val (.int p0), .val (.int p1), .val (.int p2), .val (.int p3), .val (.int p4), .val (.int p5), .val (.ref b1), .val (.int (Int32.ofNat i)), .val (.int (Int32.ofNat t)), .val (.int (1 : Int32)), .val (.ref b32), .val (.int (p4 + (1 : Int32))), .val (.int (((((p4 + (1 : Int32)) + (own_brk f9 0 i t (1 : Int32))) + (own_brk f9 1 i t (1 : Int32))) + (own_brk f9 2 i t (1 : Int32))) + (own_brk f9 3 i t (1 : Int32)))), .val (.int (1 : Int32)), .val (.int (own_run f9 (t - i) i (p4 + (1 : Int32)) (1 : Int32)).1), .unset] (hb hby at_217) rfl ?_
      refine gAload X42 hx (hb hby at_219) rfl rfl ?_
      refine gBipush X42 hx (10 : Int32) (hb hby at_221) rfl ?_
      refine gVirtual X42 hx hZ (y := (⟨"com/example/renkei/renkei/reader/LineCount", "take", "(I)V"⟩ : MethodName)) (a := b32) hown (by decide) (tw hw 36 rfl) (tw hw 37 rfl) (tw hw 38 rfl) (tw hw 39 rfl) (tw hw 7 rfl) (tw hw 40 rfl) Eq41 (own_rm3 l Z a0 hw b32 (10 : Int32) T41.heap n0 Z_41 (own_run f9 (t - i) i (p4 + (1 : Int32)) (1 : Int32)).1 (own_run f9 (t - i) i (p4 + (1 : Int32)) (1 : Int32)).2 Eq41 Fq41 Gq41 g_b32) e42 (by rw [hml]; rfl) (argsL := [(.int (10 : Int32))]) (rest := []) (W := 0) (lenOf own_pd2 rfl) rfl (Nat.le_of_eq rfl) (by decide) (by decide) (by decide) (by decide) (hb hby at_223) ?_
      rintro _ T43 L43 X43 ⟨rfl, Nq43, Kq43, Eq43, Fq43, Gq43⟩
      have N_43 := Fr.app N_42 Nq43
      have V9__43 := V9__41.keep Kq43 (ninS (Nat.ne_of_lt lt_b1_b32) nin0)
      have Z_43 := Nat.le_trans Z_41 Kq43.1
      show Go _ _ _ _ _ _ _ T43 (mkF m 226 #[.val (.int p0), .val (.int p1), .val (.int p2), .val (.int p3), .val (.int p4), .val (.int p5), .val (.ref b1), .val (.int (Int32.ofNat i)), .val (.int (Int32.ofNat t)), .val (.int (1 : Int32)), .val (.ref b32), .val (.int (p4 + (1 : Int32))), .val (.int (((((p4 + (1 : Int32)) + (own_brk f9 0 i t (1 : Int32))) + (own_brk f9 1 i t (1 : Int32))) + (own_brk f9 2 i t (1 : Int32))) + (own_brk f9 3 i t (1 : Int32)))), .val (.int (1 : Int32)), .val (.int (own_run f9 (t - i) i (p4 + (1 : Int32)) (1 : Int32)).1), .unset] [])
      refine gAload X43 hx (hb hby at_226) rfl rfl ?_
      refine gVirtual X43 hx hZ (y := (⟨"com/example/renkei/renkei/reader/LineCount", "line", "()I"⟩ : MethodName)) (a := b32) hown (by decide) (tw hw 31 rfl) (tw hw 32 rfl) (tw hw 33 rfl) (tw hw 34 rfl) (tw hw 7 rfl) (tw hw 35 rfl) Eq43 (own_rm4 l Z a0 hw b32 T43.heap n0 Z_43 _ _ Eq43 Fq43 Gq43 g_b32) rfl (by rw [hml]; rfl) (argsL := []) (rest := []) (W := 0) (lenOf own_pd3 rfl) rfl (Nat.le_of_eq rfl) (by decide) (by decide) (by decide) (by decide) (hb hby at_228) ?_
      rintro _ T44 L44 X44 ⟨rfl, Nq44, e44⟩
      have N_44 := Fr.app N_43 Nq44
      show Go _ _ _ _ _ _ _ T44 (mkF m 231 #[.val (.int p0), .val (.int p1), .val (.int p2), .val (.int p3), .val (.int p4), .val (.int p5), .val (.ref b1), .val (.int (Int32.ofNat i)), .val (.int (Int32.ofNat t)), .val (.int (1 : Int32)), .val (.ref b32), .val (.int (p4 + (1 : Int32))), .val (.int (((((p4 + (1 : Int32)) + (own_brk f9 0 i t (1 : Int32))) + (own_brk f9 1 i t (1 : Int32))) + (own_brk f9 2 i t (1 : Int32))) + (own_brk f9 3 i t (1 : Int32)))), .val (.int (1 : Int32)), .val (.int (own_run f9 (t - i) i (p4 + (1 : Int32)) (1 : Int32)).1), .unset] [(.int (own_tl (10 : Int32) (own_run f9 (t - i) i (p4 + (1 : Int32)) (1 : Int32)).1 (own_run f9 (t - i) i (p4 + (1 : Int32)) (1 : Int32)).2))])
      refine gIstore X44 hx #[.val (.int p0), .val (.int p1), .val (.int p2), .val (.int p3), .val (.int p4), .val (.int p5), .val (.ref b1), .val (.int (Int32.ofNat i)), .val (.int (Int32.ofNat t)), .val (.int (1 : Int32)), .val (.ref b32), .val (.int (p4 + (1 : Int32))), .val (.int (((((p4 + (1 : Int32)) + (own_brk f9 0 i t (1 : Int32))) + (own_brk f9 1 i t (1 : Int32))) + (own_brk f9 2 i t (1 : Int32))) + (own_brk f9 3 i t (1 : Int32)))), .val (.int (1 : Int32)), .val (.int (own_run f9 (t - i) i (p4 + (1 : Int32)) (1 : Int32)).1), .val (.int (own_tl (10 : Int32) (own_run f9 (t - i) i (p4 + (1 : Int32)) (1 : Int32)).1 (own_run f9 (t - i) i (p4 + (1 : Int32)) (1 : Int32)).2))] (hb hby at_231) rfl ?_
      refine gIload X44 hx (hb hby at_233) rfl ?_
      refine gIload X44 hx (hb hby at_235) rfl ?_
      refine gIcmp X44 hx 262 (hb hby at_237) (by decide) (by decide) (fun q => absurd (own_total _ _ _ hit ht) (o_neT q)) (fun _ => ?_)
      show Go _ _ _ _ _ _ _ T44 (mkF m 240 #[.val (.int p0), .val (.int p1), .val (.int p2), .val (.int p3), .val (.int p4), .val (.int p5), .val (.ref b1), .val (.int (Int32.ofNat i)), .val (.int (Int32.ofNat t)), .val (.int (1 : Int32)), .val (.ref b32), .val (.int (p4 + (1 : Int32))), .val (.int (((((p4 + (1 : Int32)) + (own_brk f9 0 i t (1 : Int32))) + (own_brk f9 1 i t (1 : Int32))) + (own_brk f9 2 i t (1 : Int32))) + (own_brk f9 3 i t (1 : Int32)))), .val (.int (1 : Int32)), .val (.int (own_run f9 (t - i) i (p4 + (1 : Int32)) (1 : Int32)).1), .val (.int (own_tl (10 : Int32) (own_run f9 (t - i) i (p4 + (1 : Int32)) (1 : Int32)).1 (own_run f9 (t - i) i (p4 + (1 : Int32)) (1 : Int32)).2))] [])
      refine gIload X44 hx (hb hby at_240) rfl ?_
      refine gIload X44 hx (hb hby at_242) rfl ?_
      refine gIload X44 hx (hb hby at_244) rfl ?_
      refine gIf X44 hx 253 (hb hby at_246) (by decide) (by decide) (fun q => absurd (o_eqT q) (by decide)) (fun _ => ?_)
      show Go _ _ _ _ _ _ _ T44 (mkF m 249 #[.val (.int p0), .val (.int p1), .val (.int p2), .val (.int p3), .val (.int p4), .val (.int p5), .val (.ref b1), .val (.int (Int32.ofNat i)), .val (.int (Int32.ofNat t)), .val (.int (1 : Int32)), .val (.ref b32), .val (.int (p4 + (1 : Int32))), .val (.int (((((p4 + (1 : Int32)) + (own_brk f9 0 i t (1 : Int32))) + (own_brk f9 1 i t (1 : Int32))) + (own_brk f9 2 i t (1 : Int32))) + (own_brk f9 3 i t (1 : Int32)))), .val (.int (1 : Int32)), .val (.int (own_run f9 (t - i) i (p4 + (1 : Int32)) (1 : Int32)).1), .val (.int (own_tl (10 : Int32) (own_run f9 (t - i) i (p4 + (1 : Int32)) (1 : Int32)).1 (own_run f9 (t - i) i (p4 + (1 : Int32)) (1 : Int32)).2))] [(.int (((((p4 + (1 : Int32)) + (own_brk f9 0 i t (1 : Int32))) + (own_brk f9 1 i t (1 : Int32))) + (own_brk f9 2 i t (1 : Int32))) + (own_brk f9 3 i t (1 : Int32)))), (.int (own_tl (10 : Int32) (own_run f9 (t - i) i (p4 + (1 : Int32)) (1 : Int32)).1 (own_run f9 (t - i) i (p4 + (1 : Int32)) (1 : Int32)).2))])
      refine gIconst X44 hx (0 : Int32) (hb hby at_249) rfl ?_
      refine gGoto X44 hx 254 (hb hby at_250) (by decide) (by decide) ?_
      refine gIadd X44 hx (hb hby at_254) ?_
      refine gIcmp X44 hx 262 (hb hby at_255) (by decide) (by decide) (fun q => absurd (own_aft1 (own_endA _ _ _ hit hc40n) (own_total _ _ _ hit ht)) (o_neT q)) (fun _ => ?_)
      show Go _ _ _ _ _ _ _ T44 (mkF m 258 #[.val (.int p0), .val (.int p1), .val (.int p2), .val (.int p3), .val (.int p4), .val (.int p5), .val (.ref b1), .val (.int (Int32.ofNat i)), .val (.int (Int32.ofNat t)), .val (.int (1 : Int32)), .val (.ref b32), .val (.int (p4 + (1 : Int32))), .val (.int (((((p4 + (1 : Int32)) + (own_brk f9 0 i t (1 : Int32))) + (own_brk f9 1 i t (1 : Int32))) + (own_brk f9 2 i t (1 : Int32))) + (own_brk f9 3 i t (1 : Int32)))), .val (.int (1 : Int32)), .val (.int (own_run f9 (t - i) i (p4 + (1 : Int32)) (1 : Int32)).1), .val (.int (own_tl (10 : Int32) (own_run f9 (t - i) i (p4 + (1 : Int32)) (1 : Int32)).1 (own_run f9 (t - i) i (p4 + (1 : Int32)) (1 : Int32)).2))] [])
      refine gIconst X44 hx (1 : Int32) (hb hby at_258) rfl ?_
      refine gGoto X44 hx 263 (hb hby at_259) (by decide) (by decide) ?_
      exact gRetZ X44 hx hlk hret (by simp) (hb hby at_263) (z' := (1 : Int32)) rfl (by decide) (by decide) ⟨rfl, N_44⟩
    · have hc40 := o_leF hT
      have hc40n := (own_lt (by omega) (by omega)).mp hc40
      show Go _ _ _ _ _ _ _ T39 (mkF m 177 #[.val (.int p0), .val (.int p1), .val (.int p2), .val (.int p3), .val (.int p4), .val (.int p5), .val (.ref b1), .val (.int (Int32.ofNat i)), .val (.int (Int32.ofNat t)), .val (.int (1 : Int32)), .val (.ref b32), .val (.int (p4 + (1 : Int32))), .val (.int (((((p4 + (1 : Int32)) + (own_brk f9 0 i t (1 : Int32))) + (own_brk f9 1 i t (1 : Int32))) + (own_brk f9 2 i t (1 : Int32))) + (own_brk f9 3 i t (1 : Int32)))), .unset, .unset, .unset] [])
      refine gAload X39 hx (hb hby at_177) rfl rfl ?_
      refine gIload X39 hx (hb hby at_179) rfl ?_
      refine gIconst X39 hx (1 : Int32) (hb hby at_181) rfl ?_
      refine gIsub X39 hx (hb hby at_182) ?_
      refine gBaload X39 hx hZ e39 V9__35 ⟨(own_sub1 (by omega) (by omega)).1, by rw [(own_sub1 (by omega) (by omega)).2]; omega⟩ (hb hby at_183) ?_
      rw [(own_sub1 (by omega) (by omega)).2]
      show Go _ _ _ _ _ _ _ T39 (mkF m 184 #[.val (.int p0), .val (.int p1), .val (.int p2), .val (.int p3), .val (.int p4), .val (.int p5), .val (.ref b1), .val (.int (Int32.ofNat i)), .val (.int (Int32.ofNat t)), .val (.int (1 : Int32)), .val (.ref b32), .val (.int (p4 + (1 : Int32))), .val (.int (((((p4 + (1 : Int32)) + (own_brk f9 0 i t (1 : Int32))) + (own_brk f9 1 i t (1 : Int32))) + (own_brk f9 2 i t (1 : Int32))) + (own_brk f9 3 i t (1 : Int32)))), .unset, .unset, .unset] [(.int (f9 (t - 1)))])
      refine gBipush X39 hx (13 : Int32) (hb hby at_184) rfl ?_
      refine gIcmp X39 hx 193 (hb hby at_186) (by decide) (by decide) (fun hT => ?_) (fun hT => ?_)
      · have hc45 := o_neT hT
        show Go _ _ _ _ _ _ _ T39 (mkF m 193 #[.val (.int p0), .val (.int p1), .val (.int p2), .val (.int p3), .val (.int p4), .val (.int p5), .val (.ref b1), .val (.int (Int32.ofNat i)), .val (.int (Int32.ofNat t)), .val (.int (1 : Int32)), .val (.ref b32), .val (.int (p4 + (1 : Int32))), .val (.int (((((p4 + (1 : Int32)) + (own_brk f9 0 i t (1 : Int32))) + (own_brk f9 1 i t (1 : Int32))) + (own_brk f9 2 i t (1 : Int32))) + (own_brk f9 3 i t (1 : Int32)))), .unset, .unset, .unset] [])
        refine gIconst X39 hx (0 : Int32) (hb hby at_193) rfl ?_
        refine gGoto X39 hx 199 (hb hby at_194) (by decide) (by decide) ?_
        refine gIstore X39 hx #[.val (.int p0), .val (.int p1), .val (.int p2), .val (.int p3), .val (.int p4), .val (.int p5), .val (.ref b1), .val (.int (Int32.ofNat i)), .val (.int (Int32.ofNat t)), .val (.int (1 : Int32)), .val (.ref b32), .val (.int (p4 + (1 : Int32))), .val (.int (((((p4 + (1 : Int32)) + (own_brk f9 0 i t (1 : Int32))) + (own_brk f9 1 i t (1 : Int32))) + (own_brk f9 2 i t (1 : Int32))) + (own_brk f9 3 i t (1 : Int32)))), .val (.int (0 : Int32)), .unset, .unset] (hb hby at_199) rfl ?_
        refine gAload X39 hx (hb hby at_201) rfl rfl ?_
        refine gAload X39 hx (hb hby at_203) rfl rfl ?_
        refine gIload X39 hx (hb hby at_205) rfl ?_
        refine gIload X39 hx (hb hby at_207) rfl ?_
        refine gVirtual X39 hx hZ (y := (⟨"com/example/renkei/renkei/reader/LineCount", "take", "([BII)V"⟩ : MethodName)) (a := b32) hown (by decide) (tw hw 26 rfl) (tw hw 27 rfl) (tw hw 28 rfl) (tw hw 29 rfl) (tw hw 7 rfl) (tw hw 30 rfl) Eq35 (own_rm6 l Z a0 hw i t b32 b1 T35.heap n0 Z_35 f9 (p4 + (1 : Int32)) (1 : Int32) hit ht (by decide) V9__35 (Ne.symm (Nat.ne_of_lt lt_b1_b32)) Eq35 Fl Fb g_b32) e39 (by rw [hml]; rfl) (argsL := [(.ref b1), (.int (Int32.ofNat i)), (.int (Int32.ofNat t))]) (rest := []) (W := 0) (lenOf own_pd5 rfl) rfl (Nat.le_of_eq rfl) (by decide) (by decide) (by decide) (by decide) (hb hby at_209) ?_
        rintro _ T46 L46 X46 ⟨rfl, Nq46, Kq46, Eq46, Fq46, Gq46⟩
        have N_46 := Fr.app N_39 Nq46
        have V9__46 := V9__35.keep Kq46 (ninS (Nat.ne_of_lt lt_b1_b32) nin0)
        have Z_46 := Nat.le_trans Z_35 Kq46.1
        show Go _ _ _ _ _ _ _ T46 (mkF m 212 #[.val (.int p0), .val (.int p1), .val (.int p2), .val (.int p3), .val (.int p4), .val (.int p5), .val (.ref b1), .val (.int (Int32.ofNat i)), .val (.int (Int32.ofNat t)), .val (.int (1 : Int32)), .val (.ref b32), .val (.int (p4 + (1 : Int32))), .val (.int (((((p4 + (1 : Int32)) + (own_brk f9 0 i t (1 : Int32))) + (own_brk f9 1 i t (1 : Int32))) + (own_brk f9 2 i t (1 : Int32))) + (own_brk f9 3 i t (1 : Int32)))), .val (.int (0 : Int32)), .unset, .unset] [])
        refine gAload X46 hx (hb hby at_212) rfl rfl ?_
        refine gVirtual X46 hx hZ (y := (⟨"com/example/renkei/renkei/reader/LineCount", "line", "()I"⟩ : MethodName)) (a := b32) hown (by decide) (tw hw 31 rfl) (tw hw 32 rfl) (tw hw 33 rfl) (tw hw 34 rfl) (tw hw 7 rfl) (tw hw 35 rfl) Eq46 (own_rm4 l Z a0 hw b32 T46.heap n0 Z_46 _ _ Eq46 Fq46 Gq46 g_b32) rfl (by rw [hml]; rfl) (argsL := []) (rest := []) (W := 0) (lenOf own_pd3 rfl) rfl (Nat.le_of_eq rfl) (by decide) (by decide) (by decide) (by decide) (hb hby at_214) ?_
        rintro _ T47 L47 X47 ⟨rfl, Nq47, e47⟩
        have N_47 := Fr.app N_46 Nq47
        show Go _ _ _ _ _ _ _ T47 (mkF m 217 #[.val (.int p0), .val (.int p1), .val (.int p2), .val (.int p3), .val (.int p4), .val (.int p5), .val (.ref b1), .val (.int (Int32.ofNat i)), .val (.int (Int32.ofNat t)), .val (.int (1 : Int32)), .val (.ref b32), .val (.int (p4 + (1 : Int32))), .val (.int (((((p4 + (1 : Int32)) + (own_brk f9 0 i t (1 : Int32))) + (own_brk f9 1 i t (1 : Int32))) + (own_brk f9 2 i t (1 : Int32))) + (own_brk f9 3 i t (1 : Int32)))), .val (.int (0 : Int32)), .unset, .unset] [(.int (own_run f9 (t - i) i (p4 + (1 : Int32)) (1 : Int32)).1)])
        refine gIstore X47 hx #[.val (.int p0), .val (.int p1), .val (.int p2), .val (.int p3), .val (.int p4), .val (.int p5), .val (.ref b1), .val (.int (Int32.ofNat i)), .val (.int (Int32.ofNat t)), .val (.int (1 : Int32)), .val (.ref b32), .val (.int (p4 + (1 : Int32))), .val (.int (((((p4 + (1 : Int32)) + (own_brk f9 0 i t (1 : Int32))) + (own_brk f9 1 i t (1 : Int32))) + (own_brk f9 2 i t (1 : Int32))) + (own_brk f9 3 i t (1 : Int32)))), .val (.int (0 : Int32)), .val (.int (own_run f9 (t - i) i (p4 + (1 : Int32)) (1 : Int32)).1), .unset] (hb hby at_217) rfl ?_
        refine gAload X47 hx (hb hby at_219) rfl rfl ?_
        refine gBipush X47 hx (10 : Int32) (hb hby at_221) rfl ?_
        refine gVirtual X47 hx hZ (y := (⟨"com/example/renkei/renkei/reader/LineCount", "take", "(I)V"⟩ : MethodName)) (a := b32) hown (by decide) (tw hw 36 rfl) (tw hw 37 rfl) (tw hw 38 rfl) (tw hw 39 rfl) (tw hw 7 rfl) (tw hw 40 rfl) Eq46 (own_rm3 l Z a0 hw b32 (10 : Int32) T46.heap n0 Z_46 (own_run f9 (t - i) i (p4 + (1 : Int32)) (1 : Int32)).1 (own_run f9 (t - i) i (p4 + (1 : Int32)) (1 : Int32)).2 Eq46 Fq46 Gq46 g_b32) e47 (by rw [hml]; rfl) (argsL := [(.int (10 : Int32))]) (rest := []) (W := 0) (lenOf own_pd2 rfl) rfl (Nat.le_of_eq rfl) (by decide) (by decide) (by decide) (by decide) (hb hby at_223) ?_
        rintro _ T48 L48 X48 ⟨rfl, Nq48, Kq48, Eq48, Fq48, Gq48⟩
        have N_48 := Fr.app N_47 Nq48
        have V9__48 := V9__46.keep Kq48 (ninS (Nat.ne_of_lt lt_b1_b32) nin0)
        have Z_48 := Nat.le_trans Z_46 Kq48.1
        show Go _ _ _ _ _ _ _ T48 (mkF m 226 #[.val (.int p0), .val (.int p1), .val (.int p2), .val (.int p3), .val (.int p4), .val (.int p5), .val (.ref b1), .val (.int (Int32.ofNat i)), .val (.int (Int32.ofNat t)), .val (.int (1 : Int32)), .val (.ref b32), .val (.int (p4 + (1 : Int32))), .val (.int (((((p4 + (1 : Int32)) + (own_brk f9 0 i t (1 : Int32))) + (own_brk f9 1 i t (1 : Int32))) + (own_brk f9 2 i t (1 : Int32))) + (own_brk f9 3 i t (1 : Int32)))), .val (.int (0 : Int32)), .val (.int (own_run f9 (t - i) i (p4 + (1 : Int32)) (1 : Int32)).1), .unset] [])
        refine gAload X48 hx (hb hby at_226) rfl rfl ?_
        refine gVirtual X48 hx hZ (y := (⟨"com/example/renkei/renkei/reader/LineCount", "line", "()I"⟩ : MethodName)) (a := b32) hown (by decide) (tw hw 31 rfl) (tw hw 32 rfl) (tw hw 33 rfl) (tw hw 34 rfl) (tw hw 7 rfl) (tw hw 35 rfl) Eq48 (own_rm4 l Z a0 hw b32 T48.heap n0 Z_48 _ _ Eq48 Fq48 Gq48 g_b32) rfl (by rw [hml]; rfl) (argsL := []) (rest := []) (W := 0) (lenOf own_pd3 rfl) rfl (Nat.le_of_eq rfl) (by decide) (by decide) (by decide) (by decide) (hb hby at_228) ?_
        rintro _ T49 L49 X49 ⟨rfl, Nq49, e49⟩
        have N_49 := Fr.app N_48 Nq49
        show Go _ _ _ _ _ _ _ T49 (mkF m 231 #[.val (.int p0), .val (.int p1), .val (.int p2), .val (.int p3), .val (.int p4), .val (.int p5), .val (.ref b1), .val (.int (Int32.ofNat i)), .val (.int (Int32.ofNat t)), .val (.int (1 : Int32)), .val (.ref b32), .val (.int (p4 + (1 : Int32))), .val (.int (((((p4 + (1 : Int32)) + (own_brk f9 0 i t (1 : Int32))) + (own_brk f9 1 i t (1 : Int32))) + (own_brk f9 2 i t (1 : Int32))) + (own_brk f9 3 i t (1 : Int32)))), .val (.int (0 : Int32)), .val (.int (own_run f9 (t - i) i (p4 + (1 : Int32)) (1 : Int32)).1), .unset] [(.int (own_tl (10 : Int32) (own_run f9 (t - i) i (p4 + (1 : Int32)) (1 : Int32)).1 (own_run f9 (t - i) i (p4 + (1 : Int32)) (1 : Int32)).2))])
        refine gIstore X49 hx #[.val (.int p0), .val (.int p1), .val (.int p2), .val (.int p3), .val (.int p4), .val (.int p5), .val (.ref b1), .val (.int (Int32.ofNat i)), .val (.int (Int32.ofNat t)), .val (.int (1 : Int32)), .val (.ref b32), .val (.int (p4 + (1 : Int32))), .val (.int (((((p4 + (1 : Int32)) + (own_brk f9 0 i t (1 : Int32))) + (own_brk f9 1 i t (1 : Int32))) + (own_brk f9 2 i t (1 : Int32))) + (own_brk f9 3 i t (1 : Int32)))), .val (.int (0 : Int32)), .val (.int (own_run f9 (t - i) i (p4 + (1 : Int32)) (1 : Int32)).1), .val (.int (own_tl (10 : Int32) (own_run f9 (t - i) i (p4 + (1 : Int32)) (1 : Int32)).1 (own_run f9 (t - i) i (p4 + (1 : Int32)) (1 : Int32)).2))] (hb hby at_231) rfl ?_
        refine gIload X49 hx (hb hby at_233) rfl ?_
        refine gIload X49 hx (hb hby at_235) rfl ?_
        refine gIcmp X49 hx 262 (hb hby at_237) (by decide) (by decide) (fun q => absurd (own_total _ _ _ hit ht) (o_neT q)) (fun _ => ?_)
        show Go _ _ _ _ _ _ _ T49 (mkF m 240 #[.val (.int p0), .val (.int p1), .val (.int p2), .val (.int p3), .val (.int p4), .val (.int p5), .val (.ref b1), .val (.int (Int32.ofNat i)), .val (.int (Int32.ofNat t)), .val (.int (1 : Int32)), .val (.ref b32), .val (.int (p4 + (1 : Int32))), .val (.int (((((p4 + (1 : Int32)) + (own_brk f9 0 i t (1 : Int32))) + (own_brk f9 1 i t (1 : Int32))) + (own_brk f9 2 i t (1 : Int32))) + (own_brk f9 3 i t (1 : Int32)))), .val (.int (0 : Int32)), .val (.int (own_run f9 (t - i) i (p4 + (1 : Int32)) (1 : Int32)).1), .val (.int (own_tl (10 : Int32) (own_run f9 (t - i) i (p4 + (1 : Int32)) (1 : Int32)).1 (own_run f9 (t - i) i (p4 + (1 : Int32)) (1 : Int32)).2))] [])
        refine gIload X49 hx (hb hby at_240) rfl ?_
        refine gIload X49 hx (hb hby at_242) rfl ?_
        refine gIload X49 hx (hb hby at_244) rfl ?_
        refine gIf X49 hx 253 (hb hby at_246) (by decide) (by decide) (fun _ => ?_) (fun q => absurd (by decide) (o_eqF q))
        show Go _ _ _ _ _ _ _ T49 (mkF m 253 #[.val (.int p0), .val (.int p1), .val (.int p2), .val (.int p3), .val (.int p4), .val (.int p5), .val (.ref b1), .val (.int (Int32.ofNat i)), .val (.int (Int32.ofNat t)), .val (.int (1 : Int32)), .val (.ref b32), .val (.int (p4 + (1 : Int32))), .val (.int (((((p4 + (1 : Int32)) + (own_brk f9 0 i t (1 : Int32))) + (own_brk f9 1 i t (1 : Int32))) + (own_brk f9 2 i t (1 : Int32))) + (own_brk f9 3 i t (1 : Int32)))), .val (.int (0 : Int32)), .val (.int (own_run f9 (t - i) i (p4 + (1 : Int32)) (1 : Int32)).1), .val (.int (own_tl (10 : Int32) (own_run f9 (t - i) i (p4 + (1 : Int32)) (1 : Int32)).1 (own_run f9 (t - i) i (p4 + (1 : Int32)) (1 : Int32)).2))] [(.int (((((p4 + (1 : Int32)) + (own_brk f9 0 i t (1 : Int32))) + (own_brk f9 1 i t (1 : Int32))) + (own_brk f9 2 i t (1 : Int32))) + (own_brk f9 3 i t (1 : Int32)))), (.int (own_tl (10 : Int32) (own_run f9 (t - i) i (p4 + (1 : Int32)) (1 : Int32)).1 (own_run f9 (t - i) i (p4 + (1 : Int32)) (1 : Int32)).2))])
        refine gIconst X49 hx (1 : Int32) (hb hby at_253) rfl ?_
        refine gIadd X49 hx (hb hby at_254) ?_
        refine gIcmp X49 hx 262 (hb hby at_255) (by decide) (by decide) (fun q => absurd (own_aft0 ((own_endB _ _ _ hc40n).trans (if_neg hc45)) (own_total _ _ _ hit ht)) (o_neT q)) (fun _ => ?_)
        show Go _ _ _ _ _ _ _ T49 (mkF m 258 #[.val (.int p0), .val (.int p1), .val (.int p2), .val (.int p3), .val (.int p4), .val (.int p5), .val (.ref b1), .val (.int (Int32.ofNat i)), .val (.int (Int32.ofNat t)), .val (.int (1 : Int32)), .val (.ref b32), .val (.int (p4 + (1 : Int32))), .val (.int (((((p4 + (1 : Int32)) + (own_brk f9 0 i t (1 : Int32))) + (own_brk f9 1 i t (1 : Int32))) + (own_brk f9 2 i t (1 : Int32))) + (own_brk f9 3 i t (1 : Int32)))), .val (.int (0 : Int32)), .val (.int (own_run f9 (t - i) i (p4 + (1 : Int32)) (1 : Int32)).1), .val (.int (own_tl (10 : Int32) (own_run f9 (t - i) i (p4 + (1 : Int32)) (1 : Int32)).1 (own_run f9 (t - i) i (p4 + (1 : Int32)) (1 : Int32)).2))] [])
        refine gIconst X49 hx (1 : Int32) (hb hby at_258) rfl ?_
        refine gGoto X49 hx 263 (hb hby at_259) (by decide) (by decide) ?_
        exact gRetZ X49 hx hlk hret (by simp) (hb hby at_263) (z' := (1 : Int32)) rfl (by decide) (by decide) ⟨rfl, N_49⟩
      · have hc45 := o_neF hT
        show Go _ _ _ _ _ _ _ T39 (mkF m 189 #[.val (.int p0), .val (.int p1), .val (.int p2), .val (.int p3), .val (.int p4), .val (.int p5), .val (.ref b1), .val (.int (Int32.ofNat i)), .val (.int (Int32.ofNat t)), .val (.int (1 : Int32)), .val (.ref b32), .val (.int (p4 + (1 : Int32))), .val (.int (((((p4 + (1 : Int32)) + (own_brk f9 0 i t (1 : Int32))) + (own_brk f9 1 i t (1 : Int32))) + (own_brk f9 2 i t (1 : Int32))) + (own_brk f9 3 i t (1 : Int32)))), .unset, .unset, .unset] [])
        refine gIconst X39 hx (1 : Int32) (hb hby at_189) rfl ?_
        refine gGoto X39 hx 199 (hb hby at_190) (by decide) (by decide) ?_
        refine gIstore X39 hx #[.val (.int p0), .val (.int p1), .val (.int p2), .val (.int p3), .val (.int p4), .val (.int p5), .val (.ref b1), .val (.int (Int32.ofNat i)), .val (.int (Int32.ofNat t)), .val (.int (1 : Int32)), .val (.ref b32), .val (.int (p4 + (1 : Int32))), .val (.int (((((p4 + (1 : Int32)) + (own_brk f9 0 i t (1 : Int32))) + (own_brk f9 1 i t (1 : Int32))) + (own_brk f9 2 i t (1 : Int32))) + (own_brk f9 3 i t (1 : Int32)))), .val (.int (1 : Int32)), .unset, .unset] (hb hby at_199) rfl ?_
        refine gAload X39 hx (hb hby at_201) rfl rfl ?_
        refine gAload X39 hx (hb hby at_203) rfl rfl ?_
        refine gIload X39 hx (hb hby at_205) rfl ?_
        refine gIload X39 hx (hb hby at_207) rfl ?_
        refine gVirtual X39 hx hZ (y := (⟨"com/example/renkei/renkei/reader/LineCount", "take", "([BII)V"⟩ : MethodName)) (a := b32) hown (by decide) (tw hw 26 rfl) (tw hw 27 rfl) (tw hw 28 rfl) (tw hw 29 rfl) (tw hw 7 rfl) (tw hw 30 rfl) Eq35 (own_rm6 l Z a0 hw i t b32 b1 T35.heap n0 Z_35 f9 (p4 + (1 : Int32)) (1 : Int32) hit ht (by decide) V9__35 (Ne.symm (Nat.ne_of_lt lt_b1_b32)) Eq35 Fl Fb g_b32) e39 (by rw [hml]; rfl) (argsL := [(.ref b1), (.int (Int32.ofNat i)), (.int (Int32.ofNat t))]) (rest := []) (W := 0) (lenOf own_pd5 rfl) rfl (Nat.le_of_eq rfl) (by decide) (by decide) (by decide) (by decide) (hb hby at_209) ?_
        rintro _ T50 L50 X50 ⟨rfl, Nq50, Kq50, Eq50, Fq50, Gq50⟩
        have N_50 := Fr.app N_39 Nq50
        have V9__50 := V9__35.keep Kq50 (ninS (Nat.ne_of_lt lt_b1_b32) nin0)
        have Z_50 := Nat.le_trans Z_35 Kq50.1
        show Go _ _ _ _ _ _ _ T50 (mkF m 212 #[.val (.int p0), .val (.int p1), .val (.int p2), .val (.int p3), .val (.int p4), .val (.int p5), .val (.ref b1), .val (.int (Int32.ofNat i)), .val (.int (Int32.ofNat t)), .val (.int (1 : Int32)), .val (.ref b32), .val (.int (p4 + (1 : Int32))), .val (.int (((((p4 + (1 : Int32)) + (own_brk f9 0 i t (1 : Int32))) + (own_brk f9 1 i t (1 : Int32))) + (own_brk f9 2 i t (1 : Int32))) + (own_brk f9 3 i t (1 : Int32)))), .val (.int (1 : Int32)), .unset, .unset] [])
        refine gAload X50 hx (hb hby at_212) rfl rfl ?_
        refine gVirtual X50 hx hZ (y := (⟨"com/example/renkei/renkei/reader/LineCount", "line", "()I"⟩ : MethodName)) (a := b32) hown (by decide) (tw hw 31 rfl) (tw hw 32 rfl) (tw hw 33 rfl) (tw hw 34 rfl) (tw hw 7 rfl) (tw hw 35 rfl) Eq50 (own_rm4 l Z a0 hw b32 T50.heap n0 Z_50 _ _ Eq50 Fq50 Gq50 g_b32) rfl (by rw [hml]; rfl) (argsL := []) (rest := []) (W := 0) (lenOf own_pd3 rfl) rfl (Nat.le_of_eq rfl) (by decide) (by decide) (by decide) (by decide) (hb hby at_214) ?_
        rintro _ T51 L51 X51 ⟨rfl, Nq51, e51⟩
        have N_51 := Fr.app N_50 Nq51
        show Go _ _ _ _ _ _ _ T51 (mkF m 217 #[.val (.int p0), .val (.int p1), .val (.int p2), .val (.int p3), .val (.int p4), .val (.int p5), .val (.ref b1), .val (.int (Int32.ofNat i)), .val (.int (Int32.ofNat t)), .val (.int (1 : Int32)), .val (.ref b32), .val (.int (p4 + (1 : Int32))), .val (.int (((((p4 + (1 : Int32)) + (own_brk f9 0 i t (1 : Int32))) + (own_brk f9 1 i t (1 : Int32))) + (own_brk f9 2 i t (1 : Int32))) + (own_brk f9 3 i t (1 : Int32)))), .val (.int (1 : Int32)), .unset, .unset] [(.int (own_run f9 (t - i) i (p4 + (1 : Int32)) (1 : Int32)).1)])
        refine gIstore X51 hx #[.val (.int p0), .val (.int p1), .val (.int p2), .val (.int p3), .val (.int p4), .val (.int p5), .val (.ref b1), .val (.int (Int32.ofNat i)), .val (.int (Int32.ofNat t)), .val (.int (1 : Int32)), .val (.ref b32), .val (.int (p4 + (1 : Int32))), .val (.int (((((p4 + (1 : Int32)) + (own_brk f9 0 i t (1 : Int32))) + (own_brk f9 1 i t (1 : Int32))) + (own_brk f9 2 i t (1 : Int32))) + (own_brk f9 3 i t (1 : Int32)))), .val (.int (1 : Int32)), .val (.int (own_run f9 (t - i) i (p4 + (1 : Int32)) (1 : Int32)).1), .unset] (hb hby at_217) rfl ?_
        refine gAload X51 hx (hb hby at_219) rfl rfl ?_
        refine gBipush X51 hx (10 : Int32) (hb hby at_221) rfl ?_
        refine gVirtual X51 hx hZ (y := (⟨"com/example/renkei/renkei/reader/LineCount", "take", "(I)V"⟩ : MethodName)) (a := b32) hown (by decide) (tw hw 36 rfl) (tw hw 37 rfl) (tw hw 38 rfl) (tw hw 39 rfl) (tw hw 7 rfl) (tw hw 40 rfl) Eq50 (own_rm3 l Z a0 hw b32 (10 : Int32) T50.heap n0 Z_50 (own_run f9 (t - i) i (p4 + (1 : Int32)) (1 : Int32)).1 (own_run f9 (t - i) i (p4 + (1 : Int32)) (1 : Int32)).2 Eq50 Fq50 Gq50 g_b32) e51 (by rw [hml]; rfl) (argsL := [(.int (10 : Int32))]) (rest := []) (W := 0) (lenOf own_pd2 rfl) rfl (Nat.le_of_eq rfl) (by decide) (by decide) (by decide) (by decide) (hb hby at_223) ?_
        rintro _ T52 L52 X52 ⟨rfl, Nq52, Kq52, Eq52, Fq52, Gq52⟩
        have N_52 := Fr.app N_51 Nq52
        have V9__52 := V9__50.keep Kq52 (ninS (Nat.ne_of_lt lt_b1_b32) nin0)
        have Z_52 := Nat.le_trans Z_50 Kq52.1
        show Go _ _ _ _ _ _ _ T52 (mkF m 226 #[.val (.int p0), .val (.int p1), .val (.int p2), .val (.int p3), .val (.int p4), .val (.int p5), .val (.ref b1), .val (.int (Int32.ofNat i)), .val (.int (Int32.ofNat t)), .val (.int (1 : Int32)), .val (.ref b32), .val (.int (p4 + (1 : Int32))), .val (.int (((((p4 + (1 : Int32)) + (own_brk f9 0 i t (1 : Int32))) + (own_brk f9 1 i t (1 : Int32))) + (own_brk f9 2 i t (1 : Int32))) + (own_brk f9 3 i t (1 : Int32)))), .val (.int (1 : Int32)), .val (.int (own_run f9 (t - i) i (p4 + (1 : Int32)) (1 : Int32)).1), .unset] [])
        refine gAload X52 hx (hb hby at_226) rfl rfl ?_
        refine gVirtual X52 hx hZ (y := (⟨"com/example/renkei/renkei/reader/LineCount", "line", "()I"⟩ : MethodName)) (a := b32) hown (by decide) (tw hw 31 rfl) (tw hw 32 rfl) (tw hw 33 rfl) (tw hw 34 rfl) (tw hw 7 rfl) (tw hw 35 rfl) Eq52 (own_rm4 l Z a0 hw b32 T52.heap n0 Z_52 _ _ Eq52 Fq52 Gq52 g_b32) rfl (by rw [hml]; rfl) (argsL := []) (rest := []) (W := 0) (lenOf own_pd3 rfl) rfl (Nat.le_of_eq rfl) (by decide) (by decide) (by decide) (by decide) (hb hby at_228) ?_
        rintro _ T53 L53 X53 ⟨rfl, Nq53, e53⟩
        have N_53 := Fr.app N_52 Nq53
        show Go _ _ _ _ _ _ _ T53 (mkF m 231 #[.val (.int p0), .val (.int p1), .val (.int p2), .val (.int p3), .val (.int p4), .val (.int p5), .val (.ref b1), .val (.int (Int32.ofNat i)), .val (.int (Int32.ofNat t)), .val (.int (1 : Int32)), .val (.ref b32), .val (.int (p4 + (1 : Int32))), .val (.int (((((p4 + (1 : Int32)) + (own_brk f9 0 i t (1 : Int32))) + (own_brk f9 1 i t (1 : Int32))) + (own_brk f9 2 i t (1 : Int32))) + (own_brk f9 3 i t (1 : Int32)))), .val (.int (1 : Int32)), .val (.int (own_run f9 (t - i) i (p4 + (1 : Int32)) (1 : Int32)).1), .unset] [(.int (own_tl (10 : Int32) (own_run f9 (t - i) i (p4 + (1 : Int32)) (1 : Int32)).1 (own_run f9 (t - i) i (p4 + (1 : Int32)) (1 : Int32)).2))])
        refine gIstore X53 hx #[.val (.int p0), .val (.int p1), .val (.int p2), .val (.int p3), .val (.int p4), .val (.int p5), .val (.ref b1), .val (.int (Int32.ofNat i)), .val (.int (Int32.ofNat t)), .val (.int (1 : Int32)), .val (.ref b32), .val (.int (p4 + (1 : Int32))), .val (.int (((((p4 + (1 : Int32)) + (own_brk f9 0 i t (1 : Int32))) + (own_brk f9 1 i t (1 : Int32))) + (own_brk f9 2 i t (1 : Int32))) + (own_brk f9 3 i t (1 : Int32)))), .val (.int (1 : Int32)), .val (.int (own_run f9 (t - i) i (p4 + (1 : Int32)) (1 : Int32)).1), .val (.int (own_tl (10 : Int32) (own_run f9 (t - i) i (p4 + (1 : Int32)) (1 : Int32)).1 (own_run f9 (t - i) i (p4 + (1 : Int32)) (1 : Int32)).2))] (hb hby at_231) rfl ?_
        refine gIload X53 hx (hb hby at_233) rfl ?_
        refine gIload X53 hx (hb hby at_235) rfl ?_
        refine gIcmp X53 hx 262 (hb hby at_237) (by decide) (by decide) (fun q => absurd (own_total _ _ _ hit ht) (o_neT q)) (fun _ => ?_)
        show Go _ _ _ _ _ _ _ T53 (mkF m 240 #[.val (.int p0), .val (.int p1), .val (.int p2), .val (.int p3), .val (.int p4), .val (.int p5), .val (.ref b1), .val (.int (Int32.ofNat i)), .val (.int (Int32.ofNat t)), .val (.int (1 : Int32)), .val (.ref b32), .val (.int (p4 + (1 : Int32))), .val (.int (((((p4 + (1 : Int32)) + (own_brk f9 0 i t (1 : Int32))) + (own_brk f9 1 i t (1 : Int32))) + (own_brk f9 2 i t (1 : Int32))) + (own_brk f9 3 i t (1 : Int32)))), .val (.int (1 : Int32)), .val (.int (own_run f9 (t - i) i (p4 + (1 : Int32)) (1 : Int32)).1), .val (.int (own_tl (10 : Int32) (own_run f9 (t - i) i (p4 + (1 : Int32)) (1 : Int32)).1 (own_run f9 (t - i) i (p4 + (1 : Int32)) (1 : Int32)).2))] [])
        refine gIload X53 hx (hb hby at_240) rfl ?_
        refine gIload X53 hx (hb hby at_242) rfl ?_
        refine gIload X53 hx (hb hby at_244) rfl ?_
        refine gIf X53 hx 253 (hb hby at_246) (by decide) (by decide) (fun q => absurd (o_eqT q) (by decide)) (fun _ => ?_)
        show Go _ _ _ _ _ _ _ T53 (mkF m 249 #[.val (.int p0), .val (.int p1), .val (.int p2), .val (.int p3), .val (.int p4), .val (.int p5), .val (.ref b1), .val (.int (Int32.ofNat i)), .val (.int (Int32.ofNat t)), .val (.int (1 : Int32)), .val (.ref b32), .val (.int (p4 + (1 : Int32))), .val (.int (((((p4 + (1 : Int32)) + (own_brk f9 0 i t (1 : Int32))) + (own_brk f9 1 i t (1 : Int32))) + (own_brk f9 2 i t (1 : Int32))) + (own_brk f9 3 i t (1 : Int32)))), .val (.int (1 : Int32)), .val (.int (own_run f9 (t - i) i (p4 + (1 : Int32)) (1 : Int32)).1), .val (.int (own_tl (10 : Int32) (own_run f9 (t - i) i (p4 + (1 : Int32)) (1 : Int32)).1 (own_run f9 (t - i) i (p4 + (1 : Int32)) (1 : Int32)).2))] [(.int (((((p4 + (1 : Int32)) + (own_brk f9 0 i t (1 : Int32))) + (own_brk f9 1 i t (1 : Int32))) + (own_brk f9 2 i t (1 : Int32))) + (own_brk f9 3 i t (1 : Int32)))), (.int (own_tl (10 : Int32) (own_run f9 (t - i) i (p4 + (1 : Int32)) (1 : Int32)).1 (own_run f9 (t - i) i (p4 + (1 : Int32)) (1 : Int32)).2))])
        refine gIconst X53 hx (0 : Int32) (hb hby at_249) rfl ?_
        refine gGoto X53 hx 254 (hb hby at_250) (by decide) (by decide) ?_
        refine gIadd X53 hx (hb hby at_254) ?_
        refine gIcmp X53 hx 262 (hb hby at_255) (by decide) (by decide) (fun q => absurd (own_aft1 ((own_endB _ _ _ hc40n).trans (if_pos hc45)) (own_total _ _ _ hit ht)) (o_neT q)) (fun _ => ?_)
        show Go _ _ _ _ _ _ _ T53 (mkF m 258 #[.val (.int p0), .val (.int p1), .val (.int p2), .val (.int p3), .val (.int p4), .val (.int p5), .val (.ref b1), .val (.int (Int32.ofNat i)), .val (.int (Int32.ofNat t)), .val (.int (1 : Int32)), .val (.ref b32), .val (.int (p4 + (1 : Int32))), .val (.int (((((p4 + (1 : Int32)) + (own_brk f9 0 i t (1 : Int32))) + (own_brk f9 1 i t (1 : Int32))) + (own_brk f9 2 i t (1 : Int32))) + (own_brk f9 3 i t (1 : Int32)))), .val (.int (1 : Int32)), .val (.int (own_run f9 (t - i) i (p4 + (1 : Int32)) (1 : Int32)).1), .val (.int (own_tl (10 : Int32) (own_run f9 (t - i) i (p4 + (1 : Int32)) (1 : Int32)).1 (own_run f9 (t - i) i (p4 + (1 : Int32)) (1 : Int32)).2))] [])
        refine gIconst X53 hx (1 : Int32) (hb hby at_258) rfl ?_
        refine gGoto X53 hx 263 (hb hby at_259) (by decide) (by decide) ?_
        exact gRetZ X53 hx hlk hret (by simp) (hb hby at_263) (z' := (1 : Int32)) rfl (by decide) (by decide) ⟨rfl, N_53⟩
set_option maxRecDepth 65536 in
set_option maxHeartbeats 40000000 in
theorem comes_1 {Post : Tables → Env → Array Value → State → Outcome → State → Prop} (hpost : ∀ tb e args s v u, (limb_1_1.after args s (.returned v) u = true ∧ limb_1_2.after args s (.returned v) u = true ∧ True) → FrameEnd s (.returned v) u (Jvm.fieldLocs frame_1_writes args s ++ Jvm.arrayLocs frame_1_arrays args s ++ Jvm.staticLocs frame_1_statics s) 16 128 → Post tb e args s (.returned v) u) :
    ArmFor flags0 classFile x code maxLocals ret World_1 tables_1 room_1 Calls_1 rest_1 Pre_1 Post := by
  intro l hfl _ _ p e ha hc hk s m args below hf hA hF happ hP
  obtain ⟨hcalls, hrest, hpre⟩ := hP
  obtain ⟨-, -, -, hnamed, -, -, -, hat⟩ := (Spec.applies_iff hf).mp happ
  obtain ⟨hg, hn⟩ := and_e (Cond.before_iff.mp (show (Jvm.Cond.and given_1 narrow_1).before args s = true from hpre))
  obtain ⟨h1, hr0⟩ := and_e hg
  obtain ⟨hv0, hr1⟩ := and_e hr0
  obtain ⟨hv1, hr2⟩ := and_e hr1
  obtain ⟨hv2, hr3⟩ := and_e hr2
  obtain ⟨hv3, hr4⟩ := and_e hr3
  obtain ⟨hv4, hr5⟩ := and_e hr4
  have hv5 := hr5
  obtain ⟨w0, w1, w2, w3, w4, w5, rfl⟩ : ∃ w0 w1 w2 w3 w4 w5 : Value, args = #[w0, w1, w2, w3, w4, w5] := by
    have hs : args.size = 6 := by simpa [Cond.value, given_1] using h1
    obtain ⟨L⟩ := args
    match L, hs with
    | [w0, w1, w2, w3, w4, w5], _ => exact ⟨w0, w1, w2, w3, w4, w5, rfl⟩
  have hw := fun d (hd : d ∈ tables_1) => atoms_spec (ws := Jvm.Cond.code x code maxLocals ret :: tables_1) hat d (List.mem_cons_of_mem _ hd)
  obtain ⟨i0, ei0⟩ := is_v hv0
  obtain rfl : w0 = (.int i0) := Option.some.inj ei0
  obtain ⟨i1, ei1⟩ := is_v hv1
  obtain rfl : w1 = (.int i1) := Option.some.inj ei1
  obtain ⟨i2, ei2⟩ := is_v hv2
  obtain rfl : w2 = (.int i2) := Option.some.inj ei2
  obtain ⟨i3, ei3⟩ := is_v hv3
  obtain rfl : w3 = (.int i3) := Option.some.inj ei3
  obtain ⟨i4, ei4⟩ := is_v hv4
  obtain rfl : w4 = (.int i4) := Option.some.inj ei4
  obtain ⟨i5, ei5⟩ := is_v hv5
  obtain rfl : w5 = (.int i5) := Option.some.inj ei5
  obtain ⟨n, o, h1, h2, h3, _, L, rfl, ⟨rfl, N⟩, hq⟩ := own_rm7 l s _ hw i0 i1 i2 i3 i4 i5 s.heap s.heap.size (Nat.le_refl _) p e ha hc hk s m _ below hf ((Spec.applies_iff_loose hf).mp happ).1 ⟨rfl, State.Warmed39.refl s, rfl⟩ trivial
  refine ⟨n, _, h1, h2, h3, hpost _ _ _ _ _ _ ⟨Cond.after_iff.mpr rfl, Cond.after_iff.mpr (eq_i res_at (Term.int_eval (1)) rfl), trivial⟩ ⟨hq.1, hq.2.1, (hq.2.2.sift fun y hy => Or.inr (N y hy)).mono (by decide) (by decide)⟩⟩
theorem main_1_1 : Claimed_1_1 := comes_1 fun _ _ _ _ _ _ h hF => ⟨h.1, hF⟩
theorem main_1_2 : Claimed_1_2 := comes_1 fun _ _ _ _ _ _ h hF => ⟨h.2.1, hF⟩
end Jvm.Pilot.@@N@@
namespace Jvm.Pilot.@@N@@
open Jvm Jvm.ClassFile Sem Op Lib Jvm.Free Jvm.Stand Jvm.Pilot.@@N@@.Jvm.D
/-! MADE BY PROGRAM (witnessworld.py) out of the Statement's table words and the real class files: 9 classes; the members and pool entries that the words name. The judged class is class 1, her method 1. -/
namespace start1
open Jvm.ClassFile
def u (s : String) : CpInfo := .utf8 (stringToUtf16 s)
/-- a pool by its gaps: so many unusable entries, then the entry; so many at the end -/
def gap : Nat → List CpInfo → List CpInfo
  | 0, r => r
  | n + 1, r => .unusable :: gap n r
def poolList (es : List (Nat × CpInfo)) (last : Nat) : List CpInfo := es.foldr (fun e r => gap e.1 (e.2 :: r)) (gap last [])
def pool (es : List (Nat × CpInfo)) (last : Nat) : Array CpInfo := ⟨poolList es last⟩
def fileOf (pool : Array CpInfo) (this : Nat) (attrs : Array Attribute := #[]) (ms : Array MethodInfo := #[]) (fl : Nat := 33) (sup : Nat := 0) (ifs : Array Nat := #[]) (fds : Array FieldInfo := #[]) : ClassFile where
  minorVersion := 0
  majorVersion := 65
  constantPool := pool
  accessFlags := fl
  thisClass := this
  superClass := sup
  interfaces := ifs
  fields := fds
  methods := ms
  attributes := attrs
def plain (name : String) (sup : Option ClassId) : Class where
  name := name
  kind := .ordinary
  loader := none
  accessFlags := 33
  super := sup
  interfaces := #[]
  cf := none
  fields := #[]
  methods := #[]
  instanceTypes := #[]
  staticTypes := #[]
  resolved := #[]
  callSites := []
  init := .initialized
  statics := none
  mirror := none

def pool0 : Array CpInfo := pool [(5, u "<init>"), (0, u "()V"), (1, .class_ 10), (1, u "java/lang/Object")] 113

def k0c0 : Code := { maxStack := 0, maxLocals := 1, code := object_method_1_code, exceptionTable := #[], attributes := #[] }
def k0m0 : Method := { name := "<init>", desc := "()V", sig := { parameters := [], returnType := none }, accessFlags := 1, code := some k0c0 }
/-- java/lang/Object -/
def k0 : Class := { plain "java/lang/Object" none with
  accessFlags := 33
  interfaces := #[]
  cf := some (fileOf pool0 8 #[] #[{ accessFlags := 1, nameIndex := 5, descriptorIndex := 6, attributes := #[] }] 33 0 #[] #[])
  fields := #[]
  methods := #[k0m0]
  instanceTypes := #[]
  staticTypes := #[]
  resolved := Array.replicate 124 none
  statics := none }

def pool1 : Array CpInfo := pool [(2, .class_ 4), (0, .nameAndType 5 6), (0, u "java/lang/Object"), (0, u "<init>"), (0, u "()V"), (0, .methodref 8 9), (0, .class_ 10), (0, .nameAndType 11 12), (0, u "com/example/renkei/renkei/reader/LineCountTakePinLaw"), (0, u "unit"), (0, u "(I)B"), (0, .class_ 14), (0, u "com/example/renkei/renkei/reader/LineCount"), (0, .methodref 13 3), (0, .methodref 13 17), (0, .nameAndType 18 19), (0, u "set"), (0, u "(I)V"), (0, .methodref 13 21), (0, .nameAndType 22 19), (0, u "take"), (0, .methodref 8 24), (0, .nameAndType 25 26), (0, u "brk"), (0, u "([BIIIZ)I"), (0, .methodref 13 28), (0, .nameAndType 22 29), (0, u "([BII)V"), (0, .methodref 13 31), (0, .nameAndType 32 33), (0, u "line"), (0, u "()I"), (2, u "law"), (0, u "(IIIIII)Z")] 5

def k1m0 : Method := { name := "<init>", desc := "()V", sig := { parameters := [], returnType := none }, accessFlags := 1, code := none }
def k1c1 : Code := { maxStack := 6, maxLocals := 16, code := code, exceptionTable := #[], attributes := #[] }
def k1m1 : Method := { name := "law", desc := "(IIIIII)Z", sig := { parameters := [.int, .int, .int, .int, .int, .int], returnType := some .boolean }, accessFlags := 9, code := some k1c1 }
def k1c2 : Code := { maxStack := 2, maxLocals := 2, code := method_3_code, exceptionTable := #[], attributes := #[] }
def k1m2 : Method := { name := "unit", desc := "(I)B", sig := { parameters := [.int], returnType := some .byte }, accessFlags := 10, code := some k1c2 }
def k1c3 : Code := { maxStack := 3, maxLocals := 6, code := method_4_code, exceptionTable := #[], attributes := #[] }
def k1m3 : Method := { name := "brk", desc := "([BIIIZ)I", sig := { parameters := [(.array .byte), .int, .int, .int, .boolean], returnType := some .int }, accessFlags := 10, code := some k1c3 }
/-- com/example/renkei/renkei/reader/LineCountTakePinLaw -/
def k1 : Class := { plain "com/example/renkei/renkei/reader/LineCountTakePinLaw" (some 0) with
  accessFlags := 49
  interfaces := #[]
  cf := some (fileOf pool1 8 #[] #[{ accessFlags := 1, nameIndex := 5, descriptorIndex := 6, attributes := #[] }, { accessFlags := 9, nameIndex := 36, descriptorIndex := 37, attributes := #[] }, { accessFlags := 10, nameIndex := 11, descriptorIndex := 12, attributes := #[] }, { accessFlags := 10, nameIndex := 25, descriptorIndex := 26, attributes := #[] }] 49 2 #[] #[])
  fields := #[]
  methods := #[k1m0, k1m1, k1m2, k1m3]
  instanceTypes := #[]
  staticTypes := #[]
  resolved := Array.replicate 43 none
  statics := none }

def pool2 : Array CpInfo := pool [(1, .methodref 2 3), (0, .class_ 4), (0, .nameAndType 5 6), (0, u "java/lang/Object"), (0, u "<init>"), (0, u "()V"), (0, .fieldref 8 9), (0, .class_ 10), (0, .nameAndType 11 12), (0, u "com/example/renkei/renkei/reader/LineCount"), (0, u "line"), (0, u "I"), (0, .fieldref 8 14), (0, .nameAndType 15 16), (0, u "afterCarriageReturn"), (0, u "Z"), (2, u "take"), (0, u "(I)V"), (1, u "([BII)V"), (0, u "()I"), (0, u "set")] 2

def k2c0 : Code := { maxStack := 2, maxLocals := 1, code := prog_83_method_1_code, exceptionTable := #[], attributes := #[] }
def k2m0 : Method := { name := "<init>", desc := "()V", sig := { parameters := [], returnType := none }, accessFlags := 0, code := some k2c0 }
def k2c1 : Code := { maxStack := 3, maxLocals := 2, code := prog_83_method_2_code, exceptionTable := #[], attributes := #[] }
def k2m1 : Method := { name := "take", desc := "(I)V", sig := { parameters := [.int], returnType := none }, accessFlags := 0, code := some k2c1 }
def k2c2 : Code := { maxStack := 2, maxLocals := 8, code := prog_83_method_3_code, exceptionTable := #[], attributes := #[] }
def k2m2 : Method := { name := "take", desc := "([BII)V", sig := { parameters := [(.array .byte), .int, .int], returnType := none }, accessFlags := 0, code := some k2c2 }
def k2c3 : Code := { maxStack := 1, maxLocals := 1, code := prog_83_method_4_code, exceptionTable := #[], attributes := #[] }
def k2m3 : Method := { name := "line", desc := "()I", sig := { parameters := [], returnType := some .int }, accessFlags := 0, code := some k2c3 }
def k2c4 : Code := { maxStack := 2, maxLocals := 2, code := prog_83_method_5_code, exceptionTable := #[], attributes := #[] }
def k2m4 : Method := { name := "set", desc := "(I)V", sig := { parameters := [.int], returnType := none }, accessFlags := 0, code := some k2c4 }
/-- com/example/renkei/renkei/reader/LineCount -/
def k2 : Class := { plain "com/example/renkei/renkei/reader/LineCount" (some 0) with
  accessFlags := 48
  interfaces := #[]
  cf := some (fileOf pool2 8 #[] #[{ accessFlags := 0, nameIndex := 5, descriptorIndex := 6, attributes := #[] }, { accessFlags := 0, nameIndex := 19, descriptorIndex := 20, attributes := #[] }, { accessFlags := 0, nameIndex := 19, descriptorIndex := 22, attributes := #[] }, { accessFlags := 0, nameIndex := 11, descriptorIndex := 23, attributes := #[] }, { accessFlags := 0, nameIndex := 24, descriptorIndex := 20, attributes := #[] }] 48 2 #[] #[{ accessFlags := 2, nameIndex := 11, descriptorIndex := 12, attributes := #[] }, { accessFlags := 2, nameIndex := 15, descriptorIndex := 16, attributes := #[] }])
  fields := #[{ name := "line", type := .int, accessFlags := 2, slot := 0, constantValue := 0 }, { name := "afterCarriageReturn", type := .boolean, accessFlags := 2, slot := 1, constantValue := 0 }]
  methods := #[k2m0, k2m1, k2m2, k2m3, k2m4]
  instanceTypes := #[.int, .boolean]
  staticTypes := #[]
  resolved := Array.replicate 27 none
  statics := none }

def pool3 : Array CpInfo := pool [(1, u "java/lang/Cloneable"), (0, .class_ 1), (0, u "java/lang/Object"), (0, .class_ 3)] 3

/-- java/lang/Cloneable -/
def k3 : Class := { plain "java/lang/Cloneable" (some 0) with
  accessFlags := 1537
  interfaces := #[]
  cf := some (fileOf pool3 2 #[] #[] 1537 4 #[] #[])
  fields := #[]
  methods := #[]
  instanceTypes := #[]
  staticTypes := #[]
  resolved := Array.replicate 8 none
  statics := none }

def pool4 : Array CpInfo := pool [(1, u "java/io/Serializable"), (0, .class_ 1), (0, u "java/lang/Object"), (0, .class_ 3)] 3

/-- java/io/Serializable -/
def k4 : Class := { plain "java/io/Serializable" (some 0) with
  accessFlags := 1537
  interfaces := #[]
  cf := some (fileOf pool4 2 #[] #[] 1537 4 #[] #[])
  fields := #[]
  methods := #[]
  instanceTypes := #[]
  staticTypes := #[]
  resolved := Array.replicate 8 none
  statics := none }

/-- the primitive byte -/
def k5 : Class := { plain "byte" none with kind := .primitive 'B', accessFlags := 0x411 }
/-- [B -/
def k6 : Class := { plain "[B" (some 0) with kind := .array 5 .byte, interfaces := #[3, 4], accessFlags := 1041 }

/-- the primitive int -/
def k7 : Class := { plain "int" none with kind := .primitive 'I', accessFlags := 0x411 }
/-- [I -/
def k8 : Class := { plain "[I" (some 0) with kind := .array 7 .int, interfaces := #[3, 4], accessFlags := 1041 }

def heap : Heap := #[]
def classes : Array Class := #[k0, k1, k2, k3, k4, k5, k6, k7, k8]
def interned : List (Array UInt16 × Addr) := []
def slotsUsed : Nat := 0
def theMethod : MethodId := ⟨1, 1⟩
def args0 : Array Value := #[.int 5, .int 1, .int 2, .int 3, .int 4, .int 6]
def aboutOver (below : List Frame) : State where
  vm := { classes := classes, interned := interned.toArray }
  heap := heap
  slotsUsed := slotsUsed
  threads := #[{ frames := .invoking theMethod args0 :: below }]
def below0 : List Frame := [.native { method := ⟨0, 0⟩, args := #[] }]
def about1 : State := aboutOver below0
def p0 : Program := .bare "" "" ""
def e0 : Env := launch0.env 0 0 0
theorem w_frames : about1.frames = Frame.invoking theMethod args0 :: below0 := rfl
set_option maxRecDepth 65536 in
theorem w_args : argsFit about1.vm theMethod args0 = true := by decide +kernel
set_option maxRecDepth 65536 in
theorem w_heap : heapFits about1 = true := by decide +kernel
set_option maxRecDepth 65536 in
theorem w_runnable : about1.curStatus? = some .runnable := by decide +kernel
set_option maxRecDepth 65536 in
theorem w_alone : about1.alone = true := by decide +kernel
set_option maxRecDepth 65536 in
theorem w_named : about1.methodNamed? x = some theMethod := by decide +kernel
set_option maxRecDepth 65536 in
theorem w_hears : about1.hears theMethod below0 = true := by decide +kernel
set_option maxRecDepth 65536 in
theorem w_ripe : about1.ripe theMethod args0 below0 = true := by decide +kernel
theorem w_running : about1.status = .running := rfl
set_option maxRecDepth 65536 in
theorem w_room : about1.hasRoom e0.platform room_1 = true :=
  launch0.hasRoom_least _ room_1 (by decide +kernel) (by decide +kernel) (by decide +kernel) (by decide +kernel) (by decide +kernel) (by decide +kernel)
theorem allAtoms_all (ts : List Jvm.Cond) (a : Array Jvm.Value) (st : Jvm.State) : (allAtoms ts).before a st = ts.all (fun c => c.before a st) := by
  induction ts with
  | nil => rfl
  | cons c t ih =>
    show (Jvm.Cond.and c (allAtoms t)).before a st = _
    rw [Jvm.Cond.before_and, ih, List.all_cons]
def words1 : List Jvm.Cond := Jvm.Cond.code x code maxLocals ret :: tables_1
/-- a 'code' word, met by the world's own term for the bytes: nothing is compared byte by byte -/
theorem code_word {y : MethodName} {bytes : ByteArray} {mx : Nat} {rt : Option FieldType} {a : Array Value} {s : State} {m : MethodId} {meth : Method} {c : Code} (h1 : s.methodNamed? y = some m) (h2 : s.vm.method? m = some meth) (h3 : meth.code = some c) (h4 : c.code = bytes)
    (h5 : (c.maxLocals == mx && c.exceptionTable.isEmpty && decide (c.maxStack ≤ mostOperands) && decide (meth.sig.returnType = rt) && !meth.locks && decide (parseMethodDescriptor y.desc = some meth.sig)) = true) : (Jvm.Cond.code y bytes mx rt).before a s = true := by
  simp only [Bool.and_eq_true, beq_iff_eq, Bool.not_eq_true', decide_eq_true_eq] at h5
  obtain ⟨⟨⟨⟨⟨g1, g2⟩, g3⟩, g4⟩, g5⟩, g6⟩ := h5
  simp [Cond.before, Cond.holds, Cond.value, h1, h2, h3, h4, g1, g2, g3, g4, g5, g6]
def isCode : Jvm.Cond → Bool
  | .code _ _ _ _ => true
  | _ => false
theorem all_split {L : List Jvm.Cond} {P : Jvm.Cond → Bool} (h1 : L.all (fun c => isCode c || P c) = true) (h2 : ∀ c ∈ L.filter isCode, P c = true) : L.all P = true := by
  refine List.all_eq_true.mpr fun c hc => ?_
  have h := List.all_eq_true.mp h1 c hc
  rcases Bool.eq_false_or_eq_true (isCode c) with hi | hi
  · exact h2 c (List.mem_filter.mpr ⟨hc, hi⟩)
  · simpa [hi] using h
set_option maxRecDepth 65536 in
theorem w_c0 : (Jvm.Cond.code x code maxLocals ret).before args0 about1 = true := code_word (m := ⟨1, 1⟩) (meth := k1m1) (c := k1c1) (by decide +kernel) rfl rfl rfl (by decide +kernel)
set_option maxRecDepth 65536 in
theorem w_c1 : (Jvm.Cond.code ({ cls := "com/example/renkei/renkei/reader/LineCountTakePinLaw", name := "unit", desc := "(I)B" } : Jvm.MethodName) method_3_code (2 : Nat) (Option.some Jvm.ClassFile.FieldType.byte)).before args0 about1 = true := code_word (m := ⟨1, 2⟩) (meth := k1m2) (c := k1c2) (by decide +kernel) rfl rfl rfl (by decide +kernel)
set_option maxRecDepth 65536 in
theorem w_c2 : (Jvm.Cond.code ({ cls := "com/example/renkei/renkei/reader/LineCount", name := "<init>", desc := "()V" } : Jvm.MethodName) prog_83_method_1_code (1 : Nat) (Option.none : Option Jvm.ClassFile.FieldType)).before args0 about1 = true := code_word (m := ⟨2, 0⟩) (meth := k2m0) (c := k2c0) (by decide +kernel) rfl rfl rfl (by decide +kernel)
set_option maxRecDepth 65536 in
theorem w_c3 : (Jvm.Cond.code ({ cls := "java/lang/Object", name := "<init>", desc := "()V" } : Jvm.MethodName) object_method_1_code (1 : Nat) (Option.none : Option Jvm.ClassFile.FieldType)).before args0 about1 = true := code_word (m := ⟨0, 0⟩) (meth := k0m0) (c := k0c0) (by decide +kernel) rfl rfl rfl (by decide +kernel)
set_option maxRecDepth 65536 in
theorem w_c4 : (Jvm.Cond.code ({ cls := "com/example/renkei/renkei/reader/LineCount", name := "set", desc := "(I)V" } : Jvm.MethodName) prog_83_method_5_code (2 : Nat) (Option.none : Option Jvm.ClassFile.FieldType)).before args0 about1 = true := code_word (m := ⟨2, 4⟩) (meth := k2m4) (c := k2c4) (by decide +kernel) rfl rfl rfl (by decide +kernel)
set_option maxRecDepth 65536 in
theorem w_c5 : (Jvm.Cond.code ({ cls := "com/example/renkei/renkei/reader/LineCountTakePinLaw", name := "brk", desc := "([BIIIZ)I" } : Jvm.MethodName) method_4_code (6 : Nat) (Option.some Jvm.ClassFile.FieldType.int)).before args0 about1 = true := code_word (m := ⟨1, 3⟩) (meth := k1m3) (c := k1c3) (by decide +kernel) rfl rfl rfl (by decide +kernel)
set_option maxRecDepth 65536 in
theorem w_c6 : (Jvm.Cond.code ({ cls := "com/example/renkei/renkei/reader/LineCount", name := "take", desc := "([BII)V" } : Jvm.MethodName) prog_83_method_3_code (8 : Nat) (Option.none : Option Jvm.ClassFile.FieldType)).before args0 about1 = true := code_word (m := ⟨2, 2⟩) (meth := k2m2) (c := k2c2) (by decide +kernel) rfl rfl rfl (by decide +kernel)
set_option maxRecDepth 65536 in
theorem w_c7 : (Jvm.Cond.code ({ cls := "com/example/renkei/renkei/reader/LineCount", name := "line", desc := "()I" } : Jvm.MethodName) prog_83_method_4_code (1 : Nat) (Option.some Jvm.ClassFile.FieldType.int)).before args0 about1 = true := code_word (m := ⟨2, 3⟩) (meth := k2m3) (c := k2c3) (by decide +kernel) rfl rfl rfl (by decide +kernel)
set_option maxRecDepth 65536 in
theorem w_c8 : (Jvm.Cond.code ({ cls := "com/example/renkei/renkei/reader/LineCount", name := "take", desc := "(I)V" } : Jvm.MethodName) prog_83_method_2_code (2 : Nat) (Option.none : Option Jvm.ClassFile.FieldType)).before args0 about1 = true := code_word (m := ⟨2, 1⟩) (meth := k2m1) (c := k2c1) (by decide +kernel) rfl rfl rfl (by decide +kernel)
def codes1 : List Jvm.Cond := [Jvm.Cond.code x code maxLocals ret, Jvm.Cond.code ({ cls := "com/example/renkei/renkei/reader/LineCountTakePinLaw", name := "unit", desc := "(I)B" } : Jvm.MethodName) method_3_code (2 : Nat) (Option.some Jvm.ClassFile.FieldType.byte), Jvm.Cond.code ({ cls := "com/example/renkei/renkei/reader/LineCount", name := "<init>", desc := "()V" } : Jvm.MethodName) prog_83_method_1_code (1 : Nat) (Option.none : Option Jvm.ClassFile.FieldType), Jvm.Cond.code ({ cls := "java/lang/Object", name := "<init>", desc := "()V" } : Jvm.MethodName) object_method_1_code (1 : Nat) (Option.none : Option Jvm.ClassFile.FieldType), Jvm.Cond.code ({ cls := "com/example/renkei/renkei/reader/LineCount", name := "set", desc := "(I)V" } : Jvm.MethodName) prog_83_method_5_code (2 : Nat) (Option.none : Option Jvm.ClassFile.FieldType), Jvm.Cond.code ({ cls := "com/example/renkei/renkei/reader/LineCountTakePinLaw", name := "brk", desc := "([BIIIZ)I" } : Jvm.MethodName) method_4_code (6 : Nat) (Option.some Jvm.ClassFile.FieldType.int), Jvm.Cond.code ({ cls := "com/example/renkei/renkei/reader/LineCount", name := "take", desc := "([BII)V" } : Jvm.MethodName) prog_83_method_3_code (8 : Nat) (Option.none : Option Jvm.ClassFile.FieldType), Jvm.Cond.code ({ cls := "com/example/renkei/renkei/reader/LineCount", name := "line", desc := "()I" } : Jvm.MethodName) prog_83_method_4_code (1 : Nat) (Option.some Jvm.ClassFile.FieldType.int), Jvm.Cond.code ({ cls := "com/example/renkei/renkei/reader/LineCount", name := "take", desc := "(I)V" } : Jvm.MethodName) prog_83_method_2_code (2 : Nat) (Option.none : Option Jvm.ClassFile.FieldType)]
set_option maxRecDepth 65536 in
theorem codes_eq : words1.filter isCode = codes1 := rfl
theorem w_codes : ∀ c ∈ words1.filter isCode, c.before args0 about1 = true := by
  rw [codes_eq]
  intro c hc
  simp only [codes1, List.mem_cons, List.not_mem_nil, or_false] at hc
  rcases hc with rfl | rfl | rfl | rfl | rfl | rfl | rfl | rfl | rfl
  · exact w_c0
  · exact w_c1
  · exact w_c2
  · exact w_c3
  · exact w_c4
  · exact w_c5
  · exact w_c6
  · exact w_c7
  · exact w_c8
set_option maxRecDepth 65536 in
theorem w_t1 : (words1.take 24).all (fun c => isCode c || c.before args0 about1) = true := by decide +kernel
set_option maxRecDepth 65536 in
theorem w_t2 : (words1.drop 24).all (fun c => isCode c || c.before args0 about1) = true := by decide +kernel
theorem w_tables : (allAtoms (Jvm.Cond.code x code maxLocals ret :: tables_1)).before args0 about1 = true := by
  rw [allAtoms_all]
  show words1.all (fun c => c.before args0 about1) = true
  refine all_split ?_ w_codes
  rw [← List.take_append_drop 24 words1, List.all_append, w_t1, w_t2]
  rfl
set_option maxRecDepth 65536 in
theorem w_case : (Jvm.Cond.and given_1 narrow_1).before args0 about1 = true := by decide +kernel
theorem w_applies : (headSpec (Jvm.Cond.code x code maxLocals ret :: tables_1) room_1).applies x e0.platform about1 = true :=
  (Spec.applies_iff w_frames).mpr ⟨w_running, w_runnable, w_alone, w_named, w_hears, w_ripe, w_room, w_tables⟩
theorem atStart : AtStart classFile x code maxLocals ret World_1 tables_1 room_1 Calls_1 rest_1 Pre_1 launch0 p0 e0 about1 theMethod args0 below0 :=
  ⟨lists_1, trivial, launch0.admits_env _ _ _, launch0.least_env, fairChoices_fair.cas, fairChoices_fair.clock, w_frames, w_args, w_heap, w_applies, trivial, trivial, w_case⟩
end start1
theorem witness_1 : WitnessClaimed_1 := ⟨start1.p0, start1.e0, start1.about1, start1.theMethod, start1.args0, start1.below0, start1.atStart⟩
end Jvm.Pilot.@@N@@
