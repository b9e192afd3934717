import JvmDerived
import JvmDerived.Pilot.@@N@@Statement
import JvmDerived.Pilot.@@N@@Code
set_option linter.unusedVariables false
set_option linter.unusedSimpArgs false
namespace Jvm.Pilot.@@N@@
open Jvm Jvm.ClassFile Sem Op Lib Jvm.Free Jvm.Stand Jvm.LawKit Jvm.RoadKit Bundle Jvm.Pilot.@@N@@.Jvm.D
section OwnKit
variable {p : Program} {l : Launch} {e : Env} {R : Room} {s : State} {m : MethodId} {args : Array Value} {below : List Frame} {meth : Method} {c : Code} {T T' : State} {locs : List Loc} {cells slots : Nat} {Z : State} {a0 : Array Value} {h : Heap} {CC SS : Nat} {QQ : Option Value → Heap → List Loc → Prop} {pc : Nat} {Ls : Array Slot} {rest : List Value}
/-- the run from the frame g on comes back, with what QQ says -/
def Go (p : Program) (e : Env) (below : List Frame) (s : State) (CC SS : Nat) (QQ : Option Value → Heap → List Loc → Prop) (T : State) (g : JFrame) : Prop :=
  ∃ s₂ o, Steps p.tables e below (T.setTop g) s₂ ∧ s₂.status = .running ∧ Ended s₂ below o ∧ ∃ v L, o = .returned v ∧ QQ v s₂.heap L ∧ FrameEnd s o s₂ L CC SS
/-- a callee's contract -/
def Met (l : Launch) (Z : State) (y : MethodName) (bytes : ByteArray) (maxL : Nat) (ret : Option FieldType) (ws : List Jvm.Cond) (rm : Room) (as' : Array Value) (h0 : Heap) (QQ : Option Value → Heap → List Loc → Prop) : Prop :=
  MetFree l y (head1 (Jvm.Cond.code y bytes maxL ret :: ws) rm) (fun a U => a = as' ∧ Z.Warmed39 U.vm ∧ U.heap = h0) (fun _ _ _ _ _ => True) (fun _ U o U' => ∃ v L, o = .returned v ∧ QQ v U'.heap L ∧ FrameEnd U o U' L rm.cells rm.slots)
theorem met_of {y : MethodName} {bytes : ByteArray} {maxL : Nat} {ret : Option FieldType} {ws : List Jvm.Cond} {rm : Room} {as' : Array Value} {h0 : Heap} (hx : plainFor y = true) (hef : ∀ m, entryFrame m as' maxL = mkF m 0 Ls [])
    (body : ∀ (p : Program) (e : Env) (s : State) (m : MethodId) (below : List Frame) (meth : Method) (c : Code) (s₁ : State), p.tables.exec = Jvm.exec → c.code = bytes → c.maxLocals = maxL → s.vm.findClass y.cls = some m.cls → meth.name = y.name → meth.sig.returnType = ret → meth.locks = false → Z.Warmed39 s.vm →
      Stand p l e rm s m as' below meth c s₁ [] 0 0 → s₁.heap = h0 → Go p e below s rm.cells rm.slots QQ s₁ (mkF m 0 Ls [])) : Met l Z y bytes maxL ret ws rm as' h0 QQ := by
  refine MetFree.of_bodySF hx hisR ?_
  intro p e s m args below meth c s₁ Bd hml0 hP hK
  obtain ⟨rfl, hZ, hh⟩ := hP
  have e0 : s₁.heap = h0 := by rw [← hh, Bd.state]; rfl
  have k := body p e s m below meth c s₁ Bd.exec Bd.bytes hml0 (findClass_of_methodNamed Bd.named) (name_of_methodNamed Bd.named Bd.method).1 Bd.returns Bd.notSynchronized hZ (Stand.of_body Bd) e0
  rw [hef m]
  exact k
theorem Go.st {g g' : JFrame} (st : ∀ t, Steps p.tables e below (T'.setTop g') t → Steps p.tables e below (T.setTop g) t) (k : Go p e below s CC SS QQ T' g') : Go p e below s CC SS QQ T g := by
  obtain ⟨s₂, o, h1, h2⟩ := k
  exact ⟨s₂, o, st _ h1, h2⟩
theorem Go.tr {g g' : JFrame} (st : Steps p.tables e below (T.setTop g) (T'.setTop g')) (k : Go p e below s CC SS QQ T' g') : Go p e below s CC SS QQ T g := by
  obtain ⟨s₂, o, h1, h2⟩ := k
  exact ⟨s₂, o, st.trans h1, h2⟩
-- the returns
theorem gRetZ (X : Stand p l e R s m args below meth c T locs cells slots) (hx : p.tables.exec = Jvm.exec) (hlk : meth.locks = false) {z z' : Int32} {t : FieldType} (hret : meth.sig.returnType = some t) (ht : t = .boolean ∨ t = .byte ∨ t = .char ∨ t = .short) (hd : decode c.code pc = .ok (.ireturn, 1)) (hz : nar t z = z')
    (hc : cells ≤ CC) (hs : slots ≤ SS) (hQ : QQ (some (.int z')) T.heap locs) : Go p e below s CC SS QQ T (mkF m pc Ls (.int z :: rest)) := by
  obtain ⟨fs, hr, hrun, hended, hW, hsame⟩ := X.leave (v := some (.int z')) (fun h => by rw [hret] at h; cases h) hlk
  exact ⟨_, _, retN X hx hret ht hd (by rw [hz]; exact hr), hrun, hended, _, _, rfl, hQ, ⟨_, rfl⟩, hW, hsame.mono hc hs⟩
theorem gRetI (X : Stand p l e R s m args below meth c T locs cells slots) (hx : p.tables.exec = Jvm.exec) (hlk : meth.locks = false) {z : Int32} (hret : meth.sig.returnType = some .int) (hd : decode c.code pc = .ok (.ireturn, 1))
    (hc : cells ≤ CC) (hs : slots ≤ SS) (hQ : QQ (some (.int z)) T.heap locs) : Go p e below s CC SS QQ T (mkF m pc Ls (.int z :: rest)) := by
  obtain ⟨fs, hr, hrun, hended, hW, hsame⟩ := X.leave (v := some (.int z)) (fun h => by rw [hret] at h; cases h) hlk
  exact ⟨_, _, retOut X hx hret rfl (Or.inl ⟨rfl, Or.inl rfl, z, rfl⟩) hd hr, hrun, hended, _, _, rfl, hQ, ⟨_, rfl⟩, hW, hsame.mono hc hs⟩
theorem gRetA (X : Stand p l e R s m args below meth c T locs cells slots) (hx : p.tables.exec = Jvm.exec) (hlk : meth.locks = false) {w : Value} {t : FieldType} (hret : meth.sig.returnType = some t) (ht : t.isReference = true) (hn : narrow t w = w) (hw : w.isRef = true) (hd : decode c.code pc = .ok (.areturn, 1))
    (hc : cells ≤ CC) (hs : slots ≤ SS) (hQ : QQ (some w) T.heap locs) : Go p e below s CC SS QQ T (mkF m pc Ls (w :: rest)) := by
  obtain ⟨fs, hr, hrun, hended, hW, hsame⟩ := X.leave (v := some w) (fun h => by rw [hret] at h; cases h) hlk
  exact ⟨_, _, retOut X hx hret hn (Or.inr (Or.inr (Or.inr (Or.inr ⟨rfl, ht, hw⟩)))) hd hr, hrun, hended, _, _, rfl, hQ, ⟨_, rfl⟩, hW, hsame.mono hc hs⟩
theorem gRetV (X : Stand p l e R s m args below meth c T locs cells slots) (hx : p.tables.exec = Jvm.exec) (hlk : meth.locks = false) (hret : meth.sig.returnType = none) (hd : decode c.code pc = .ok (.return_, 1))
    (hc : cells ≤ CC) (hs : slots ≤ SS) (hQ : QQ none T.heap locs) : Go p e below s CC SS QQ T (mkF m pc Ls []) := by
  obtain ⟨fs, hr, hrun, hended, hW, hsame⟩ := X.leave (v := none) (fun _ => rfl) hlk
  exact ⟨_, _, X.returnOut hx hret hd hr, hrun, hended, _, _, rfl, hQ, ⟨_, rfl⟩, hW, hsame.mono hc hs⟩
-- the plain steps
theorem gAloadN (X : Stand p l e R s m args below meth c T locs cells slots) (hx : p.tables.exec = Jvm.exec) {k : Fin 4} {v : Value} (hd : decode c.code pc = .ok (.aload_n k, 1)) (hl : Ls[k.val]? = some (.val v)) (hv : v.isRef = true)
    (kk : Go p e below s CC SS QQ T (mkF m (pc + 1) Ls (v :: rest))) : Go p e below s CC SS QQ T (mkF m pc Ls rest) := Go.st (fun _ => XS.aloadN X.here hx rfl hd hl hv) kk
theorem gAload (X : Stand p l e R s m args below meth c T locs cells slots) (hx : p.tables.exec = Jvm.exec) {k : Nat} {v : Value} (hd : decode c.code pc = .ok (.aload k, 2)) (hl : Ls[k]? = some (.val v)) (hv : v.isRef = true)
    (kk : Go p e below s CC SS QQ T (mkF m (pc + 2) Ls (v :: rest))) : Go p e below s CC SS QQ T (mkF m pc Ls rest) := Go.st (fun _ => XS.aload X.here hx rfl hd hl hv) kk
theorem gIloadN (X : Stand p l e R s m args below meth c T locs cells slots) (hx : p.tables.exec = Jvm.exec) {k : Fin 4} {v : Int32} (hd : decode c.code pc = .ok (.iload_n k, 1)) (hl : Ls[k.val]? = some (.val (.int v)))
    (kk : Go p e below s CC SS QQ T (mkF m (pc + 1) Ls (.int v :: rest))) : Go p e below s CC SS QQ T (mkF m pc Ls rest) := Go.st (fun _ => XS.iloadN X.here hx rfl hd hl) kk
theorem gIload (X : Stand p l e R s m args below meth c T locs cells slots) (hx : p.tables.exec = Jvm.exec) {k : Nat} {v : Int32} (hd : decode c.code pc = .ok (.iload k, 2)) (hl : Ls[k]? = some (.val (.int v)))
    (kk : Go p e below s CC SS QQ T (mkF m (pc + 2) Ls (.int v :: rest))) : Go p e below s CC SS QQ T (mkF m pc Ls rest) := Go.st (fun _ => XS.iload X.here hx rfl hd hl) kk
theorem gIconst (X : Stand p l e R s m args below meth c T locs cells slots) (hx : p.tables.exec = Jvm.exec) {i : Int} (v : Int32) (hd : decode c.code pc = .ok (.iconst i, 1)) (hv : Int32.ofInt i = v)
    (kk : Go p e below s CC SS QQ T (mkF m (pc + 1) Ls (.int v :: rest))) : Go p e below s CC SS QQ T (mkF m pc Ls rest) := by subst hv; exact Go.st (fun _ => XS.iconst X.here hx rfl hd) kk
theorem gBipush (X : Stand p l e R s m args below meth c T locs cells slots) (hx : p.tables.exec = Jvm.exec) {i : Int} (v : Int32) (hd : decode c.code pc = .ok (.bipush i, 2)) (hv : (Int8.ofInt i).toInt32 = v)
    (kk : Go p e below s CC SS QQ T (mkF m (pc + 2) Ls (.int v :: rest))) : Go p e below s CC SS QQ T (mkF m pc Ls rest) := by subst hv; exact Go.st (fun _ => XS.bipush X.here hx rfl hd) kk
theorem gSipush (X : Stand p l e R s m args below meth c T locs cells slots) (hx : p.tables.exec = Jvm.exec) {i : Int} (v : Int32) (hd : decode c.code pc = .ok (.sipush i, 3)) (hv : (Int16.ofInt i).toInt32 = v)
    (kk : Go p e below s CC SS QQ T (mkF m (pc + 3) Ls (.int v :: rest))) : Go p e below s CC SS QQ T (mkF m pc Ls rest) := by subst hv; exact Go.st (fun _ => XS.sipush X.here hx rfl hd) kk
theorem gNull (X : Stand p l e R s m args below meth c T locs cells slots) (hx : p.tables.exec = Jvm.exec) (hd : decode c.code pc = .ok (.aconst_null, 1))
    (kk : Go p e below s CC SS QQ T (mkF m (pc + 1) Ls (.null :: rest))) : Go p e below s CC SS QQ T (mkF m pc Ls rest) := Go.st (fun _ => XS.aconstNull X.here hx rfl hd) kk
theorem gLdc (X : Stand p l e R s m args below meth c T locs cells slots) (hx : p.tables.exec = Jvm.exec) (hZ : Z.Warmed39 s.vm) {own : String} {index : Nat} (v : Int32) (hown : s.vm.findClass own = some m.cls) (w : (Cond.constant own index v).before a0 Z = true) (hd : decode c.code pc = .ok (.ldc index, 2))
    (kk : Go p e below s CC SS QQ T (mkF m (pc + 2) Ls (.int v :: rest))) : Go p e below s CC SS QQ T (mkF m pc Ls rest) := Go.st (X.ldcInt hx hown (mvT hZ w) rfl hd) kk
theorem gIadd (X : Stand p l e R s m args below meth c T locs cells slots) (hx : p.tables.exec = Jvm.exec) {x y : Int32} (hd : decode c.code pc = .ok (.iadd, 1))
    (kk : Go p e below s CC SS QQ T (mkF m (pc + 1) Ls (.int (x + y) :: rest))) : Go p e below s CC SS QQ T (mkF m pc Ls (.int y :: .int x :: rest)) := Go.st (fun _ => XS.iadd X.here hx rfl hd rfl) kk
theorem gIsub (X : Stand p l e R s m args below meth c T locs cells slots) (hx : p.tables.exec = Jvm.exec) {x y : Int32} (hd : decode c.code pc = .ok (.isub, 1))
    (kk : Go p e below s CC SS QQ T (mkF m (pc + 1) Ls (.int (x - y) :: rest))) : Go p e below s CC SS QQ T (mkF m pc Ls (.int y :: .int x :: rest)) := Go.st (fun _ => XS.isub X.here hx rfl hd rfl) kk
theorem gIand (X : Stand p l e R s m args below meth c T locs cells slots) (hx : p.tables.exec = Jvm.exec) {x y : Int32} (hd : decode c.code pc = .ok (.iand, 1))
    (kk : Go p e below s CC SS QQ T (mkF m (pc + 1) Ls (.int (x &&& y) :: rest))) : Go p e below s CC SS QQ T (mkF m pc Ls (.int y :: .int x :: rest)) := Go.st (fun _ => XS.iand X.here hx rfl hd rfl) kk
theorem gImul (X : Stand p l e R s m args below meth c T locs cells slots) (hx : p.tables.exec = Jvm.exec) {x y : Int32} (hd : decode c.code pc = .ok (.imul, 1))
    (kk : Go p e below s CC SS QQ T (mkF m (pc + 1) Ls (.int (x * y) :: rest))) : Go p e below s CC SS QQ T (mkF m pc Ls (.int y :: .int x :: rest)) := Go.st (fun _ => XS.imul X.here hx rfl hd rfl) kk
theorem gIxor (X : Stand p l e R s m args below meth c T locs cells slots) (hx : p.tables.exec = Jvm.exec) {x y : Int32} (hd : decode c.code pc = .ok (.ixor, 1))
    (kk : Go p e below s CC SS QQ T (mkF m (pc + 1) Ls (.int (x ^^^ y) :: rest))) : Go p e below s CC SS QQ T (mkF m pc Ls (.int y :: .int x :: rest)) := Go.st (fun _ => XT.ixor X.here hx rfl hd rfl) kk
theorem gIshl (X : Stand p l e R s m args below meth c T locs cells slots) (hx : p.tables.exec = Jvm.exec) {x y : Int32} (hd : decode c.code pc = .ok (.ishl, 1))
    (kk : Go p e below s CC SS QQ T (mkF m (pc + 1) Ls (.int (x <<< (y &&& 31)) :: rest))) : Go p e below s CC SS QQ T (mkF m pc Ls (.int y :: .int x :: rest)) := Go.st (fun _ => XT.ishl X.here hx rfl hd rfl) kk
theorem gIshr (X : Stand p l e R s m args below meth c T locs cells slots) (hx : p.tables.exec = Jvm.exec) {x y : Int32} (hd : decode c.code pc = .ok (.ishr, 1))
    (kk : Go p e below s CC SS QQ T (mkF m (pc + 1) Ls (.int (x >>> (y &&& 31)) :: rest))) : Go p e below s CC SS QQ T (mkF m pc Ls (.int y :: .int x :: rest)) := Go.st (fun _ => XT.ishr X.here hx rfl hd rfl) kk
theorem gIushr (X : Stand p l e R s m args below meth c T locs cells slots) (hx : p.tables.exec = Jvm.exec) {x y : Int32} (hd : decode c.code pc = .ok (.iushr, 1))
    (kk : Go p e below s CC SS QQ T (mkF m (pc + 1) Ls (.int (XT.ushr x y) :: rest))) : Go p e below s CC SS QQ T (mkF m pc Ls (.int y :: .int x :: rest)) := Go.st (fun _ => XT.iushr X.here hx rfl hd rfl) kk
theorem gIrem (X : Stand p l e R s m args below meth c T locs cells slots) (hx : p.tables.exec = Jvm.exec) {x y : Int32} (hd : decode c.code pc = .ok (.irem, 1)) (hy : y ≠ 0)
    (kk : Go p e below s CC SS QQ T (mkF m (pc + 1) Ls (.int (x % y) :: rest))) : Go p e below s CC SS QQ T (mkF m pc Ls (.int y :: .int x :: rest)) := Go.st (fun _ => iremM X hx rfl hd rfl hy) kk
theorem gI2b (X : Stand p l e R s m args below meth c T locs cells slots) (hx : p.tables.exec = Jvm.exec) {x : Int32} (hd : decode c.code pc = .ok (.i2b, 1))
    (kk : Go p e below s CC SS QQ T (mkF m (pc + 1) Ls (.int x.toInt8.toInt32 :: rest))) : Go p e below s CC SS QQ T (mkF m pc Ls (.int x :: rest)) := Go.st (fun _ => XT.i2b X.here hx rfl hd rfl) kk
theorem gI2c (X : Stand p l e R s m args below meth c T locs cells slots) (hx : p.tables.exec = Jvm.exec) {x : Int32} (hd : decode c.code pc = .ok (.i2c, 1))
    (kk : Go p e below s CC SS QQ T (mkF m (pc + 1) Ls (.int x.toUInt32.toUInt16.toUInt32.toInt32 :: rest))) : Go p e below s CC SS QQ T (mkF m pc Ls (.int x :: rest)) := Go.st (fun _ => XT.i2c X.here hx rfl hd rfl) kk
theorem gDup (X : Stand p l e R s m args below meth c T locs cells slots) (hx : p.tables.exec = Jvm.exec) {x : Value} (hd : decode c.code pc = .ok (.dup, 1)) (hc : x.category = 1)
    (kk : Go p e below s CC SS QQ T (mkF m (pc + 1) Ls (x :: x :: rest))) : Go p e below s CC SS QQ T (mkF m pc Ls (x :: rest)) := Go.st (fun _ => XS.dup X.here hx rfl hd rfl hc) kk
theorem gPop (X : Stand p l e R s m args below meth c T locs cells slots) (hx : p.tables.exec = Jvm.exec) {x : Value} (hd : decode c.code pc = .ok (.pop, 1)) (hc : x.category = 1)
    (kk : Go p e below s CC SS QQ T (mkF m (pc + 1) Ls rest)) : Go p e below s CC SS QQ T (mkF m pc Ls (x :: rest)) := Go.st (fun _ => XT.pop X.here hx rfl hd rfl hc) kk
theorem gIstoreN (X : Stand p l e R s m args below meth c T locs cells slots) (hx : p.tables.exec = Jvm.exec) {k : Fin 4} {x : Int32} (l' : Array Slot) (hd : decode c.code pc = .ok (.istore_n k, 1)) (hl : storeLocals Ls k.val (.int x) = some l')
    (kk : Go p e below s CC SS QQ T (mkF m (pc + 1) l' rest)) : Go p e below s CC SS QQ T (mkF m pc Ls (.int x :: rest)) := Go.st (fun _ => XS.istoreN X.here hx rfl hd rfl hl) kk
theorem gIstore (X : Stand p l e R s m args below meth c T locs cells slots) (hx : p.tables.exec = Jvm.exec) {k : Nat} {x : Int32} (l' : Array Slot) (hd : decode c.code pc = .ok (.istore k, 2)) (hl : storeLocals Ls k (.int x) = some l')
    (kk : Go p e below s CC SS QQ T (mkF m (pc + 2) l' rest)) : Go p e below s CC SS QQ T (mkF m pc Ls (.int x :: rest)) := Go.st (fun _ => XS.istore X.here hx rfl hd rfl hl) kk
theorem gAstoreN (X : Stand p l e R s m args below meth c T locs cells slots) (hx : p.tables.exec = Jvm.exec) {k : Fin 4} {x : Value} (l' : Array Slot) (hd : decode c.code pc = .ok (.astore_n k, 1)) (hv : x.isRef = true) (hl : storeLocals Ls k.val x = some l')
    (kk : Go p e below s CC SS QQ T (mkF m (pc + 1) l' rest)) : Go p e below s CC SS QQ T (mkF m pc Ls (x :: rest)) := Go.st (fun _ => XS.astoreN X.here hx rfl hd rfl hv hl) kk
theorem gAstore (X : Stand p l e R s m args below meth c T locs cells slots) (hx : p.tables.exec = Jvm.exec) {k : Nat} {x : Value} (l' : Array Slot) (hd : decode c.code pc = .ok (.astore k, 2)) (hv : x.isRef = true) (hl : storeLocals Ls k x = some l')
    (kk : Go p e below s CC SS QQ T (mkF m (pc + 2) l' rest)) : Go p e below s CC SS QQ T (mkF m pc Ls (x :: rest)) := Go.st (fun _ => XS.astore X.here hx rfl hd rfl hv hl) kk
theorem gIinc (X : Stand p l e R s m args below meth c T locs cells slots) (hx : p.tables.exec = Jvm.exec) {k : Nat} {cst : Int} {x : Int32} (v : Int32) (l' : Array Slot) (hd : decode c.code pc = .ok (.iinc k cst, 3)) (hv : Int32.ofInt cst = v) (hl : Ls[k]? = some (.val (.int x))) (hl' : storeLocals Ls k (.int (x + v)) = some l')
    (kk : Go p e below s CC SS QQ T (mkF m (pc + 3) l' rest)) : Go p e below s CC SS QQ T (mkF m pc Ls rest) := by subst hv; exact Go.st (fun _ => XS.iinc X.here hx rfl hd hl hl') kk
theorem gGoto (X : Stand p l e R s m args below meth c T locs cells slots) (hx : p.tables.exec = Jvm.exec) {o : Int} (pc' : Nat) (hd : decode c.code pc = .ok (.goto o, 3)) (ho : 0 ≤ (pc : Int) + o) (hp : ((pc : Int) + o).toNat = pc')
    (kk : Go p e below s CC SS QQ T (mkF m pc' Ls rest)) : Go p e below s CC SS QQ T (mkF m pc Ls rest) := Go.st (fun _ => XS.goto X.here hx rfl (pc0 := pc) rfl hd ho hp) kk
-- the branches: both roads
theorem gIcmp (X : Stand p l e R s m args below meth c T locs cells slots) (hx : p.tables.exec = Jvm.exec) {cd : ClassFile.Cond} {x y : Int32} {o : Int} (pc' : Nat) (hd : decode c.code pc = .ok (.if_icmp cd o, 3)) (ho : 0 ≤ (pc : Int) + o) (hp : ((pc : Int) + o).toNat = pc')
    (kt : if_icmp.holds cd x y = true → Go p e below s CC SS QQ T (mkF m pc' Ls rest)) (kf : if_icmp.holds cd x y = false → Go p e below s CC SS QQ T (mkF m (pc + 3) Ls rest)) : Go p e below s CC SS QQ T (mkF m pc Ls (.int y :: .int x :: rest)) := by
  cases hq : if_icmp.holds cd x y
  · exact Go.st (fun _ => XS.icmpNo X.here hx rfl hd rfl hq) (kf hq)
  · exact Go.st (fun _ => XS.icmpYes X.here hx rfl (pc0 := pc) rfl hd rfl hq ho hp) (kt hq)
theorem gIf (X : Stand p l e R s m args below meth c T locs cells slots) (hx : p.tables.exec = Jvm.exec) {cd : ClassFile.Cond} {x : Int32} {o : Int} (pc' : Nat) (hd : decode c.code pc = .ok (.ifCond cd o, 3)) (ho : 0 ≤ (pc : Int) + o) (hp : ((pc : Int) + o).toNat = pc')
    (kt : if_icmp.holds cd x 0 = true → Go p e below s CC SS QQ T (mkF m pc' Ls rest)) (kf : if_icmp.holds cd x 0 = false → Go p e below s CC SS QQ T (mkF m (pc + 3) Ls rest)) : Go p e below s CC SS QQ T (mkF m pc Ls (.int x :: rest)) := by
  cases hq : if_icmp.holds cd x 0
  · exact Go.st (fun _ => XS.ifNo X.here hx rfl hd rfl ((if0 _ _).trans hq)) (kf hq)
  · exact Go.st (fun _ => XS.ifYes X.here hx rfl (pc0 := pc) rfl hd rfl ((if0 _ _).trans hq) ho hp) (kt hq)
theorem o_eqT {x y : Int32} (h : if_icmp.holds .eq x y = true) : x = y := Decidable.byContradiction fun q => by rw [(feq q).1] at h; cases h
theorem o_eqF {x y : Int32} (h : if_icmp.holds .eq x y = false) : ¬ x = y := fun q => by rw [(teq q).1] at h; cases h
theorem o_neT {x y : Int32} (h : if_icmp.holds .ne x y = true) : ¬ x = y := fun q => by rw [(teq q).2] at h; cases h
theorem o_neF {x y : Int32} (h : if_icmp.holds .ne x y = false) : x = y := Decidable.byContradiction fun q => by rw [(feq q).2] at h; cases h
theorem o_ltT {x y : Int32} (h : if_icmp.holds .lt x y = true) : x < y := Decidable.byContradiction fun q => by rw [(flt q).1] at h; cases h
theorem o_ltF {x y : Int32} (h : if_icmp.holds .lt x y = false) : ¬ x < y := fun q => by rw [(tlt q).1] at h; cases h
theorem o_geT {x y : Int32} (h : if_icmp.holds .ge x y = true) : ¬ x < y := fun q => by rw [(tlt q).2.1] at h; cases h
theorem o_geF {x y : Int32} (h : if_icmp.holds .ge x y = false) : x < y := Decidable.byContradiction fun q => by rw [(flt q).2.1] at h; cases h
theorem o_gtT {x y : Int32} (h : if_icmp.holds .gt x y = true) : y < x := Decidable.byContradiction fun q => by rw [(flt q).2.2.1] at h; cases h
theorem o_gtF {x y : Int32} (h : if_icmp.holds .gt x y = false) : ¬ y < x := fun q => by rw [(tlt q).2.2.1] at h; cases h
theorem o_leT {x y : Int32} (h : if_icmp.holds .le x y = true) : ¬ y < x := fun q => by rw [(tlt q).2.2.2] at h; cases h
theorem o_leF {x y : Int32} (h : if_icmp.holds .le x y = false) : y < x := Decidable.byContradiction fun q => by rw [(flt q).2.2.2] at h; cases h
-- calls, by the callee's contract
theorem gStatic (X : Stand p l e R s m args below meth c T locs cells slots) (hx : p.tables.exec = Jvm.exec) (hZ : Z.Warmed39 s.vm) {own : String} {index : Nat} {y : MethodName} {bytes : ByteArray} {maxL : Nat} {ret : Option FieldType} {rm : Room} {Q' : Option Value → Heap → List Loc → Prop} {argsL rest : List Value} {W : Nat}
    (hown : s.vm.findClass own = some m.cls) (hy : y.cls ≠ "java/lang/invoke/MethodHandle" ∧ y.cls ≠ "java/lang/invoke/VarHandle") (w1 : (Cond.methodLink own index y).before a0 Z = true) (w2 : (Cond.static y).before a0 Z = true) (w3 : (Cond.initialized y.cls).before a0 Z = true) (w4 : (Cond.code y bytes maxL ret).before a0 Z = true)
    (hM : Met l Z y bytes maxL ret [] rm argsL.toArray h Q') (eT : T.heap = h) (hsize : Ls.size = c.maxLocals) (hlen : ∀ sig, parseMethodDescriptor y.desc = some sig → argsL.length = sig.parameters.length) {st : List Value} (hst : st = argsL.reverse ++ rest) (hW : (rest.map fun v => v.category).sum ≤ W)
    (hf : rm.frames + 1 ≤ R.frames) (hl : W + (maxL + 11) + rm.locals ≤ R.locals) (hc : cells + rm.cells ≤ R.cells) (hs : slots + rm.slots ≤ R.slots) (hd : decode c.code pc = .ok (.invokestatic index, 3))
    (kk : ∀ (v : Option Value) (T' : State) (L : List Loc), Stand p l e R s m args below meth c T' (locs ++ L) (cells + rm.cells) (slots + rm.slots) → Q' v T'.heap L → Go p e below s CC SS QQ T' (mkF m (pc + 3) Ls (v.toList ++ rest))) : Go p e below s CC SS QQ T (mkF m pc Ls st) := by
  subst hst
  obtain ⟨v, vm₁, ⟨T', L', k', n'⟩, -, X', ⟨Lc, hQ, l1, y1, z1⟩, st⟩ := Jvm.LawKit.callS X hx (y := y) hown (mvT hZ w1) (mvT hZ w2) (mvT hZ w3) (mvT hZ w4) hy (backOf (W := W) hM hZ w4 w3 hf hl) (g := mkF m pc Ls (argsL.reverse ++ rest)) rfl hsize (argsL := argsL) (rest := rest) hlen rfl (by show 2 * 0 + _ ≤ _; omega) hd (fun _ _ => ⟨rfl, eT, hc, hs⟩)
  dsimp only [Pt.U, Pt.locs, Pt.cells, Pt.slots] at X' l1 y1 z1 st hQ
  subst l1 y1 z1
  exact Go.st st (kk v T' Lc X' hQ)
theorem gInit (X : Stand p l e R s m args below meth c T locs cells slots) (hx : p.tables.exec = Jvm.exec) (hZ : Z.Warmed39 s.vm) {own : String} {index : Nat} {y : MethodName} {bytes : ByteArray} {maxL : Nat} {rm : Room} {Q' : Option Value → Heap → List Loc → Prop} {a : Addr} {argsL rest : List Value} {W : Nat}
    (hown : s.vm.findClass own = some m.cls) (hy1 : y.name = "<init>") (hy : y.cls ≠ "java/lang/invoke/MethodHandle" ∧ y.cls ≠ "java/lang/invoke/VarHandle") (w1 : (Cond.methodLink own index y).before a0 Z = true) (w2 : (Cond.instanceMethod y).before a0 Z = true) (w3 : (Cond.initialized y.cls).before a0 Z = true) (w4 : (Cond.code y bytes maxL none).before a0 Z = true)
    (hM : Met l Z y bytes maxL none [] rm (.ref a :: argsL).toArray h Q') (eT : T.heap = h) (hsize : Ls.size = c.maxLocals) (hlen : ∀ sig, parseMethodDescriptor y.desc = some sig → argsL.length = sig.parameters.length) {st : List Value} (hst : st = argsL.reverse ++ .ref a :: rest) (hW : (rest.map fun v => v.category).sum ≤ W)
    (hf : rm.frames + 1 ≤ R.frames) (hl : W + (maxL + 11) + rm.locals ≤ R.locals) (hc : cells + rm.cells ≤ R.cells) (hs : slots + rm.slots ≤ R.slots) (hd : decode c.code pc = .ok (.invokespecial index, 3))
    (kk : ∀ (v : Option Value) (T' : State) (L : List Loc), Stand p l e R s m args below meth c T' (locs ++ L) (cells + rm.cells) (slots + rm.slots) → Q' v T'.heap L → Go p e below s CC SS QQ T' (mkF m (pc + 3) Ls (v.toList ++ rest))) : Go p e below s CC SS QQ T (mkF m pc Ls st) := by
  subst hst
  obtain ⟨v, vm₁, ⟨T', L', k', n'⟩, -, X', ⟨Lc, hQ, l1, y1, z1⟩, st⟩ := X.specialBack hx (y := y) hy1 hown (mvT hZ w1) (mvT hZ w2) (mvT hZ w4) hy (backOf (W := W) hM hZ w4 w3 hf hl) (g := mkF m pc Ls (argsL.reverse ++ .ref a :: rest)) rfl hsize (Steps.refl _) (a := a) (argsL := argsL) (rest := rest) hlen rfl (by show 2 * 0 + _ ≤ _; omega) hd (fun _ _ => ⟨rfl, eT, hc, hs⟩)
  dsimp only [Pt.U, Pt.locs, Pt.cells, Pt.slots] at X' l1 y1 z1 st hQ
  subst l1 y1 z1
  exact Go.tr st (kk v T' Lc X' hQ)
theorem gVirtual (X : Stand p l e R s m args below meth c T locs cells slots) (hx : p.tables.exec = Jvm.exec) (hZ : Z.Warmed39 s.vm) {own : String} {index : Nat} {y : MethodName} {bytes : ByteArray} {maxL : Nat} {ret : Option FieldType} {rm : Room} {Q' : Option Value → Heap → List Loc → Prop} {a : Addr} {argsL rest : List Value} {W : Nat}
    (hown : s.vm.findClass own = some m.cls) (hy : y.cls ≠ "java/lang/invoke/MethodHandle" ∧ y.cls ≠ "java/lang/invoke/VarHandle") (w1 : (Cond.methodLink own index y).before a0 Z = true) (w2 : (Cond.declares y).before a0 Z = true) (w5 : (Cond.instanceMethod y).before a0 Z = true) (w6 : (Cond.selects y.cls y y).before a0 Z = true) (w3 : (Cond.initialized y.cls).before a0 Z = true) (w4 : (Cond.code y bytes maxL ret).before a0 Z = true)
    (E : Exa Z h a y.cls) (hM : Met l Z y bytes maxL ret [] rm (.ref a :: argsL).toArray h Q') (eT : T.heap = h) (hsize : Ls.size = c.maxLocals) (hlen : ∀ sig, parseMethodDescriptor y.desc = some sig → argsL.length = sig.parameters.length) {st : List Value} (hst : st = argsL.reverse ++ .ref a :: rest) (hW : (rest.map fun v => v.category).sum ≤ W)
    (hf : rm.frames + 1 ≤ R.frames) (hl : W + (maxL + 11) + rm.locals ≤ R.locals) (hc : cells + rm.cells ≤ R.cells) (hs : slots + rm.slots ≤ R.slots) (hd : decode c.code pc = .ok (.invokevirtual index, 3))
    (kk : ∀ (v : Option Value) (T' : State) (L : List Loc), Stand p l e R s m args below meth c T' (locs ++ L) (cells + rm.cells) (slots + rm.slots) → Q' v T'.heap L → Go p e below s CC SS QQ T' (mkF m (pc + 3) Ls (v.toList ++ rest))) : Go p e below s CC SS QQ T (mkF m pc Ls st) := by
  subst hst
  obtain ⟨cq, kq, qa, qb, qc⟩ := isOf hZ eT E
  obtain ⟨v, vm₁, ⟨T', L', k', n'⟩, -, X', ⟨Lc, hQ, l1, y1, z1⟩, st⟩ := X.virtualBack hx (y := y) (z := y) hown (mvT hZ w1) (mvT hZ w2) (notFace_of_selects (args := #[]) (mvT hZ w6)) (mvT hZ w6) (mvT hZ w5) hy (backOf (W := W) hM hZ w4 w3 hf hl) qa qc (g := mkF m pc Ls (argsL.reverse ++ .ref a :: rest)) rfl hsize (Steps.refl _) (argsL := argsL) (rest := rest) hlen rfl (by show 2 * 0 + _ ≤ _; omega) hd (fun _ _ => ⟨rfl, eT, hc, hs⟩)
  dsimp only [Pt.U, Pt.locs, Pt.cells, Pt.slots] at X' l1 y1 z1 st hQ
  subst l1 y1 z1
  exact Go.tr st (kk v T' Lc X' hQ)
theorem gPrivate (X : Stand p l e R s m args below meth c T locs cells slots) (hx : p.tables.exec = Jvm.exec) (hZ : Z.Warmed39 s.vm) {own : String} {index : Nat} {y : MethodName} {bytes : ByteArray} {maxL : Nat} {ret : Option FieldType} {rm : Room} {Q' : Option Value → Heap → List Loc → Prop} {a : Addr} {C : String} {argsL rest : List Value} {W : Nat}
    (hown : s.vm.findClass own = some m.cls) (hy : y.cls ≠ "java/lang/invoke/MethodHandle" ∧ y.cls ≠ "java/lang/invoke/VarHandle") (w1 : (Cond.methodLink own index y).before a0 Z = true) (w2 : (Cond.instanceMethod y).before a0 Z = true) {kq : Nat} (w6 : (Cond.instantiable y.cls kq).before a0 Z = true) (w5 : (Cond.privateMethod y).before a0 Z = true) (w3 : (Cond.initialized y.cls).before a0 Z = true) (w4 : (Cond.code y bytes maxL ret).before a0 Z = true)
    (E : Exa Z h a C) (hM : Met l Z y bytes maxL ret [] rm (.ref a :: argsL).toArray h Q') (eT : T.heap = h) (hsize : Ls.size = c.maxLocals) (hlen : ∀ sig, parseMethodDescriptor y.desc = some sig → argsL.length = sig.parameters.length) {st : List Value} (hst : st = argsL.reverse ++ .ref a :: rest) (hW : (rest.map fun v => v.category).sum ≤ W)
    (hf : rm.frames + 1 ≤ R.frames) (hl : W + (maxL + 11) + rm.locals ≤ R.locals) (hc : cells + rm.cells ≤ R.cells) (hs : slots + rm.slots ≤ R.slots) (hd : decode c.code pc = .ok (.invokevirtual index, 3))
    (kk : ∀ (v : Option Value) (T' : State) (L : List Loc), Stand p l e R s m args below meth c T' (locs ++ L) (cells + rm.cells) (slots + rm.slots) → Q' v T'.heap L → Go p e below s CC SS QQ T' (mkF m (pc + 3) Ls (v.toList ++ rest))) : Go p e below s CC SS QQ T (mkF m pc Ls st) := by
  subst hst
  obtain ⟨cq, q1, q2⟩ := E.cell
  obtain ⟨ci, ki, hi1, hi2, -, hi3, -⟩ := Cond.instantiable_spec (mvT (args := #[]) hZ w6)
  have hsel : (Cond.selects y.cls y y).before args s = true := selects_self_of_private hi1 hi2 (by simpa using (Bool.or_eq_false_iff.mp hi3).1) (Cond.privateMethod_at (mvP hZ w5 (args := #[]))) (mvT hZ w2) hy
  obtain ⟨v, vm₁, ⟨T', L', k', n'⟩, -, X', ⟨Lc, hQ, l1, y1, z1⟩, st⟩ := X.privateBack hx (y := y) hown (mvT hZ w1) (mvT hZ w2) hsel (Cond.privateMethod_at (mvP hZ w5 (args := #[]))) (mvT hZ w4) hy (backOf (W := W) hM hZ w4 w3 hf hl) (g := mkF m pc Ls (argsL.reverse ++ .ref a :: rest)) rfl hsize (Steps.refl _) (a := a) (by rw [eT]; exact q1) q2 (argsL := argsL) (rest := rest) hlen rfl (by show 2 * 0 + _ ≤ _; omega) hd (fun _ _ => ⟨rfl, eT, hc, hs⟩)
  dsimp only [Pt.U, Pt.locs, Pt.cells, Pt.slots] at X' l1 y1 z1 st hQ
  subst l1 y1 z1
  exact Go.tr st (kk v T' Lc X' hQ)
theorem gObjInit (X : Stand p l e R s m args below meth c T locs cells slots) (hx : p.tables.exec = Jvm.exec) (hZ : Z.Warmed39 s.vm) {own : String} {idx : Nat} (hown : s.vm.findClass own = some m.cls) (w1 : (Cond.methodLink own idx Lib.objectInit).before a0 Z = true) (w2 : (Cond.instanceMethod Lib.objectInit).before a0 Z = true)
    (w3 : (Cond.code Lib.objectInit object_method_1_code 1 none).before a0 Z = true) (eT : T.heap = h) (hsize : Ls.size = c.maxLocals) {a : Addr} (hd : decode c.code pc = .ok (.invokespecial idx, 3)) (hf : 1 ≤ R.frames) {W : Nat} (hW : (rest.map fun v => v.category).sum ≤ W) (hl : W + 12 ≤ R.locals)
    (kk : ∀ T', Stand p l e R s m args below meth c T' locs cells slots → T'.heap = h → Go p e below s CC SS QQ T' (mkF m (pc + 3) Ls rest)) : Go p e below s CC SS QQ T (mkF m pc Ls (.ref a :: rest)) := by
  obtain ⟨T', X', e', st⟩ := initO X hx hZ hown w1 w2 w3 eT (g := mkF m pc Ls (.ref a :: rest)) rfl hsize rfl hd hf (W := W) (by show 2 * 0 + _ ≤ _; omega) hl
  exact Go.st st (kk T' X' e')
-- fields, new objects, arrays
theorem gGetF (X : Stand p l e R s m args below meth c T locs cells slots) (hx : p.tables.exec = Jvm.exec) (hZ : Z.Warmed39 s.vm) {own O n d : String} {index : Nat} (hown : s.vm.findClass own = some m.cls) (w : (Cond.fieldLink own index O n d).before a0 Z = true) (eT : T.heap = h) {a : Addr} {v : Value} (F : Fld Z h a O n d v) (hd : decode c.code pc = .ok (.getfield index, 3))
    (kk : ∀ T', Stand p l e R s m args below meth c T' locs cells slots → T'.heap = h → Go p e below s CC SS QQ T' (mkF m (pc + 3) Ls (v :: rest))) : Go p e below s CC SS QQ T (mkF m pc Ls (.ref a :: rest)) := by
  obtain ⟨T', X', e', st⟩ := getF X hx hZ hown (host := "") (Or.inl w) Via.refl eT F (g := mkF m pc Ls (.ref a :: rest)) rfl rfl hd
  exact Go.st st (kk T' X' e')
theorem gPutF (X : Stand p l e R s m args below meth c T locs cells slots) (hx : p.tables.exec = Jvm.exec) (hZ : Z.Warmed39 s.vm) {own O n d C : String} {index kq : Nat} {ty : FieldType} (hown : s.vm.findClass own = some m.cls) (w : (Cond.fieldLink own index O n d).before a0 Z = true) (eT : T.heap = h) {a : Addr} {v old : Value} (F : Fld Z h a O n d old) (E : Exa Z h a C)
    (L : (Cond.lays C O n d).before a0 Z = true ∨ ((Cond.laysFinal C O n d).before a0 Z = true ∧ own = O ∧ meth.name = "<init>")) (wi : (Cond.instantiable C kq).before a0 Z = true) (hty : parseFieldDescriptor d = some ty) (hn : narrow ty v = v) (hf : fits ty v = true) (hd : decode c.code pc = .ok (.putfield index, 3))
    (kk : ∀ T' h', Stand p l e R s m args below meth c T' (locs ++ [⟨a, Jvm.RoadKit.slotOf Z O n d⟩]) cells slots → T'.heap = h' → Wr h h' a (Jvm.RoadKit.slotOf Z O n d) v → Go p e below s CC SS QQ T' (mkF m (pc + 3) Ls rest)) : Go p e below s CC SS QQ T (mkF m pc Ls (v :: .ref a :: rest)) := by
  obtain ⟨T', h', X', e', W', st⟩ := putF X hx hZ hown (host := "") (Or.inl w) Via.refl eT F E L wi hty hn hf (g := mkF m pc Ls (v :: .ref a :: rest)) rfl rfl hd
  exact Go.st st (kk T' h' X' e' W')
theorem gPutFN (X : Stand p l e R s m args below meth c T locs cells slots) (hx : p.tables.exec = Jvm.exec) (hZ : Z.Warmed39 s.vm) {own O n d C : String} {index kq : Nat} {ty : FieldType} (hown : s.vm.findClass own = some m.cls) (w : (Cond.fieldLink own index O n d).before a0 Z = true) (eT : T.heap = h) {a : Addr} {v old : Value} (v' : Value) (F : Fld Z h a O n d old) (E : Exa Z h a C)
    (L : (Cond.lays C O n d).before a0 Z = true ∨ ((Cond.laysFinal C O n d).before a0 Z = true ∧ own = O ∧ meth.name = "<init>")) (wi : (Cond.instantiable C kq).before a0 Z = true) (hty : parseFieldDescriptor d = some ty) (hn : narrow ty v = v') (hf : fits ty v' = true) (hd : decode c.code pc = .ok (.putfield index, 3))
    (kk : ∀ T' h', Stand p l e R s m args below meth c T' (locs ++ [⟨a, Jvm.RoadKit.slotOf Z O n d⟩]) cells slots → T'.heap = h' → Wr h h' a (Jvm.RoadKit.slotOf Z O n d) v' → Go p e below s CC SS QQ T' (mkF m (pc + 3) Ls rest)) : Go p e below s CC SS QQ T (mkF m pc Ls (v :: .ref a :: rest)) := by
  obtain ⟨T', h', X', e', W', st⟩ := putFN X hx hZ hown w Via.refl eT F E L wi hty hn hf (g := mkF m pc Ls (v :: .ref a :: rest)) rfl rfl hd
  exact Go.st st (kk T' h' X' e' W')
theorem gNew (X : Stand p l e R s m args below meth c T locs cells slots) (hx : p.tables.exec = Jvm.exec) (hZ : Z.Warmed39 s.vm) {own C : String} {index n : Nat} (hown : s.vm.findClass own = some m.cls) (w : (Cond.classLink own index C).before a0 Z = true) (wi : (Cond.instantiable C n).before a0 Z = true) (wz : (Cond.initialized C).before a0 Z = true) (eT : T.heap = h)
    (hd : decode c.code pc = .ok (.new index, 3)) (hc : cells + 1 ≤ R.cells) (hl : slots + n ≤ R.slots)
    (kk : ∀ T' h' b, Stand p l e R s m args below meth c T' locs (cells + 1) (slots + n) → T'.heap = h' → Ext h h' → b = h.size → Exa Z h' b C → (∀ {O nm d : String} {ty : FieldType}, Laid Z a0 C O nm d → parseFieldDescriptor d = some ty → Fld Z h' b O nm d (defaultValue ty)) → Go p e below s CC SS QQ T' (mkF m (pc + 3) Ls (.ref b :: rest))) : Go p e below s CC SS QQ T (mkF m pc Ls rest) := by
  obtain ⟨T', h', X', e', E', A', D', -, st⟩ := newO X hx hZ hown w wi wz eT (g := mkF m pc Ls rest) rfl hd hc hl
  exact Go.st st (kk T' h' _ X' e' E' rfl A' D')
theorem gNewArr (X : Stand p l e R s m args below meth c T locs cells slots) (hx : p.tables.exec = Jvm.exec) (hZ : Z.Warmed39 s.vm) {aty : ArrayType} (w : (Cond.arrayClass (newarray.typeOf aty)).before a0 Z = true) (eT : T.heap = h) (hd : decode c.code pc = .ok (.newarray aty, 2)) {n : Int32} (hn : ¬ n < 0) {cap : Nat} (hcap : n.toNatClampNeg ≤ cap) (hb : cap * 8 ≤ 536870912) (hc : cells + 1 ≤ R.cells) (hl : slots + cap ≤ R.slots)
    (kk : ∀ T' h' b cA, Stand p l e R s m args below meth c T' locs (cells + 1) (slots + cap) → T'.heap = h' → Ext h h' → b = h.size → Arr Z h' b (newA cA (newarray.typeOf aty) n) (newarray.typeOf aty) → Go p e below s CC SS QQ T' (mkF m (pc + 2) Ls (.ref b :: rest))) : Go p e below s CC SS QQ T (mkF m pc Ls (.int n :: rest)) := by
  obtain ⟨T', h', cA, X', e', E', A', st⟩ := newP X hx hZ w eT (g := mkF m pc Ls (.int n :: rest)) rfl hd rfl hn (cap := cap) hcap hb hc hl
  exact Go.st st (kk T' h' _ cA X' e' E' rfl A')
/-- an array of ints (or of bytes): n places, the j-th holds f j -/
def IA (Z : State) (h : Heap) (a : Addr) (ty : FieldType) (n : Nat) (f : Nat → Int32) : Prop := ∃ cl : Cell, Arr Z h a cl ty ∧ cl.slots.size = n ∧ ∀ j, j < n → cl.slots[j]? = some (.int (f j))
def upd (f : Nat → Int32) (k : Nat) (v : Int32) : Nat → Int32 := fun j => if j = k then v else f j
theorem IA.lt {a : Addr} {ty : FieldType} {n : Nat} {f : Nat → Int32} (F : IA Z h a ty n f) : a < h.size := by obtain ⟨cl, A, -⟩ := F; exact A.lt
theorem IA.ext {h' : Heap} {a : Addr} {ty : FieldType} {n : Nat} {f : Nat → Int32} (F : IA Z h a ty n f) (E : Ext h h') : IA Z h' a ty n f := by obtain ⟨cl, A, r⟩ := F; exact ⟨cl, A.ext E, r⟩
theorem IA.other {h' : Heap} {a b : Addr} {sl : Nat} {v : Value} {ty : FieldType} {n : Nat} {f : Nat → Int32} (F : IA Z h a ty n f) (W : Wr h h' b sl v) (q : a ≠ b) : IA Z h' a ty n f := by obtain ⟨cl, A, r⟩ := F; exact ⟨cl, A.other W q, r⟩
theorem IA.keep {h' : Heap} {a : Addr} {ws : List Addr} {ty : FieldType} {n : Nat} {f : Nat → Int32} (F : IA Z h a ty n f) (K : Keep h h' ws) (q : a ∉ ws) : IA Z h' a ty n f := by
  obtain ⟨cl, A, r⟩ := F
  exact ⟨cl, ⟨K.2.1 a cl A.1 q, A.2⟩, r⟩
theorem IA.set {h' : Heap} {a : Addr} {k : Nat} {v : Int32} {ty : FieldType} {n : Nat} {f : Nat → Int32} (F : IA Z h a ty n f) (W : Wr h h' a k (.int v)) : IA Z h' a ty n (upd f k v) := by
  obtain ⟨cl, A, hs, hf⟩ := F
  refine ⟨_, A.same W, by rw [sz_set]; exact hs, fun j hj => ?_⟩
  show (cl.slots.setIfInBounds k (.int v))[j]? = _
  rw [Array.getElem?_setIfInBounds]
  by_cases q : k = j
  · subst q
    rw [if_pos rfl, if_pos (by rw [hs]; exact hj)]
    simp [upd]
  · rw [if_neg q, hf j hj]
    show _ = some (Value.int (if j = k then v else f j))
    rw [if_neg fun z => q z.symm]
theorem IA.congr {a : Addr} {ty : FieldType} {n : Nat} {f g : Nat → Int32} (F : IA Z h a ty n f) (q : ∀ j, j < n → f j = g j) : IA Z h a ty n g := by
  obtain ⟨cl, A, hs, hf⟩ := F
  exact ⟨cl, A, hs, fun j hj => by rw [hf j hj, q j hj]⟩
theorem IA.new {a : Addr} {cA : ClassId} {ty : FieldType} {z : Int32} (hty : defaultValue ty = .int 0) (A : Arr Z h a (newA cA ty z) ty) : IA Z h a ty z.toNatClampNeg (fun _ => 0) := by
  refine ⟨_, A, sz_new _ _ _, fun j hj => ?_⟩
  simp [newA, hj, hty]
theorem gIaload (X : Stand p l e R s m args below meth c T locs cells slots) (hx : p.tables.exec = Jvm.exec) (hZ : Z.Warmed39 s.vm) (eT : T.heap = h) {a : Addr} {n : Nat} {f : Nat → Int32} (F : IA Z h a .int n f) {j : Int32} (hj : ¬ j < 0 ∧ j.toNatClampNeg < n) (hd : decode c.code pc = .ok (.iaload, 1))
    (kk : Go p e below s CC SS QQ T (mkF m (pc + 1) Ls (.int (f j.toNatClampNeg) :: rest))) : Go p e below s CC SS QQ T (mkF m pc Ls (.int j :: .ref a :: rest)) := by
  obtain ⟨cl, A, hs, hf⟩ := F
  exact Go.st (X.iaload hx (j := j) (v := .int (f j.toNatClampNeg)) (by rw [eT]; exact A.1) (State.isArrayOf_alike hZ.alike A.2.1) A.2.2 (fun q => q.elim hj.1 fun r => absurd hj.2 (Nat.not_lt.mpr (hs ▸ r))) (hf _ hj.2) (g := mkF m pc Ls (.int j :: .ref a :: rest)) rfl rfl hd) kk
theorem gBaload (X : Stand p l e R s m args below meth c T locs cells slots) (hx : p.tables.exec = Jvm.exec) (hZ : Z.Warmed39 s.vm) (eT : T.heap = h) {a : Addr} {n : Nat} {f : Nat → Int32} (F : IA Z h a .byte n f) {j : Int32} (hj : ¬ j < 0 ∧ j.toNatClampNeg < n) (hd : decode c.code pc = .ok (.baload, 1))
    (kk : Go p e below s CC SS QQ T (mkF m (pc + 1) Ls (.int (f j.toNatClampNeg) :: rest))) : Go p e below s CC SS QQ T (mkF m pc Ls (.int j :: .ref a :: rest)) := by
  obtain ⟨cl, A, hs, hf⟩ := F
  exact Go.st (X.baloadBytes hx (j := j) (v := .int (f j.toNatClampNeg)) (by rw [eT]; exact A.1) (State.isArrayOf_alike hZ.alike A.2.1) A.2.2 (fun q => q.elim hj.1 fun r => absurd hj.2 (Nat.not_lt.mpr (hs ▸ r))) (hf _ hj.2) (g := mkF m pc Ls (.int j :: .ref a :: rest)) rfl rfl hd) kk
theorem gIastore (X : Stand p l e R s m args below meth c T locs cells slots) (hx : p.tables.exec = Jvm.exec) (hZ : Z.Warmed39 s.vm) (eT : T.heap = h) {a : Addr} {n : Nat} {f : Nat → Int32} (F : IA Z h a .int n f) {j x : Int32} (k : Nat) (hk : j.toNatClampNeg = k) (hj : ¬ j < 0 ∧ k < n) (hd : decode c.code pc = .ok (.iastore, 1))
    (kk : ∀ T' h', Stand p l e R s m args below meth c T' (locs ++ [⟨a, k⟩]) cells slots → T'.heap = h' → Wr h h' a k (.int x) → IA Z h' a .int n (upd f k x) → Go p e below s CC SS QQ T' (mkF m (pc + 1) Ls rest)) : Go p e below s CC SS QQ T (mkF m pc Ls (.int x :: .int j :: .ref a :: rest)) := by
  subst hk
  obtain ⟨cl, A, hs, hf⟩ := id F
  obtain ⟨T', h', X', e', W', st⟩ := stI X hx hZ eT A (j := j) (x := x) (fun q => q.elim hj.1 fun r => absurd hj.2 (Nat.not_lt.mpr (hs ▸ r))) (g := mkF m pc Ls (.int x :: .int j :: .ref a :: rest)) rfl rfl hd
  exact Go.st st (kk T' h' X' e' W' (F.set W'))
theorem gBastore (X : Stand p l e R s m args below meth c T locs cells slots) (hx : p.tables.exec = Jvm.exec) (hZ : Z.Warmed39 s.vm) (eT : T.heap = h) {a : Addr} {n : Nat} {f : Nat → Int32} (F : IA Z h a .byte n f) {j x : Int32} (k : Nat) (hk : j.toNatClampNeg = k) (hj : ¬ j < 0 ∧ k < n) (hd : decode c.code pc = .ok (.bastore, 1))
    (kk : ∀ T' h', Stand p l e R s m args below meth c T' (locs ++ [⟨a, k⟩]) cells slots → T'.heap = h' → Wr h h' a k (.int (nar .byte x)) → IA Z h' a .byte n (upd f k (nar .byte x)) → Go p e below s CC SS QQ T' (mkF m (pc + 1) Ls rest)) : Go p e below s CC SS QQ T (mkF m pc Ls (.int x :: .int j :: .ref a :: rest)) := by
  subst hk
  obtain ⟨cl, A, hs, hf⟩ := id F
  obtain ⟨T', h', X', e', W', st⟩ := stB X hx hZ eT A (j := j) (x := x) (fun q => q.elim hj.1 fun r => absurd hj.2 (Nat.not_lt.mpr (hs ▸ r))) (g := mkF m pc Ls (.int x :: .int j :: .ref a :: rest)) rfl rfl hd
  exact Go.st st (kk T' h' X' e' W' (F.set W'))
theorem gLength (X : Stand p l e R s m args below meth c T locs cells slots) (hx : p.tables.exec = Jvm.exec) (hZ : Z.Warmed39 s.vm) (eT : T.heap = h) {a : Addr} {ty : FieldType} {n : Nat} {f : Nat → Int32} (F : IA Z h a ty n f) (hd : decode c.code pc = .ok (.arraylength, 1))
    (kk : Go p e below s CC SS QQ T (mkF m (pc + 1) Ls (.int n.toInt32 :: rest))) : Go p e below s CC SS QQ T (mkF m pc Ls (.ref a :: rest)) := by
  obtain ⟨cl, A, hs, hf⟩ := F
  subst hs
  exact Go.st (X.arraylength hx (by rw [eT]; exact A.1) (State.isArrayOf_alike hZ.alike A.2.1) (g := mkF m pc Ls (.ref a :: rest)) rfl rfl hd) kk
theorem own_nb (x : Int32) : nar .byte x.toInt8.toInt32 = x.toInt8.toInt32 := by simp [nar]
theorem own_nz {b : Int32} (h : b = 0 ∨ b = 1) : narrow .boolean (.int b) = .int b := by rcases h with rfl | rfl <;> rfl
theorem own_fz {b : Int32} (h : b = 0 ∨ b = 1) : fits .boolean (.int b) = true := by rcases h with rfl | rfl <;> rfl
end OwnKit
theorem tw {a0 : Array Value} {Z : State} (hw : ∀ d ∈ tables_1, d.before a0 Z = true) (k : Nat) {d : Jvm.Cond} (h : tables_1[k]? = some d) : d.before a0 Z = true := hw _ (List.mem_of_getElem? h)
section OwnMore
variable {p : Program} {l : Launch} {e : Env} {R : Room} {s : State} {m : MethodId} {args : Array Value} {below : List Frame} {meth : Method} {c : Code} {T T' : State} {locs : List Loc} {cells slots : Nat} {Z : State} {a0 : Array Value} {h : Heap} {CC SS : Nat} {QQ : Option Value → Heap → List Loc → Prop} {pc : Nat} {Ls : Array Slot} {rest : List Value}
theorem gGetS (X : Stand p l e R s m args below meth c T locs cells slots) (hx : p.tables.exec = Jvm.exec) (hZ : Z.Warmed39 s.vm) {own O n d : String} {index : Nat} (hown : s.vm.findClass own = some m.cls) (w : (Cond.fieldLink own index O n d).before a0 Z = true) (eT : T.heap = h) {v : Value} (F : Sta Z h O n d v) (hd : decode c.code pc = .ok (.getstatic index, 3))
    (kk : ∀ T', Stand p l e R s m args below meth c T' locs cells slots → T'.heap = h → Go p e below s CC SS QQ T' (mkF m (pc + 3) Ls (v :: rest))) : Go p e below s CC SS QQ T (mkF m pc Ls rest) := by
  obtain ⟨T', X', e', st⟩ := getS2 X hx hZ hown (host := "") (Or.inl w) Via.refl eT F (g := mkF m pc Ls rest) rfl hd
  exact Go.st st (kk T' X' e')
theorem gNewArrA (X : Stand p l e R s m args below meth c T locs cells slots) (hx : p.tables.exec = Jvm.exec) (hZ : Z.Warmed39 s.vm) {own C : String} {ty : FieldType} {index : Nat} (hown : s.vm.findClass own = some m.cls) (hC : (FieldType.array ty).toString = C) (w1 : (Cond.classLink own index C).before a0 Z = true) (w2 : (Cond.arrayOver (.array ty)).before a0 Z = true)
    (eT : T.heap = h) (hd : decode c.code pc = .ok (.anewarray index, 3)) {n : Int32} (hn : ¬ n < 0) {cap : Nat} (hcap : n.toNatClampNeg ≤ cap) (hb : cap * 8 ≤ 536870912) (hc : cells + 1 ≤ R.cells) (hl : slots + cap ≤ R.slots) {ad : String} (had : "[" ++ C = ad)
    (kk : ∀ T' h' b, Stand p l e R s m args below meth c T' locs (cells + 1) (slots + cap) → T'.heap = h' → Ext h h' → b = h.size → Go p e below s CC SS QQ T' (mkF m (pc + 3) Ls (.ref b :: rest))) : Go p e below s CC SS QQ T (mkF m pc Ls (.int n :: rest)) := by
  obtain ⟨T', h', cA, X', e', E', -, -, -, st⟩ := newRA X hx hZ hown hC w1 w2 eT (g := mkF m pc Ls (.int n :: rest)) rfl hd rfl hn (cap := cap) hcap hb hc hl had
  exact Go.st st (kk T' h' _ X' e' E' rfl)
theorem gInstNull (X : Stand p l e R s m args below meth c T locs cells slots) (hx : p.tables.exec = Jvm.exec) {index : Nat} (hd : decode c.code pc = .ok (.instanceof index, 3))
    (kk : Go p e below s CC SS QQ T (mkF m (pc + 3) Ls (.int 0 :: rest))) : Go p e below s CC SS QQ T (mkF m pc Ls (.null :: rest)) := Go.st (X.instanceofNull hx (g := mkF m pc Ls (.null :: rest)) rfl rfl hd) kk
theorem gInstY (X : Stand p l e R s m args below meth c T locs cells slots) (hx : p.tables.exec = Jvm.exec) (hZ : Z.Warmed39 s.vm) {own K : String} {index : Nat} (hown : s.vm.findClass own = some m.cls) (w : (Cond.classLink own index K).before a0 Z = true) (eT : T.heap = h) {a : Addr} (F : Ins Z h a K true) (hd : decode c.code pc = .ok (.instanceof index, 3))
    (kk : ∀ T', Stand p l e R s m args below meth c T' locs cells slots → T'.heap = h → Go p e below s CC SS QQ T' (mkF m (pc + 3) Ls (.int 1 :: rest))) : Go p e below s CC SS QQ T (mkF m pc Ls (.ref a :: rest)) := by
  obtain ⟨T', X', e', st⟩ := instY X hx hZ hown w eT F (g := mkF m pc Ls (.ref a :: rest)) rfl rfl hd
  exact Go.st st (kk T' X' e')
theorem gInstNo (X : Stand p l e R s m args below meth c T locs cells slots) (hx : p.tables.exec = Jvm.exec) (hZ : Z.Warmed39 s.vm) {own K C : String} {index : Nat} (hown : s.vm.findClass own = some m.cls) (w : (Cond.classLink own index K).before a0 Z = true) (eT : T.heap = h) {a : Addr} (E : Exa Z h a C) (F : ∃ c t, Z.vm.findClass C = some c ∧ Z.vm.findClass K = some t ∧ Z.vm.assignable c t = false) (hd : decode c.code pc = .ok (.instanceof index, 3))
    (kk : ∀ T', Stand p l e R s m args below meth c T' locs cells slots → T'.heap = h → Go p e below s CC SS QQ T' (mkF m (pc + 3) Ls (.int 0 :: rest))) : Go p e below s CC SS QQ T (mkF m pc Ls (.ref a :: rest)) := by
  obtain ⟨T', X', e', st⟩ := instNo X hx hZ hown w eT E F (g := mkF m pc Ls (.ref a :: rest)) rfl rfl hd
  exact Go.st st (kk T' X' e')
theorem gCast (X : Stand p l e R s m args below meth c T locs cells slots) (hx : p.tables.exec = Jvm.exec) (hZ : Z.Warmed39 s.vm) {own K : String} {index : Nat} (hown : s.vm.findClass own = some m.cls) (w : (Cond.classLink own index K).before a0 Z = true) (eT : T.heap = h) {a : Addr} (F : Ins Z h a K true) (hd : decode c.code pc = .ok (.checkcast index, 3))
    (kk : ∀ T', Stand p l e R s m args below meth c T' locs cells slots → T'.heap = h → Go p e below s CC SS QQ T' (mkF m (pc + 3) Ls (.ref a :: rest))) : Go p e below s CC SS QQ T (mkF m pc Ls (.ref a :: rest)) := by
  obtain ⟨T', X', e', st⟩ := castY X hx hZ hown w eT F (g := mkF m pc Ls (.ref a :: rest)) rfl rfl hd
  exact Go.st st (kk T' X' e')
theorem gAcmpNe (X : Stand p l e R s m args below meth c T locs cells slots) (hx : p.tables.exec = Jvm.exec) {a b : Addr} {o : Int} (pc' : Nat) (hd : decode c.code pc = .ok (.if_acmp .ne o, 3)) (ho : 0 ≤ (pc : Int) + o) (hp : ((pc : Int) + o).toNat = pc')
    (ke : a = b → Go p e below s CC SS QQ T (mkF m (pc + 3) Ls rest)) (kn : ¬ a = b → Go p e below s CC SS QQ T (mkF m pc' Ls rest)) : Go p e below s CC SS QQ T (mkF m pc Ls (.ref b :: .ref a :: rest)) := by
  by_cases q : a = b
  · exact Go.st (fun _ => Jvm.RoadKit.acmp X hx rfl (x := .ref a) (y := .ref b) rfl rfl (pc0 := pc) (pc' := pc + 3) (same := true) rfl hd rfl (decide_eq_true (congrArg Value.ref q)) ho (by simp [acV])) (ke q)
  · exact Go.st (fun _ => Jvm.RoadKit.acmp X hx rfl (x := .ref a) (y := .ref b) rfl rfl (pc0 := pc) (pc' := pc') (same := false) rfl hd rfl (decide_eq_false fun z => q (Value.ref.inj z)) ho (by simp [acV, hp])) (kn q)
theorem gBox (X : Stand p l e R s m args below meth c T locs cells slots) (hx : p.tables.exec = Jvm.exec) (hZ : Z.Warmed39 s.vm) (eT : T.heap = h) {a : Addr} {cl : Cell} {K d : String} {z : Int32} {val : Int32 → Value} (F : Bxs Z a cl K d z val) (E : Ext Z.heap h) {j : Int32} (hj : ¬ j < 0 ∧ j.toNatClampNeg < z.toNatClampNeg) (hd : decode c.code pc = .ok (.aaload, 1))
    (kk : ∀ b, Exa Z h b K → Go p e below s CC SS QQ T (mkF m (pc + 1) Ls (.ref b :: rest))) : Go p e below s CC SS QQ T (mkF m pc Ls (.int j :: .ref a :: rest)) := by
  obtain ⟨A, hs, hz, hf⟩ := F
  have hin : ¬ (j < 0 ∨ cl.slots.size ≤ j.toNatClampNeg) := fun q => q.elim hj.1 fun r => absurd hj.2 (Nat.not_lt.mpr (hs ▸ r))
  obtain ⟨b, hb, Eb, -⟩ := hf j hin
  exact Go.st (X.aaload hx (j := j) (v := .ref b) (by rw [eT]; exact (A.ext E).1) (State.isArrayOf_alike hZ.alike A.2.1) rfl A.2.2 hin hb (g := mkF m pc Ls (.int j :: .ref a :: rest)) rfl rfl hd) (kk b (Eb.ext E))
theorem own_keepAny {h' : Heap} {a : Addr} {ws : List Addr} {C n d : String} {v : Value} (F : Fld Z h a C n d v) (K : Keep h h' ws) : ∃ w, Fld Z h' a C n d w := by
  obtain ⟨cell, cf, k, i, f, h1, h2, h3, h4, h5, h6, h7⟩ := F
  obtain ⟨c', q1, q2, q3, q4⟩ := K.2.2 a cell h1
  have hi : f.slot < c'.slots.size := by rw [q4]; exact (Array.getElem?_eq_some_iff.mp h7).1
  exact ⟨c'.slots[f.slot], c', cf, k, i, f, q1, h2, h3, by rw [q3]; exact h4, by rw [q3]; exact h5, by rw [q2]; exact h6, Array.getElem?_eq_getElem hi⟩
theorem own_no {C S O K : String} {n : Nat} (w1 : (Cond.superclass C S).before a0 Z = true) (w2 : (Cond.superclass S O).before a0 Z = true) (w3 : (Cond.noSuperclass O).before a0 Z = true) (wk : (Cond.instantiable K n).before a0 Z = true) (n1 : C ≠ K) (n2 : S ≠ K) (n3 : O ≠ K) : ∃ c t, Z.vm.findClass C = some c ∧ Z.vm.findClass K = some t ∧ Z.vm.assignable c t = false := by
  obtain ⟨t, kt, t1, t2, t3, t4, -⟩ := Cond.instantiable_spec wk
  have t5 : kt.isInterface = false := by cases z : kt.isInterface <;> simp_all
  obtain ⟨o, ko, o1, o2, o3, -, -⟩ := Cond.noSuperclass_spec w3
  obtain ⟨c, c0⟩ := found_sup w1
  obtain ⟨b, b0⟩ := found_sup w2
  obtain ⟨q1, kc, -, c1, c2, -, c4, c5, -⟩ := Cond.superclass_spec c0 w1
  obtain ⟨q2, kb, -, b1, b2, -, b4, b5, -⟩ := Cond.superclass_spec b0 w2
  cases b0.symm.trans c1
  cases o1.symm.trans b1
  have e1 := ids_ne c0 t1 n1
  have e2 := ids_ne b0 t1 n2
  have e3 := ids_ne o1 t1 n3
  have so : ∀ fuel, Z.vm.isSubclassAux fuel o t = false := fun fuel => by
    cases fuel with
    | zero => rfl
    | succ f => simp [Vm.isSubclassAux, e3, o2, o3]
  have sb : ∀ fuel, Z.vm.isSubclassAux fuel b t = false := fun fuel => by
    cases fuel with
    | zero => rfl
    | succ f => simp [Vm.isSubclassAux, e2, b2, b4, so]
  have sc : ∀ fuel, Z.vm.isSubclassAux fuel c t = false := fun fuel => by
    cases fuel with
    | zero => rfl
    | succ f => simp [Vm.isSubclassAux, e1, c2, c4, sb]
  refine ⟨c, t, c0, t1, ?_⟩
  show Z.vm.assignableAux (255 + 1) c t = false
  simp [Vm.assignableAux, e1, c2, t2, c5, t3, t5, Vm.isSubclass, sc]
end OwnMore
theorem own_box {x : Int32} (h1 : ¬ x < (-128 : Int32)) (h2 : ¬ (127 : Int32) < x) : ¬ (x + (128 : Int32)) < 0 ∧ (x + (128 : Int32)).toNatClampNeg < (256 : Int32).toNatClampNeg := by
  have h := c_iadd x 128
  have r := rng32 x
  have r2 := rng32 (x + 128)
  rw [Int32.lt_iff_toInt_lt, show (-128 : Int32).toInt = -128 from rfl] at h1
  rw [Int32.lt_iff_toInt_lt, show (127 : Int32).toInt = 127 from rfl] at h2
  rw [show (128 : Int32).toInt = 128 from rfl] at h
  rw [Int32.lt_iff_toInt_lt, show (0 : Int32).toInt = 0 from rfl, Int32.toNatClampNeg, show (256 : Int32).toNatClampNeg = 256 from rfl]
  omega
theorem d0_0 : decode jdk_22_method_1_code 0 = .ok (.aload_n 0, 1) := by decide +kernel
theorem d0_1 : decode jdk_22_method_1_code 1 = .ok (.invokespecial 1, 3) := by decide +kernel
theorem d0_4 : decode jdk_22_method_1_code 4 = .ok (.return_, 1) := by decide +kernel
theorem own_pn0 : plainFor (⟨"java/util/AbstractCollection", "<init>", "()V"⟩ : MethodName) = true := plainFor_of_name (by first | (simp [plainName, overriddenIn]; done) | decide +kernel)
theorem own_ef0 (r0 : Addr) (m : MethodId) : entryFrame m #[(.ref r0)] 1 = mkF m 0 #[.val (.ref r0)] [] := by first | (simp [entryFrame, mkF, argsToLocals, Value.category]; done) | rfl
theorem own_pd0 : parseMethodDescriptor "()V" = some ⟨[], none⟩ := by decide +kernel
set_option maxRecDepth 65536 in
set_option maxHeartbeats 40000000 in
theorem own_rm0 (l : Launch) (Z : State) (a0 : Array Value) (hw : ∀ d ∈ tables_1, d.before a0 Z = true) (r0 : Addr) (h0 : Heap) (n0 : Nat) (Z0 : n0 ≤ h0.size) (O0 : Old Z n0 h0) (E0 : Exa Z h0 r0 "java/util/ArrayList") (g0 : n0 ≤ r0) (u0 : Value) (F0 : Fld Z h0 r0 "java/util/AbstractList" "modCount" "I" u0) (u1 : Value) (F1 : Fld Z h0 r0 "java/util/ArrayList" "elementData" "[Ljava/lang/Object;" u1)  :
    Met l Z (⟨"java/util/AbstractCollection", "<init>", "()V"⟩ : MethodName) jdk_22_method_1_code 1 none [] ({ frames := 1, cells := 0, slots := 0, locals := 12 } : Room) #[(.ref r0)] h0 (fun v h L => v = none ∧ Fr n0 L ∧ Keep h0 h [r0]) := by
  refine met_of (Ls := #[.val (.ref r0)]) own_pn0 (own_ef0 r0) ?_
  intro p e s m below meth c s₁ hx hby hml hown hnm hret hlk hZ X0 e0
  have N0 := Fr.nil n0
  refine gAloadN X0 hx (hb hby d0_0) rfl rfl ?_
  refine gObjInit X0 hx hZ hown (tw hw 34 rfl) (tw hw 7 rfl) (tw hw 8 rfl) e0 (by rw [hml]; rfl) (hb hby d0_1) (by decide) (W := 0) (Nat.le_of_eq rfl) (by decide) ?_
  intro T1 X1 e1
  show Go _ _ _ _ _ _ _ T1 (mkF m 4 #[.val (.ref r0)] [])
  exact gRetV X1 hx hlk hret (hb hby d0_4) (by decide) (by decide) ⟨rfl, N0, by rw [e1]; exact (Keep.refl h0 [r0])⟩
theorem d1_0 : decode jdk_39_method_1_code 0 = .ok (.aload_n 0, 1) := by decide +kernel
theorem d1_1 : decode jdk_39_method_1_code 1 = .ok (.invokespecial 1, 3) := by decide +kernel
theorem d1_4 : decode jdk_39_method_1_code 4 = .ok (.aload_n 0, 1) := by decide +kernel
theorem d1_5 : decode jdk_39_method_1_code 5 = .ok (.iconst 0, 1) := by decide +kernel
theorem d1_6 : decode jdk_39_method_1_code 6 = .ok (.putfield 7, 3) := by decide +kernel
theorem d1_9 : decode jdk_39_method_1_code 9 = .ok (.return_, 1) := by decide +kernel
theorem own_pn1 : plainFor (⟨"java/util/AbstractList", "<init>", "()V"⟩ : MethodName) = true := plainFor_of_name (by first | (simp [plainName, overriddenIn]; done) | decide +kernel)
theorem own_ef1 (r0 : Addr) (m : MethodId) : entryFrame m #[(.ref r0)] 1 = mkF m 0 #[.val (.ref r0)] [] := by first | (simp [entryFrame, mkF, argsToLocals, Value.category]; done) | rfl
set_option maxRecDepth 65536 in
set_option maxHeartbeats 40000000 in
theorem own_rm1 (l : Launch) (Z : State) (a0 : Array Value) (hw : ∀ d ∈ tables_1, d.before a0 Z = true) (r0 : Addr) (h0 : Heap) (n0 : Nat) (Z0 : n0 ≤ h0.size) (O0 : Old Z n0 h0) (E0 : Exa Z h0 r0 "java/util/ArrayList") (g0 : n0 ≤ r0) (u0 : Value) (F0 : Fld Z h0 r0 "java/util/AbstractList" "modCount" "I" u0) (u1 : Value) (F1 : Fld Z h0 r0 "java/util/ArrayList" "elementData" "[Ljava/lang/Object;" u1)  :
    Met l Z (⟨"java/util/AbstractList", "<init>", "()V"⟩ : MethodName) jdk_39_method_1_code 1 none [] ({ frames := 2, cells := 0, slots := 0, locals := 24 } : Room) #[(.ref r0)] h0 (fun v h L => v = none ∧ Fr n0 L ∧ Keep h0 h [r0]) := by
  refine met_of (Ls := #[.val (.ref r0)]) own_pn1 (own_ef1 r0) ?_
  intro p e s m below meth c s₁ hx hby hml hown hnm hret hlk hZ X0 e0
  have N0 := Fr.nil n0
  refine gAloadN X0 hx (hb hby d1_0) rfl rfl ?_
  refine gInit X0 hx hZ (y := (⟨"java/util/AbstractCollection", "<init>", "()V"⟩ : MethodName)) (a := r0) hown rfl (by decide) (tw hw 28 rfl) (tw hw 29 rfl) (tw hw 32 rfl) (tw hw 33 rfl) (own_rm0 l Z a0 hw r0 h0 n0 Z0 O0 E0 g0 _ F0 _ F1) e0 (by rw [hml]; rfl) (argsL := []) (rest := []) (W := 0) (lenOf own_pd0 rfl) rfl (Nat.le_of_eq rfl) (by decide) (by decide) (by decide) (by decide) (hb hby d1_1) ?_
  rintro _ T1 L1 X1 ⟨rfl, Nq1, Kq1⟩
  have N_1 := Fr.app N0 Nq1
  have E0__1 := E0.keep Kq1
  obtain ⟨u1_F0__1, F0__1⟩ := own_keepAny F0 Kq1
  obtain ⟨u1_F1__1, F1__1⟩ := own_keepAny F1 Kq1
  have Z_1 := Nat.le_trans Z0 Kq1.1
  have O_1 := O0.keep Kq1 (allS g0 all0)
  have K_1 : Keep h0 T1.heap [r0] := (Keep.refl h0 [r0]).trans Kq1 (allS (Or.inl (List.mem_of_getElem? (i := 0) rfl)) all0)
  show Go _ _ _ _ _ _ _ T1 (mkF m 4 #[.val (.ref r0)] [])
  refine gAloadN X1 hx (hb hby d1_4) rfl rfl ?_
  refine gIconst X1 hx (0 : Int32) (hb hby d1_5) rfl ?_
  refine gPutF X1 hx hZ hown (tw hw 35 rfl) rfl F0__1 E0__1 (Or.inl (tw hw 36 rfl)) (tw hw 17 rfl) (ty := .int) (by decide) rfl rfl (hb hby d1_6) ?_
  intro T2 h2 X2 e2 W2
  have F0__2 := F0__1.same W2
  have E0__2 := E0__1.wr W2
  have F1__2 := F1__1.other W2 (Or.inr (slot_ne (Or.inl (tw hw 39 rfl)) (Or.inl (tw hw 36 rfl)) (by decide) (t := (.array (.object "java/lang/Object"))) (t' := .int) (by decide) (by decide)))
  have Z_2 := Nat.le_trans Z_1 (Nat.le_of_eq W2.size.symm)
  have O_2 := O_1.wr W2 g0
  have K_2 : Keep h0 h2 [r0] := K_1.wr W2 (Or.inl (List.mem_of_getElem? (i := 0) rfl))
  have N_2 := Fr.snoc X2 N_1 g0
  show Go _ _ _ _ _ _ _ T2 (mkF m 9 #[.val (.ref r0)] [])
  subst e2
  exact gRetV X2 hx hlk hret (hb hby d1_9) (by decide) (by decide) ⟨rfl, N_2, K_2⟩
theorem d2_0 : decode jdk_38_method_2_code 0 = .ok (.aload_n 0, 1) := by decide +kernel
theorem d2_1 : decode jdk_38_method_2_code 1 = .ok (.invokespecial 1, 3) := by decide +kernel
theorem d2_4 : decode jdk_38_method_2_code 4 = .ok (.aload_n 0, 1) := by decide +kernel
theorem d2_5 : decode jdk_38_method_2_code 5 = .ok (.getstatic 39, 3) := by decide +kernel
theorem d2_8 : decode jdk_38_method_2_code 8 = .ok (.putfield 9, 3) := by decide +kernel
theorem d2_11 : decode jdk_38_method_2_code 11 = .ok (.return_, 1) := by decide +kernel
theorem own_pn2 : plainFor (⟨"java/util/ArrayList", "<init>", "()V"⟩ : MethodName) = true := plainFor_of_name (by first | (simp [plainName, overriddenIn]; done) | decide +kernel)
theorem own_ef2 (r0 : Addr) (m : MethodId) : entryFrame m #[(.ref r0)] 1 = mkF m 0 #[.val (.ref r0)] [] := by first | (simp [entryFrame, mkF, argsToLocals, Value.category]; done) | rfl
set_option maxRecDepth 65536 in
set_option maxHeartbeats 40000000 in
theorem own_rm2 (l : Launch) (Z : State) (a0 : Array Value) (hw : ∀ d ∈ tables_1, d.before a0 Z = true) (r0 : Addr) (h0 : Heap) (n0 : Nat) (Z0 : n0 ≤ h0.size) (O0 : Old Z n0 h0) (dd : Addr) (S0 : Sta Z Z.heap "java/util/ArrayList" "DEFAULTCAPACITY_EMPTY_ELEMENTDATA" "[Ljava/lang/Object;" (.ref dd)) (E0 : Exa Z h0 r0 "java/util/ArrayList") (g0 : n0 ≤ r0) (u0 : Value) (F0 : Fld Z h0 r0 "java/util/AbstractList" "modCount" "I" u0) (u1 : Value) (F1 : Fld Z h0 r0 "java/util/ArrayList" "elementData" "[Ljava/lang/Object;" u1)  :
    Met l Z (⟨"java/util/ArrayList", "<init>", "()V"⟩ : MethodName) jdk_38_method_2_code 1 none [] ({ frames := 3, cells := 0, slots := 0, locals := 36 } : Room) #[(.ref r0)] h0 (fun v h L => v = none ∧ Fr n0 L ∧ Keep h0 h [r0]) := by
  refine met_of (Ls := #[.val (.ref r0)]) own_pn2 (own_ef2 r0) ?_
  intro p e s m below meth c s₁ hx hby hml hown hnm hret hlk hZ X0 e0
  have N0 := Fr.nil n0
  refine gAloadN X0 hx (hb hby d2_0) rfl rfl ?_
  refine gInit X0 hx hZ (y := (⟨"java/util/AbstractList", "<init>", "()V"⟩ : MethodName)) (a := r0) hown rfl (by decide) (tw hw 22 rfl) (tw hw 23 rfl) (tw hw 26 rfl) (tw hw 27 rfl) (own_rm1 l Z a0 hw r0 h0 n0 Z0 O0 E0 g0 _ F0 _ F1) e0 (by rw [hml]; rfl) (argsL := []) (rest := []) (W := 0) (lenOf own_pd0 rfl) rfl (Nat.le_of_eq rfl) (by decide) (by decide) (by decide) (by decide) (hb hby d2_1) ?_
  rintro _ T1 L1 X1 ⟨rfl, Nq1, Kq1⟩
  have N_1 := Fr.app N0 Nq1
  have E0__1 := E0.keep Kq1
  obtain ⟨u1_F0__1, F0__1⟩ := own_keepAny F0 Kq1
  obtain ⟨u1_F1__1, F1__1⟩ := own_keepAny F1 Kq1
  have Z_1 := Nat.le_trans Z0 Kq1.1
  have O_1 := O0.keep Kq1 (allS g0 all0)
  have K_1 : Keep h0 T1.heap [r0] := (Keep.refl h0 [r0]).trans Kq1 (allS (Or.inl (List.mem_of_getElem? (i := 0) rfl)) all0)
  show Go _ _ _ _ _ _ _ T1 (mkF m 4 #[.val (.ref r0)] [])
  refine gAloadN X1 hx (hb hby d2_4) rfl rfl ?_
  refine gGetS X1 hx hZ hown (tw hw 37 rfl) rfl (S0.ext O_1.2) (hb hby d2_5) ?_
  intro T2 X2 e2
  show Go _ _ _ _ _ _ _ T2 (mkF m 8 #[.val (.ref r0)] [(.ref dd), (.ref r0)])
  refine gPutF X2 hx hZ hown (tw hw 38 rfl) e2 F1__1 E0__1 (Or.inl (tw hw 39 rfl)) (tw hw 17 rfl) (ty := (.array (.object "java/lang/Object"))) (by decide) rfl rfl (hb hby d2_8) ?_
  intro T3 h3 X3 e3 W3
  have F1__3 := F1__1.same W3
  have E0__3 := E0__1.wr W3
  have F0__3 := F0__1.other W3 (Or.inr (slot_ne (Or.inl (tw hw 36 rfl)) (Or.inl (tw hw 39 rfl)) (by decide) (t := .int) (t' := (.array (.object "java/lang/Object"))) (by decide) (by decide)))
  have Z_3 := Nat.le_trans Z_1 (Nat.le_of_eq W3.size.symm)
  have O_3 := O_1.wr W3 g0
  have K_3 : Keep h0 h3 [r0] := K_1.wr W3 (Or.inl (List.mem_of_getElem? (i := 0) rfl))
  have N_3 := Fr.snoc X3 N_1 g0
  show Go _ _ _ _ _ _ _ T3 (mkF m 11 #[.val (.ref r0)] [])
  subst e3
  exact gRetV X3 hx hlk hret (hb hby d2_11) (by decide) (by decide) ⟨rfl, N_3, K_3⟩
theorem d3_0 : decode prog_103_method_1_code 0 = .ok (.aload_n 0, 1) := by decide +kernel
theorem d3_1 : decode prog_103_method_1_code 1 = .ok (.invokespecial 5, 3) := by decide +kernel
theorem d3_4 : decode prog_103_method_1_code 4 = .ok (.aload_n 0, 1) := by decide +kernel
theorem d3_5 : decode prog_103_method_1_code 5 = .ok (.new 11, 3) := by decide +kernel
theorem d3_8 : decode prog_103_method_1_code 8 = .ok (.dup, 1) := by decide +kernel
theorem d3_9 : decode prog_103_method_1_code 9 = .ok (.invokespecial 13, 3) := by decide +kernel
theorem d3_12 : decode prog_103_method_1_code 12 = .ok (.putfield 14, 3) := by decide +kernel
theorem d3_15 : decode prog_103_method_1_code 15 = .ok (.aload_n 0, 1) := by decide +kernel
theorem d3_16 : decode prog_103_method_1_code 16 = .ok (.new 11, 3) := by decide +kernel
theorem d3_19 : decode prog_103_method_1_code 19 = .ok (.dup, 1) := by decide +kernel
theorem d3_20 : decode prog_103_method_1_code 20 = .ok (.invokespecial 13, 3) := by decide +kernel
theorem d3_23 : decode prog_103_method_1_code 23 = .ok (.putfield 18, 3) := by decide +kernel
theorem d3_26 : decode prog_103_method_1_code 26 = .ok (.aload_n 0, 1) := by decide +kernel
theorem d3_27 : decode prog_103_method_1_code 27 = .ok (.sipush 1024, 3) := by decide +kernel
theorem d3_30 : decode prog_103_method_1_code 30 = .ok (.newarray .int, 2) := by decide +kernel
theorem d3_32 : decode prog_103_method_1_code 32 = .ok (.putfield 21, 3) := by decide +kernel
theorem d3_35 : decode prog_103_method_1_code 35 = .ok (.return_, 1) := by decide +kernel
theorem own_pn3 : plainFor (⟨"com/example/renkei/renkei/reader/TextStore", "<init>", "()V"⟩ : MethodName) = true := plainFor_of_name (by first | (simp [plainName, overriddenIn]; done) | decide +kernel)
theorem own_ef3 (r0 : Addr) (m : MethodId) : entryFrame m #[(.ref r0)] 1 = mkF m 0 #[.val (.ref r0)] [] := by first | (simp [entryFrame, mkF, argsToLocals, Value.category]; done) | rfl
set_option maxRecDepth 65536 in
set_option maxHeartbeats 40000000 in
theorem own_rm3 (l : Launch) (Z : State) (a0 : Array Value) (hw : ∀ d ∈ tables_1, d.before a0 Z = true) (r0 : Addr) (h0 : Heap) (n0 : Nat) (Z0 : n0 ≤ h0.size) (O0 : Old Z n0 h0) (dd : Addr) (S0 : Sta Z Z.heap "java/util/ArrayList" "DEFAULTCAPACITY_EMPTY_ELEMENTDATA" "[Ljava/lang/Object;" (.ref dd)) (E0 : Exa Z h0 r0 "com/example/renkei/renkei/reader/TextStore") (g0 : n0 ≤ r0) (u0 : Value) (F0 : Fld Z h0 r0 "com/example/renkei/renkei/reader/TextStore" "blocks" "Ljava/util/List;" u0) (u1 : Value) (F1 : Fld Z h0 r0 "com/example/renkei/renkei/reader/TextStore" "kept" "Ljava/util/List;" u1) (u2 : Value) (F2 : Fld Z h0 r0 "com/example/renkei/renkei/reader/TextStore" "remembered" "[I" u2)  :
    Met l Z (⟨"com/example/renkei/renkei/reader/TextStore", "<init>", "()V"⟩ : MethodName) prog_103_method_1_code 1 none [] ({ frames := 4, cells := 3, slots := 1030, locals := 50 } : Room) #[(.ref r0)] h0 (fun v h L => v = none ∧ Fr n0 L ∧ Keep h0 h [r0]) := by
  refine met_of (Ls := #[.val (.ref r0)]) own_pn3 (own_ef3 r0) ?_
  intro p e s m below meth c s₁ hx hby hml hown hnm hret hlk hZ X0 e0
  have N0 := Fr.nil n0
  refine gAloadN X0 hx (hb hby d3_0) rfl rfl ?_
  refine gObjInit X0 hx hZ hown (tw hw 15 rfl) (tw hw 7 rfl) (tw hw 8 rfl) e0 (by rw [hml]; rfl) (hb hby d3_1) (by decide) (W := 0) (Nat.le_of_eq rfl) (by decide) ?_
  intro T1 X1 e1
  show Go _ _ _ _ _ _ _ T1 (mkF m 4 #[.val (.ref r0)] [])
  refine gAloadN X1 hx (hb hby d3_4) rfl rfl ?_
  refine gNew X1 hx hZ hown (tw hw 16 rfl) (tw hw 17 rfl) (tw hw 18 rfl) e1 (hb hby d3_5) (by decide) (by decide) ?_
  intro T2 h2 b2 X2 e2 E2 g2 A2 D2
  have lt_r0_b2 : r0 < b2 := by rw [g2]; exact E0.lt
  have g_b2 : n0 ≤ b2 := by rw [g2]; exact Z0
  have sz_b2 : h0.size ≤ b2 := by rw [g2]; exact (Keep.refl h0 [r0]).1
  have E0__2 := E0.ext E2
  have F0__2 := F0.ext E2
  have F1__2 := F1.ext E2
  have F2__2 := F2.ext E2
  have Z_2 := Nat.le_trans Z0 E2.1
  have O_2 := O0.ext E2
  have K_2 : Keep h0 h2 [r0] := (Keep.refl h0 [r0]).ext E2
  have F_modCount_b2 : Fld Z h2 b2 "java/util/AbstractList" "modCount" "I" (.int (0 : Int32)) := D2 (Or.inl (tw hw 36 rfl)) (ty := .int) (by decide)
  have F_elementData_b2 : Fld Z h2 b2 "java/util/ArrayList" "elementData" "[Ljava/lang/Object;" .null := D2 (Or.inl (tw hw 39 rfl)) (ty := (.array (.object "java/lang/Object"))) (by decide)
  show Go _ _ _ _ _ _ _ T2 (mkF m 8 #[.val (.ref r0)] [(.ref b2), (.ref r0)])
  refine gDup X2 hx (hb hby d3_8) rfl ?_
  refine gInit X2 hx hZ (y := (⟨"java/util/ArrayList", "<init>", "()V"⟩ : MethodName)) (a := b2) hown rfl (by decide) (tw hw 19 rfl) (tw hw 20 rfl) (tw hw 18 rfl) (tw hw 21 rfl) (own_rm2 l Z a0 hw b2 h2 n0 Z_2 O_2 dd S0 A2 g_b2 _ F_modCount_b2 _ F_elementData_b2) e2 (by rw [hml]; rfl) (argsL := []) (rest := [(.ref b2), (.ref r0)]) (W := 2) (lenOf own_pd0 rfl) rfl (Nat.le_of_eq rfl) (by decide) (by decide) (by decide) (by decide) (hb hby d3_9) ?_
  rintro _ T3 L3 X3 ⟨rfl, Nq3, Kq3⟩
  have N_3 := Fr.app N0 Nq3
  have E0__3 := E0__2.keep Kq3
  have F0__3 := F0__2.keep Kq3 (ninS (Nat.ne_of_lt lt_r0_b2) nin0)
  have F1__3 := F1__2.keep Kq3 (ninS (Nat.ne_of_lt lt_r0_b2) nin0)
  have F2__3 := F2__2.keep Kq3 (ninS (Nat.ne_of_lt lt_r0_b2) nin0)
  have A2__3 := A2.keep Kq3
  obtain ⟨u3_F_modCount_b2__3, F_modCount_b2__3⟩ := own_keepAny F_modCount_b2 Kq3
  obtain ⟨u3_F_elementData_b2__3, F_elementData_b2__3⟩ := own_keepAny F_elementData_b2 Kq3
  have Z_3 := Nat.le_trans Z_2 Kq3.1
  have O_3 := O_2.keep Kq3 (allS g_b2 all0)
  have K_3 : Keep h0 T3.heap [r0] := K_2.trans Kq3 (allS (Or.inr sz_b2) all0)
  show Go _ _ _ _ _ _ _ T3 (mkF m 12 #[.val (.ref r0)] [(.ref b2), (.ref r0)])
  refine gPutF X3 hx hZ hown (tw hw 40 rfl) rfl F0__3 E0__3 (Or.inr ⟨(tw hw 41 rfl), rfl, hnm⟩) (tw hw 10 rfl) (ty := (.object "java/util/List")) (by decide) rfl rfl (hb hby d3_12) ?_
  intro T4 h4 X4 e4 W4
  have F0__4 := F0__3.same W4
  have E0__4 := E0__3.wr W4
  have F1__4 := F1__3.other W4 (Or.inr (slot_ne (Or.inr (tw hw 43 rfl)) (Or.inr (tw hw 41 rfl)) (by decide) (t := (.object "java/util/List")) (t' := (.object "java/util/List")) (by decide) (by decide)))
  have F2__4 := F2__3.other W4 (Or.inr (slot_ne (Or.inr (tw hw 46 rfl)) (Or.inr (tw hw 41 rfl)) (by decide) (t := (.array .int)) (t' := (.object "java/util/List")) (by decide) (by decide)))
  have A2__4 := A2__3.wr W4
  have F_modCount_b2__4 := F_modCount_b2__3.other W4 (Or.inl (Ne.symm (Nat.ne_of_lt lt_r0_b2)))
  have F_elementData_b2__4 := F_elementData_b2__3.other W4 (Or.inl (Ne.symm (Nat.ne_of_lt lt_r0_b2)))
  have Z_4 := Nat.le_trans Z_3 (Nat.le_of_eq W4.size.symm)
  have O_4 := O_3.wr W4 g0
  have K_4 : Keep h0 h4 [r0] := K_3.wr W4 (Or.inl (List.mem_of_getElem? (i := 0) rfl))
  have N_4 := Fr.snoc X4 N_3 g0
  show Go _ _ _ _ _ _ _ T4 (mkF m 15 #[.val (.ref r0)] [])
  refine gAloadN X4 hx (hb hby d3_15) rfl rfl ?_
  refine gNew X4 hx hZ hown (tw hw 16 rfl) (tw hw 17 rfl) (tw hw 18 rfl) e4 (hb hby d3_16) (by decide) (by decide) ?_
  intro T5 h5 b5 X5 e5 E5 g5 A5 D5
  have lt_r0_b5 : r0 < b5 := by rw [g5]; exact E0__4.lt
  have lt_b2_b5 : b2 < b5 := by rw [g5]; exact A2__4.lt
  have g_b5 : n0 ≤ b5 := by rw [g5]; exact Z_4
  have sz_b5 : h0.size ≤ b5 := by rw [g5]; exact K_4.1
  have E0__5 := E0__4.ext E5
  have F0__5 := F0__4.ext E5
  have F1__5 := F1__4.ext E5
  have F2__5 := F2__4.ext E5
  have A2__5 := A2__4.ext E5
  have F_modCount_b2__5 := F_modCount_b2__4.ext E5
  have F_elementData_b2__5 := F_elementData_b2__4.ext E5
  have Z_5 := Nat.le_trans Z_4 E5.1
  have O_5 := O_4.ext E5
  have K_5 : Keep h0 h5 [r0] := K_4.ext E5
  have F_modCount_b5 : Fld Z h5 b5 "java/util/AbstractList" "modCount" "I" (.int (0 : Int32)) := D5 (Or.inl (tw hw 36 rfl)) (ty := .int) (by decide)
  have F_elementData_b5 : Fld Z h5 b5 "java/util/ArrayList" "elementData" "[Ljava/lang/Object;" .null := D5 (Or.inl (tw hw 39 rfl)) (ty := (.array (.object "java/lang/Object"))) (by decide)
  show Go _ _ _ _ _ _ _ T5 (mkF m 19 #[.val (.ref r0)] [(.ref b5), (.ref r0)])
  refine gDup X5 hx (hb hby d3_19) rfl ?_
  refine gInit X5 hx hZ (y := (⟨"java/util/ArrayList", "<init>", "()V"⟩ : MethodName)) (a := b5) hown rfl (by decide) (tw hw 19 rfl) (tw hw 20 rfl) (tw hw 18 rfl) (tw hw 21 rfl) (own_rm2 l Z a0 hw b5 h5 n0 Z_5 O_5 dd S0 A5 g_b5 _ F_modCount_b5 _ F_elementData_b5) e5 (by rw [hml]; rfl) (argsL := []) (rest := [(.ref b5), (.ref r0)]) (W := 2) (lenOf own_pd0 rfl) rfl (Nat.le_of_eq rfl) (by decide) (by decide) (by decide) (by decide) (hb hby d3_20) ?_
  rintro _ T6 L6 X6 ⟨rfl, Nq6, Kq6⟩
  have N_6 := Fr.app N_4 Nq6
  have E0__6 := E0__5.keep Kq6
  have F0__6 := F0__5.keep Kq6 (ninS (Nat.ne_of_lt lt_r0_b5) nin0)
  have F1__6 := F1__5.keep Kq6 (ninS (Nat.ne_of_lt lt_r0_b5) nin0)
  have F2__6 := F2__5.keep Kq6 (ninS (Nat.ne_of_lt lt_r0_b5) nin0)
  have A2__6 := A2__5.keep Kq6
  have F_modCount_b2__6 := F_modCount_b2__5.keep Kq6 (ninS (Nat.ne_of_lt lt_b2_b5) nin0)
  have F_elementData_b2__6 := F_elementData_b2__5.keep Kq6 (ninS (Nat.ne_of_lt lt_b2_b5) nin0)
  have A5__6 := A5.keep Kq6
  obtain ⟨u6_F_modCount_b5__6, F_modCount_b5__6⟩ := own_keepAny F_modCount_b5 Kq6
  obtain ⟨u6_F_elementData_b5__6, F_elementData_b5__6⟩ := own_keepAny F_elementData_b5 Kq6
  have Z_6 := Nat.le_trans Z_5 Kq6.1
  have O_6 := O_5.keep Kq6 (allS g_b5 all0)
  have K_6 : Keep h0 T6.heap [r0] := K_5.trans Kq6 (allS (Or.inr sz_b5) all0)
  show Go _ _ _ _ _ _ _ T6 (mkF m 23 #[.val (.ref r0)] [(.ref b5), (.ref r0)])
  refine gPutF X6 hx hZ hown (tw hw 42 rfl) rfl F1__6 E0__6 (Or.inr ⟨(tw hw 43 rfl), rfl, hnm⟩) (tw hw 10 rfl) (ty := (.object "java/util/List")) (by decide) rfl rfl (hb hby d3_23) ?_
  intro T7 h7 X7 e7 W7
  have F1__7 := F1__6.same W7
  have E0__7 := E0__6.wr W7
  have F0__7 := F0__6.other W7 (Or.inr (slot_ne (Or.inr (tw hw 41 rfl)) (Or.inr (tw hw 43 rfl)) (by decide) (t := (.object "java/util/List")) (t' := (.object "java/util/List")) (by decide) (by decide)))
  have F2__7 := F2__6.other W7 (Or.inr (slot_ne (Or.inr (tw hw 46 rfl)) (Or.inr (tw hw 43 rfl)) (by decide) (t := (.array .int)) (t' := (.object "java/util/List")) (by decide) (by decide)))
  have A2__7 := A2__6.wr W7
  have F_modCount_b2__7 := F_modCount_b2__6.other W7 (Or.inl (Ne.symm (Nat.ne_of_lt lt_r0_b2)))
  have F_elementData_b2__7 := F_elementData_b2__6.other W7 (Or.inl (Ne.symm (Nat.ne_of_lt lt_r0_b2)))
  have A5__7 := A5__6.wr W7
  have F_modCount_b5__7 := F_modCount_b5__6.other W7 (Or.inl (Ne.symm (Nat.ne_of_lt lt_r0_b5)))
  have F_elementData_b5__7 := F_elementData_b5__6.other W7 (Or.inl (Ne.symm (Nat.ne_of_lt lt_r0_b5)))
  have Z_7 := Nat.le_trans Z_6 (Nat.le_of_eq W7.size.symm)
  have O_7 := O_6.wr W7 g0
  have K_7 : Keep h0 h7 [r0] := K_6.wr W7 (Or.inl (List.mem_of_getElem? (i := 0) rfl))
  have N_7 := Fr.snoc X7 N_6 g0
  show Go _ _ _ _ _ _ _ T7 (mkF m 26 #[.val (.ref r0)] [])
  refine gAloadN X7 hx (hb hby d3_26) rfl rfl ?_
  refine gSipush X7 hx (1024 : Int32) (hb hby d3_27) rfl ?_
  refine gNewArr X7 hx hZ (tw hw 44 rfl) e7 (hb hby d3_30) (by decide) (cap := 1024) (by decide) (by decide) (by decide) (by decide) ?_
  intro T8 h8 b8 cA8 X8 e8 E8 g8 A8
  have lt_r0_b8 : r0 < b8 := by rw [g8]; exact E0__7.lt
  have lt_b2_b8 : b2 < b8 := by rw [g8]; exact A2__7.lt
  have lt_b5_b8 : b5 < b8 := by rw [g8]; exact A5__7.lt
  have g_b8 : n0 ≤ b8 := by rw [g8]; exact Z_7
  have sz_b8 : h0.size ≤ b8 := by rw [g8]; exact K_7.1
  have E0__8 := E0__7.ext E8
  have F0__8 := F0__7.ext E8
  have F1__8 := F1__7.ext E8
  have F2__8 := F2__7.ext E8
  have A2__8 := A2__7.ext E8
  have F_modCount_b2__8 := F_modCount_b2__7.ext E8
  have F_elementData_b2__8 := F_elementData_b2__7.ext E8
  have A5__8 := A5__7.ext E8
  have F_modCount_b5__8 := F_modCount_b5__7.ext E8
  have F_elementData_b5__8 := F_elementData_b5__7.ext E8
  have Z_8 := Nat.le_trans Z_7 E8.1
  have O_8 := O_7.ext E8
  have K_8 : Keep h0 h8 [r0] := K_7.ext E8
  show Go _ _ _ _ _ _ _ T8 (mkF m 32 #[.val (.ref r0)] [(.ref b8), (.ref r0)])
  refine gPutF X8 hx hZ hown (tw hw 45 rfl) e8 F2__8 E0__8 (Or.inr ⟨(tw hw 46 rfl), rfl, hnm⟩) (tw hw 10 rfl) (ty := (.array .int)) (by decide) rfl rfl (hb hby d3_32) ?_
  intro T9 h9 X9 e9 W9
  have F2__9 := F2__8.same W9
  have E0__9 := E0__8.wr W9
  have F0__9 := F0__8.other W9 (Or.inr (slot_ne (Or.inr (tw hw 41 rfl)) (Or.inr (tw hw 46 rfl)) (by decide) (t := (.object "java/util/List")) (t' := (.array .int)) (by decide) (by decide)))
  have F1__9 := F1__8.other W9 (Or.inr (slot_ne (Or.inr (tw hw 43 rfl)) (Or.inr (tw hw 46 rfl)) (by decide) (t := (.object "java/util/List")) (t' := (.array .int)) (by decide) (by decide)))
  have A2__9 := A2__8.wr W9
  have F_modCount_b2__9 := F_modCount_b2__8.other W9 (Or.inl (Ne.symm (Nat.ne_of_lt lt_r0_b2)))
  have F_elementData_b2__9 := F_elementData_b2__8.other W9 (Or.inl (Ne.symm (Nat.ne_of_lt lt_r0_b2)))
  have A5__9 := A5__8.wr W9
  have F_modCount_b5__9 := F_modCount_b5__8.other W9 (Or.inl (Ne.symm (Nat.ne_of_lt lt_r0_b5)))
  have F_elementData_b5__9 := F_elementData_b5__8.other W9 (Or.inl (Ne.symm (Nat.ne_of_lt lt_r0_b5)))
  have Z_9 := Nat.le_trans Z_8 (Nat.le_of_eq W9.size.symm)
  have O_9 := O_8.wr W9 g0
  have K_9 : Keep h0 h9 [r0] := K_8.wr W9 (Or.inl (List.mem_of_getElem? (i := 0) rfl))
  have N_9 := Fr.snoc X9 N_7 g0
  show Go _ _ _ _ _ _ _ T9 (mkF m 35 #[.val (.ref r0)] [])
  subst e9
  exact gRetV X9 hx hlk hret (hb hby d3_35) (by decide) (by decide) ⟨rfl, N_9, K_9⟩
theorem d4_0 : decode prog_109_method_1_code 0 = .ok (.aload_n 0, 1) := by decide +kernel
theorem d4_1 : decode prog_109_method_1_code 1 = .ok (.invokespecial 5, 3) := by decide +kernel
theorem d4_4 : decode prog_109_method_1_code 4 = .ok (.aload_n 0, 1) := by decide +kernel
theorem d4_5 : decode prog_109_method_1_code 5 = .ok (.new 11, 3) := by decide +kernel
theorem d4_8 : decode prog_109_method_1_code 8 = .ok (.dup, 1) := by decide +kernel
theorem d4_9 : decode prog_109_method_1_code 9 = .ok (.invokespecial 13, 3) := by decide +kernel
theorem d4_12 : decode prog_109_method_1_code 12 = .ok (.putfield 14, 3) := by decide +kernel
theorem d4_15 : decode prog_109_method_1_code 15 = .ok (.aload_n 0, 1) := by decide +kernel
theorem d4_16 : decode prog_109_method_1_code 16 = .ok (.iconst 1, 1) := by decide +kernel
theorem d4_17 : decode prog_109_method_1_code 17 = .ok (.anewarray 18, 3) := by decide +kernel
theorem d4_20 : decode prog_109_method_1_code 20 = .ok (.putfield 20, 3) := by decide +kernel
theorem d4_23 : decode prog_109_method_1_code 23 = .ok (.aload_n 0, 1) := by decide +kernel
theorem d4_24 : decode prog_109_method_1_code 24 = .ok (.iconst 1, 1) := by decide +kernel
theorem d4_25 : decode prog_109_method_1_code 25 = .ok (.anewarray 24, 3) := by decide +kernel
theorem d4_28 : decode prog_109_method_1_code 28 = .ok (.putfield 26, 3) := by decide +kernel
theorem d4_31 : decode prog_109_method_1_code 31 = .ok (.aload_n 0, 1) := by decide +kernel
theorem d4_32 : decode prog_109_method_1_code 32 = .ok (.bipush 16, 2) := by decide +kernel
theorem d4_34 : decode prog_109_method_1_code 34 = .ok (.newarray .int, 2) := by decide +kernel
theorem d4_36 : decode prog_109_method_1_code 36 = .ok (.putfield 30, 3) := by decide +kernel
theorem d4_39 : decode prog_109_method_1_code 39 = .ok (.aload_n 0, 1) := by decide +kernel
theorem d4_40 : decode prog_109_method_1_code 40 = .ok (.bipush 16, 2) := by decide +kernel
theorem d4_42 : decode prog_109_method_1_code 42 = .ok (.newarray .int, 2) := by decide +kernel
theorem d4_44 : decode prog_109_method_1_code 44 = .ok (.putfield 33, 3) := by decide +kernel
theorem d4_47 : decode prog_109_method_1_code 47 = .ok (.aload_n 0, 1) := by decide +kernel
theorem d4_48 : decode prog_109_method_1_code 48 = .ok (.bipush 16, 2) := by decide +kernel
theorem d4_50 : decode prog_109_method_1_code 50 = .ok (.newarray .int, 2) := by decide +kernel
theorem d4_52 : decode prog_109_method_1_code 52 = .ok (.putfield 36, 3) := by decide +kernel
theorem d4_55 : decode prog_109_method_1_code 55 = .ok (.return_, 1) := by decide +kernel
theorem own_pn4 : plainFor (⟨"com/example/renkei/renkei/reader/ValueStore", "<init>", "()V"⟩ : MethodName) = true := plainFor_of_name (by first | (simp [plainName, overriddenIn]; done) | decide +kernel)
theorem own_ef4 (r0 : Addr) (m : MethodId) : entryFrame m #[(.ref r0)] 1 = mkF m 0 #[.val (.ref r0)] [] := by first | (simp [entryFrame, mkF, argsToLocals, Value.category]; done) | rfl
set_option maxRecDepth 65536 in
set_option maxHeartbeats 40000000 in
theorem own_rm4 (l : Launch) (Z : State) (a0 : Array Value) (hw : ∀ d ∈ tables_1, d.before a0 Z = true) (r0 : Addr) (h0 : Heap) (n0 : Nat) (Z0 : n0 ≤ h0.size) (O0 : Old Z n0 h0) (dd : Addr) (S0 : Sta Z Z.heap "java/util/ArrayList" "DEFAULTCAPACITY_EMPTY_ELEMENTDATA" "[Ljava/lang/Object;" (.ref dd)) (E0 : Exa Z h0 r0 "com/example/renkei/renkei/reader/ValueStore") (g0 : n0 ≤ r0) (u0 : Value) (F0 : Fld Z h0 r0 "com/example/renkei/renkei/reader/ValueStore" "texts" "Lcom/example/renkei/renkei/reader/TextStore;" u0) (u1 : Value) (F1 : Fld Z h0 r0 "com/example/renkei/renkei/reader/ValueStore" "ints" "[[I" u1) (u2 : Value) (F2 : Fld Z h0 r0 "com/example/renkei/renkei/reader/ValueStore" "typesAndSteps" "[[B" u2) (u3 : Value) (F3 : Fld Z h0 r0 "com/example/renkei/renkei/reader/ValueStore" "keptLines" "[I" u3) (u4 : Value) (F4 : Fld Z h0 r0 "com/example/renkei/renkei/reader/ValueStore" "farValues" "[I" u4) (u5 : Value) (F5 : Fld Z h0 r0 "com/example/renkei/renkei/reader/ValueStore" "farLines" "[I" u5)  :
    Met l Z (⟨"com/example/renkei/renkei/reader/ValueStore", "<init>", "()V"⟩ : MethodName) prog_109_method_1_code 1 none [] ({ frames := 5, cells := 9, slots := 1084, locals := 64 } : Room) #[(.ref r0)] h0 (fun v h L => v = none ∧ Fr n0 L ∧ Keep h0 h [r0]) := by
  refine met_of (Ls := #[.val (.ref r0)]) own_pn4 (own_ef4 r0) ?_
  intro p e s m below meth c s₁ hx hby hml hown hnm hret hlk hZ X0 e0
  have N0 := Fr.nil n0
  refine gAloadN X0 hx (hb hby d4_0) rfl rfl ?_
  refine gObjInit X0 hx hZ hown (tw hw 6 rfl) (tw hw 7 rfl) (tw hw 8 rfl) e0 (by rw [hml]; rfl) (hb hby d4_1) (by decide) (W := 0) (Nat.le_of_eq rfl) (by decide) ?_
  intro T1 X1 e1
  show Go _ _ _ _ _ _ _ T1 (mkF m 4 #[.val (.ref r0)] [])
  refine gAloadN X1 hx (hb hby d4_4) rfl rfl ?_
  refine gNew X1 hx hZ hown (tw hw 9 rfl) (tw hw 10 rfl) (tw hw 11 rfl) e1 (hb hby d4_5) (by decide) (by decide) ?_
  intro T2 h2 b2 X2 e2 E2 g2 A2 D2
  have lt_r0_b2 : r0 < b2 := by rw [g2]; exact E0.lt
  have g_b2 : n0 ≤ b2 := by rw [g2]; exact Z0
  have sz_b2 : h0.size ≤ b2 := by rw [g2]; exact (Keep.refl h0 [r0]).1
  have E0__2 := E0.ext E2
  have F0__2 := F0.ext E2
  have F1__2 := F1.ext E2
  have F2__2 := F2.ext E2
  have F3__2 := F3.ext E2
  have F4__2 := F4.ext E2
  have F5__2 := F5.ext E2
  have Z_2 := Nat.le_trans Z0 E2.1
  have O_2 := O0.ext E2
  have K_2 : Keep h0 h2 [r0] := (Keep.refl h0 [r0]).ext E2
  have F_blocks_b2 : Fld Z h2 b2 "com/example/renkei/renkei/reader/TextStore" "blocks" "Ljava/util/List;" .null := D2 (Or.inr (tw hw 41 rfl)) (ty := (.object "java/util/List")) (by decide)
  have F_kept_b2 : Fld Z h2 b2 "com/example/renkei/renkei/reader/TextStore" "kept" "Ljava/util/List;" .null := D2 (Or.inr (tw hw 43 rfl)) (ty := (.object "java/util/List")) (by decide)
  have F_remembered_b2 : Fld Z h2 b2 "com/example/renkei/renkei/reader/TextStore" "remembered" "[I" .null := D2 (Or.inr (tw hw 46 rfl)) (ty := (.array .int)) (by decide)
  show Go _ _ _ _ _ _ _ T2 (mkF m 8 #[.val (.ref r0)] [(.ref b2), (.ref r0)])
  refine gDup X2 hx (hb hby d4_8) rfl ?_
  refine gInit X2 hx hZ (y := (⟨"com/example/renkei/renkei/reader/TextStore", "<init>", "()V"⟩ : MethodName)) (a := b2) hown rfl (by decide) (tw hw 12 rfl) (tw hw 13 rfl) (tw hw 11 rfl) (tw hw 14 rfl) (own_rm3 l Z a0 hw b2 h2 n0 Z_2 O_2 dd S0 A2 g_b2 _ F_blocks_b2 _ F_kept_b2 _ F_remembered_b2) e2 (by rw [hml]; rfl) (argsL := []) (rest := [(.ref b2), (.ref r0)]) (W := 2) (lenOf own_pd0 rfl) rfl (Nat.le_of_eq rfl) (by decide) (by decide) (by decide) (by decide) (hb hby d4_9) ?_
  rintro _ T3 L3 X3 ⟨rfl, Nq3, Kq3⟩
  have N_3 := Fr.app N0 Nq3
  have E0__3 := E0__2.keep Kq3
  have F0__3 := F0__2.keep Kq3 (ninS (Nat.ne_of_lt lt_r0_b2) nin0)
  have F1__3 := F1__2.keep Kq3 (ninS (Nat.ne_of_lt lt_r0_b2) nin0)
  have F2__3 := F2__2.keep Kq3 (ninS (Nat.ne_of_lt lt_r0_b2) nin0)
  have F3__3 := F3__2.keep Kq3 (ninS (Nat.ne_of_lt lt_r0_b2) nin0)
  have F4__3 := F4__2.keep Kq3 (ninS (Nat.ne_of_lt lt_r0_b2) nin0)
  have F5__3 := F5__2.keep Kq3 (ninS (Nat.ne_of_lt lt_r0_b2) nin0)
  have A2__3 := A2.keep Kq3
  obtain ⟨u3_F_blocks_b2__3, F_blocks_b2__3⟩ := own_keepAny F_blocks_b2 Kq3
  obtain ⟨u3_F_kept_b2__3, F_kept_b2__3⟩ := own_keepAny F_kept_b2 Kq3
  obtain ⟨u3_F_remembered_b2__3, F_remembered_b2__3⟩ := own_keepAny F_remembered_b2 Kq3
  have Z_3 := Nat.le_trans Z_2 Kq3.1
  have O_3 := O_2.keep Kq3 (allS g_b2 all0)
  have K_3 : Keep h0 T3.heap [r0] := K_2.trans Kq3 (allS (Or.inr sz_b2) all0)
  show Go _ _ _ _ _ _ _ T3 (mkF m 12 #[.val (.ref r0)] [(.ref b2), (.ref r0)])
  refine gPutF X3 hx hZ hown (tw hw 47 rfl) rfl F0__3 E0__3 (Or.inr ⟨(tw hw 48 rfl), rfl, hnm⟩) (tw hw 1 rfl) (ty := (.object "com/example/renkei/renkei/reader/TextStore")) (by decide) rfl rfl (hb hby d4_12) ?_
  intro T4 h4 X4 e4 W4
  have F0__4 := F0__3.same W4
  have E0__4 := E0__3.wr W4
  have F1__4 := F1__3.other W4 (Or.inr (slot_ne (Or.inl (tw hw 52 rfl)) (Or.inr (tw hw 48 rfl)) (by decide) (t := (.array (.array .int))) (t' := (.object "com/example/renkei/renkei/reader/TextStore")) (by decide) (by decide)))
  have F2__4 := F2__3.other W4 (Or.inr (slot_ne (Or.inl (tw hw 56 rfl)) (Or.inr (tw hw 48 rfl)) (by decide) (t := (.array (.array .byte))) (t' := (.object "com/example/renkei/renkei/reader/TextStore")) (by decide) (by decide)))
  have F3__4 := F3__3.other W4 (Or.inr (slot_ne (Or.inl (tw hw 58 rfl)) (Or.inr (tw hw 48 rfl)) (by decide) (t := (.array .int)) (t' := (.object "com/example/renkei/renkei/reader/TextStore")) (by decide) (by decide)))
  have F4__4 := F4__3.other W4 (Or.inr (slot_ne (Or.inl (tw hw 60 rfl)) (Or.inr (tw hw 48 rfl)) (by decide) (t := (.array .int)) (t' := (.object "com/example/renkei/renkei/reader/TextStore")) (by decide) (by decide)))
  have F5__4 := F5__3.other W4 (Or.inr (slot_ne (Or.inl (tw hw 62 rfl)) (Or.inr (tw hw 48 rfl)) (by decide) (t := (.array .int)) (t' := (.object "com/example/renkei/renkei/reader/TextStore")) (by decide) (by decide)))
  have A2__4 := A2__3.wr W4
  have F_blocks_b2__4 := F_blocks_b2__3.other W4 (Or.inl (Ne.symm (Nat.ne_of_lt lt_r0_b2)))
  have F_kept_b2__4 := F_kept_b2__3.other W4 (Or.inl (Ne.symm (Nat.ne_of_lt lt_r0_b2)))
  have F_remembered_b2__4 := F_remembered_b2__3.other W4 (Or.inl (Ne.symm (Nat.ne_of_lt lt_r0_b2)))
  have Z_4 := Nat.le_trans Z_3 (Nat.le_of_eq W4.size.symm)
  have O_4 := O_3.wr W4 g0
  have K_4 : Keep h0 h4 [r0] := K_3.wr W4 (Or.inl (List.mem_of_getElem? (i := 0) rfl))
  have N_4 := Fr.snoc X4 N_3 g0
  show Go _ _ _ _ _ _ _ T4 (mkF m 15 #[.val (.ref r0)] [])
  refine gAloadN X4 hx (hb hby d4_15) rfl rfl ?_
  refine gIconst X4 hx (1 : Int32) (hb hby d4_16) rfl ?_
  refine gNewArrA X4 hx hZ (ty := Jvm.ClassFile.FieldType.int) hown rfl (tw hw 49 rfl) (tw hw 50 rfl) e4 (hb hby d4_17) (by decide) (cap := 1) (by decide) (by decide) (by decide) (by decide) (ad := "[[I") rfl ?_
  intro T5 h5 b5 X5 e5 E5 g5
  have lt_r0_b5 : r0 < b5 := by rw [g5]; exact E0__4.lt
  have lt_b2_b5 : b2 < b5 := by rw [g5]; exact A2__4.lt
  have g_b5 : n0 ≤ b5 := by rw [g5]; exact Z_4
  have sz_b5 : h0.size ≤ b5 := by rw [g5]; exact K_4.1
  have E0__5 := E0__4.ext E5
  have F0__5 := F0__4.ext E5
  have F1__5 := F1__4.ext E5
  have F2__5 := F2__4.ext E5
  have F3__5 := F3__4.ext E5
  have F4__5 := F4__4.ext E5
  have F5__5 := F5__4.ext E5
  have A2__5 := A2__4.ext E5
  have F_blocks_b2__5 := F_blocks_b2__4.ext E5
  have F_kept_b2__5 := F_kept_b2__4.ext E5
  have F_remembered_b2__5 := F_remembered_b2__4.ext E5
  have Z_5 := Nat.le_trans Z_4 E5.1
  have O_5 := O_4.ext E5
  have K_5 : Keep h0 h5 [r0] := K_4.ext E5
  show Go _ _ _ _ _ _ _ T5 (mkF m 20 #[.val (.ref r0)] [(.ref b5), (.ref r0)])
  refine gPutF X5 hx hZ hown (tw hw 51 rfl) e5 F1__5 E0__5 (Or.inl (tw hw 52 rfl)) (tw hw 1 rfl) (ty := (.array (.array .int))) (by decide) rfl rfl (hb hby d4_20) ?_
  intro T6 h6 X6 e6 W6
  have F1__6 := F1__5.same W6
  have E0__6 := E0__5.wr W6
  have F0__6 := F0__5.other W6 (Or.inr (slot_ne (Or.inr (tw hw 48 rfl)) (Or.inl (tw hw 52 rfl)) (by decide) (t := (.object "com/example/renkei/renkei/reader/TextStore")) (t' := (.array (.array .int))) (by decide) (by decide)))
  have F2__6 := F2__5.other W6 (Or.inr (slot_ne (Or.inl (tw hw 56 rfl)) (Or.inl (tw hw 52 rfl)) (by decide) (t := (.array (.array .byte))) (t' := (.array (.array .int))) (by decide) (by decide)))
  have F3__6 := F3__5.other W6 (Or.inr (slot_ne (Or.inl (tw hw 58 rfl)) (Or.inl (tw hw 52 rfl)) (by decide) (t := (.array .int)) (t' := (.array (.array .int))) (by decide) (by decide)))
  have F4__6 := F4__5.other W6 (Or.inr (slot_ne (Or.inl (tw hw 60 rfl)) (Or.inl (tw hw 52 rfl)) (by decide) (t := (.array .int)) (t' := (.array (.array .int))) (by decide) (by decide)))
  have F5__6 := F5__5.other W6 (Or.inr (slot_ne (Or.inl (tw hw 62 rfl)) (Or.inl (tw hw 52 rfl)) (by decide) (t := (.array .int)) (t' := (.array (.array .int))) (by decide) (by decide)))
  have A2__6 := A2__5.wr W6
  have F_blocks_b2__6 := F_blocks_b2__5.other W6 (Or.inl (Ne.symm (Nat.ne_of_lt lt_r0_b2)))
  have F_kept_b2__6 := F_kept_b2__5.other W6 (Or.inl (Ne.symm (Nat.ne_of_lt lt_r0_b2)))
  have F_remembered_b2__6 := F_remembered_b2__5.other W6 (Or.inl (Ne.symm (Nat.ne_of_lt lt_r0_b2)))
  have Z_6 := Nat.le_trans Z_5 (Nat.le_of_eq W6.size.symm)
  have O_6 := O_5.wr W6 g0
  have K_6 : Keep h0 h6 [r0] := K_5.wr W6 (Or.inl (List.mem_of_getElem? (i := 0) rfl))
  have N_6 := Fr.snoc X6 N_4 g0
  show Go _ _ _ _ _ _ _ T6 (mkF m 23 #[.val (.ref r0)] [])
  refine gAloadN X6 hx (hb hby d4_23) rfl rfl ?_
  refine gIconst X6 hx (1 : Int32) (hb hby d4_24) rfl ?_
  refine gNewArrA X6 hx hZ (ty := Jvm.ClassFile.FieldType.byte) hown rfl (tw hw 53 rfl) (tw hw 54 rfl) e6 (hb hby d4_25) (by decide) (cap := 1) (by decide) (by decide) (by decide) (by decide) (ad := "[[B") rfl ?_
  intro T7 h7 b7 X7 e7 E7 g7
  have lt_r0_b7 : r0 < b7 := by rw [g7]; exact E0__6.lt
  have lt_b2_b7 : b2 < b7 := by rw [g7]; exact A2__6.lt
  have g_b7 : n0 ≤ b7 := by rw [g7]; exact Z_6
  have sz_b7 : h0.size ≤ b7 := by rw [g7]; exact K_6.1
  have E0__7 := E0__6.ext E7
  have F0__7 := F0__6.ext E7
  have F1__7 := F1__6.ext E7
  have F2__7 := F2__6.ext E7
  have F3__7 := F3__6.ext E7
  have F4__7 := F4__6.ext E7
  have F5__7 := F5__6.ext E7
  have A2__7 := A2__6.ext E7
  have F_blocks_b2__7 := F_blocks_b2__6.ext E7
  have F_kept_b2__7 := F_kept_b2__6.ext E7
  have F_remembered_b2__7 := F_remembered_b2__6.ext E7
  have Z_7 := Nat.le_trans Z_6 E7.1
  have O_7 := O_6.ext E7
  have K_7 : Keep h0 h7 [r0] := K_6.ext E7
  show Go _ _ _ _ _ _ _ T7 (mkF m 28 #[.val (.ref r0)] [(.ref b7), (.ref r0)])
  refine gPutF X7 hx hZ hown (tw hw 55 rfl) e7 F2__7 E0__7 (Or.inl (tw hw 56 rfl)) (tw hw 1 rfl) (ty := (.array (.array .byte))) (by decide) rfl rfl (hb hby d4_28) ?_
  intro T8 h8 X8 e8 W8
  have F2__8 := F2__7.same W8
  have E0__8 := E0__7.wr W8
  have F0__8 := F0__7.other W8 (Or.inr (slot_ne (Or.inr (tw hw 48 rfl)) (Or.inl (tw hw 56 rfl)) (by decide) (t := (.object "com/example/renkei/renkei/reader/TextStore")) (t' := (.array (.array .byte))) (by decide) (by decide)))
  have F1__8 := F1__7.other W8 (Or.inr (slot_ne (Or.inl (tw hw 52 rfl)) (Or.inl (tw hw 56 rfl)) (by decide) (t := (.array (.array .int))) (t' := (.array (.array .byte))) (by decide) (by decide)))
  have F3__8 := F3__7.other W8 (Or.inr (slot_ne (Or.inl (tw hw 58 rfl)) (Or.inl (tw hw 56 rfl)) (by decide) (t := (.array .int)) (t' := (.array (.array .byte))) (by decide) (by decide)))
  have F4__8 := F4__7.other W8 (Or.inr (slot_ne (Or.inl (tw hw 60 rfl)) (Or.inl (tw hw 56 rfl)) (by decide) (t := (.array .int)) (t' := (.array (.array .byte))) (by decide) (by decide)))
  have F5__8 := F5__7.other W8 (Or.inr (slot_ne (Or.inl (tw hw 62 rfl)) (Or.inl (tw hw 56 rfl)) (by decide) (t := (.array .int)) (t' := (.array (.array .byte))) (by decide) (by decide)))
  have A2__8 := A2__7.wr W8
  have F_blocks_b2__8 := F_blocks_b2__7.other W8 (Or.inl (Ne.symm (Nat.ne_of_lt lt_r0_b2)))
  have F_kept_b2__8 := F_kept_b2__7.other W8 (Or.inl (Ne.symm (Nat.ne_of_lt lt_r0_b2)))
  have F_remembered_b2__8 := F_remembered_b2__7.other W8 (Or.inl (Ne.symm (Nat.ne_of_lt lt_r0_b2)))
  have Z_8 := Nat.le_trans Z_7 (Nat.le_of_eq W8.size.symm)
  have O_8 := O_7.wr W8 g0
  have K_8 : Keep h0 h8 [r0] := K_7.wr W8 (Or.inl (List.mem_of_getElem? (i := 0) rfl))
  have N_8 := Fr.snoc X8 N_6 g0
  show Go _ _ _ _ _ _ _ T8 (mkF m 31 #[.val (.ref r0)] [])
  refine gAloadN X8 hx (hb hby d4_31) rfl rfl ?_
  refine gBipush X8 hx (16 : Int32) (hb hby d4_32) rfl ?_
  refine gNewArr X8 hx hZ (tw hw 44 rfl) e8 (hb hby d4_34) (by decide) (cap := 16) (by decide) (by decide) (by decide) (by decide) ?_
  intro T9 h9 b9 cA9 X9 e9 E9 g9 A9
  have lt_r0_b9 : r0 < b9 := by rw [g9]; exact E0__8.lt
  have lt_b2_b9 : b2 < b9 := by rw [g9]; exact A2__8.lt
  have g_b9 : n0 ≤ b9 := by rw [g9]; exact Z_8
  have sz_b9 : h0.size ≤ b9 := by rw [g9]; exact K_8.1
  have E0__9 := E0__8.ext E9
  have F0__9 := F0__8.ext E9
  have F1__9 := F1__8.ext E9
  have F2__9 := F2__8.ext E9
  have F3__9 := F3__8.ext E9
  have F4__9 := F4__8.ext E9
  have F5__9 := F5__8.ext E9
  have A2__9 := A2__8.ext E9
  have F_blocks_b2__9 := F_blocks_b2__8.ext E9
  have F_kept_b2__9 := F_kept_b2__8.ext E9
  have F_remembered_b2__9 := F_remembered_b2__8.ext E9
  have Z_9 := Nat.le_trans Z_8 E9.1
  have O_9 := O_8.ext E9
  have K_9 : Keep h0 h9 [r0] := K_8.ext E9
  show Go _ _ _ _ _ _ _ T9 (mkF m 36 #[.val (.ref r0)] [(.ref b9), (.ref r0)])
  refine gPutF X9 hx hZ hown (tw hw 57 rfl) e9 F3__9 E0__9 (Or.inl (tw hw 58 rfl)) (tw hw 1 rfl) (ty := (.array .int)) (by decide) rfl rfl (hb hby d4_36) ?_
  intro T10 h10 X10 e10 W10
  have F3__10 := F3__9.same W10
  have E0__10 := E0__9.wr W10
  have F0__10 := F0__9.other W10 (Or.inr (slot_ne (Or.inr (tw hw 48 rfl)) (Or.inl (tw hw 58 rfl)) (by decide) (t := (.object "com/example/renkei/renkei/reader/TextStore")) (t' := (.array .int)) (by decide) (by decide)))
  have F1__10 := F1__9.other W10 (Or.inr (slot_ne (Or.inl (tw hw 52 rfl)) (Or.inl (tw hw 58 rfl)) (by decide) (t := (.array (.array .int))) (t' := (.array .int)) (by decide) (by decide)))
  have F2__10 := F2__9.other W10 (Or.inr (slot_ne (Or.inl (tw hw 56 rfl)) (Or.inl (tw hw 58 rfl)) (by decide) (t := (.array (.array .byte))) (t' := (.array .int)) (by decide) (by decide)))
  have F4__10 := F4__9.other W10 (Or.inr (slot_ne (Or.inl (tw hw 60 rfl)) (Or.inl (tw hw 58 rfl)) (by decide) (t := (.array .int)) (t' := (.array .int)) (by decide) (by decide)))
  have F5__10 := F5__9.other W10 (Or.inr (slot_ne (Or.inl (tw hw 62 rfl)) (Or.inl (tw hw 58 rfl)) (by decide) (t := (.array .int)) (t' := (.array .int)) (by decide) (by decide)))
  have A2__10 := A2__9.wr W10
  have F_blocks_b2__10 := F_blocks_b2__9.other W10 (Or.inl (Ne.symm (Nat.ne_of_lt lt_r0_b2)))
  have F_kept_b2__10 := F_kept_b2__9.other W10 (Or.inl (Ne.symm (Nat.ne_of_lt lt_r0_b2)))
  have F_remembered_b2__10 := F_remembered_b2__9.other W10 (Or.inl (Ne.symm (Nat.ne_of_lt lt_r0_b2)))
  have Z_10 := Nat.le_trans Z_9 (Nat.le_of_eq W10.size.symm)
  have O_10 := O_9.wr W10 g0
  have K_10 : Keep h0 h10 [r0] := K_9.wr W10 (Or.inl (List.mem_of_getElem? (i := 0) rfl))
  have N_10 := Fr.snoc X10 N_8 g0
  show Go _ _ _ _ _ _ _ T10 (mkF m 39 #[.val (.ref r0)] [])
  refine gAloadN X10 hx (hb hby d4_39) rfl rfl ?_
  refine gBipush X10 hx (16 : Int32) (hb hby d4_40) rfl ?_
  refine gNewArr X10 hx hZ (tw hw 44 rfl) e10 (hb hby d4_42) (by decide) (cap := 16) (by decide) (by decide) (by decide) (by decide) ?_
  intro T11 h11 b11 cA11 X11 e11 E11 g11 A11
  have lt_r0_b11 : r0 < b11 := by rw [g11]; exact E0__10.lt
  have lt_b2_b11 : b2 < b11 := by rw [g11]; exact A2__10.lt
  have g_b11 : n0 ≤ b11 := by rw [g11]; exact Z_10
  have sz_b11 : h0.size ≤ b11 := by rw [g11]; exact K_10.1
  have E0__11 := E0__10.ext E11
  have F0__11 := F0__10.ext E11
  have F1__11 := F1__10.ext E11
  have F2__11 := F2__10.ext E11
  have F3__11 := F3__10.ext E11
  have F4__11 := F4__10.ext E11
  have F5__11 := F5__10.ext E11
  have A2__11 := A2__10.ext E11
  have F_blocks_b2__11 := F_blocks_b2__10.ext E11
  have F_kept_b2__11 := F_kept_b2__10.ext E11
  have F_remembered_b2__11 := F_remembered_b2__10.ext E11
  have Z_11 := Nat.le_trans Z_10 E11.1
  have O_11 := O_10.ext E11
  have K_11 : Keep h0 h11 [r0] := K_10.ext E11
  show Go _ _ _ _ _ _ _ T11 (mkF m 44 #[.val (.ref r0)] [(.ref b11), (.ref r0)])
  refine gPutF X11 hx hZ hown (tw hw 59 rfl) e11 F4__11 E0__11 (Or.inl (tw hw 60 rfl)) (tw hw 1 rfl) (ty := (.array .int)) (by decide) rfl rfl (hb hby d4_44) ?_
  intro T12 h12 X12 e12 W12
  have F4__12 := F4__11.same W12
  have E0__12 := E0__11.wr W12
  have F0__12 := F0__11.other W12 (Or.inr (slot_ne (Or.inr (tw hw 48 rfl)) (Or.inl (tw hw 60 rfl)) (by decide) (t := (.object "com/example/renkei/renkei/reader/TextStore")) (t' := (.array .int)) (by decide) (by decide)))
  have F1__12 := F1__11.other W12 (Or.inr (slot_ne (Or.inl (tw hw 52 rfl)) (Or.inl (tw hw 60 rfl)) (by decide) (t := (.array (.array .int))) (t' := (.array .int)) (by decide) (by decide)))
  have F2__12 := F2__11.other W12 (Or.inr (slot_ne (Or.inl (tw hw 56 rfl)) (Or.inl (tw hw 60 rfl)) (by decide) (t := (.array (.array .byte))) (t' := (.array .int)) (by decide) (by decide)))
  have F3__12 := F3__11.other W12 (Or.inr (slot_ne (Or.inl (tw hw 58 rfl)) (Or.inl (tw hw 60 rfl)) (by decide) (t := (.array .int)) (t' := (.array .int)) (by decide) (by decide)))
  have F5__12 := F5__11.other W12 (Or.inr (slot_ne (Or.inl (tw hw 62 rfl)) (Or.inl (tw hw 60 rfl)) (by decide) (t := (.array .int)) (t' := (.array .int)) (by decide) (by decide)))
  have A2__12 := A2__11.wr W12
  have F_blocks_b2__12 := F_blocks_b2__11.other W12 (Or.inl (Ne.symm (Nat.ne_of_lt lt_r0_b2)))
  have F_kept_b2__12 := F_kept_b2__11.other W12 (Or.inl (Ne.symm (Nat.ne_of_lt lt_r0_b2)))
  have F_remembered_b2__12 := F_remembered_b2__11.other W12 (Or.inl (Ne.symm (Nat.ne_of_lt lt_r0_b2)))
  have Z_12 := Nat.le_trans Z_11 (Nat.le_of_eq W12.size.symm)
  have O_12 := O_11.wr W12 g0
  have K_12 : Keep h0 h12 [r0] := K_11.wr W12 (Or.inl (List.mem_of_getElem? (i := 0) rfl))
  have N_12 := Fr.snoc X12 N_10 g0
  show Go _ _ _ _ _ _ _ T12 (mkF m 47 #[.val (.ref r0)] [])
  refine gAloadN X12 hx (hb hby d4_47) rfl rfl ?_
  refine gBipush X12 hx (16 : Int32) (hb hby d4_48) rfl ?_
  refine gNewArr X12 hx hZ (tw hw 44 rfl) e12 (hb hby d4_50) (by decide) (cap := 16) (by decide) (by decide) (by decide) (by decide) ?_
  intro T13 h13 b13 cA13 X13 e13 E13 g13 A13
  have lt_r0_b13 : r0 < b13 := by rw [g13]; exact E0__12.lt
  have lt_b2_b13 : b2 < b13 := by rw [g13]; exact A2__12.lt
  have g_b13 : n0 ≤ b13 := by rw [g13]; exact Z_12
  have sz_b13 : h0.size ≤ b13 := by rw [g13]; exact K_12.1
  have E0__13 := E0__12.ext E13
  have F0__13 := F0__12.ext E13
  have F1__13 := F1__12.ext E13
  have F2__13 := F2__12.ext E13
  have F3__13 := F3__12.ext E13
  have F4__13 := F4__12.ext E13
  have F5__13 := F5__12.ext E13
  have A2__13 := A2__12.ext E13
  have F_blocks_b2__13 := F_blocks_b2__12.ext E13
  have F_kept_b2__13 := F_kept_b2__12.ext E13
  have F_remembered_b2__13 := F_remembered_b2__12.ext E13
  have Z_13 := Nat.le_trans Z_12 E13.1
  have O_13 := O_12.ext E13
  have K_13 : Keep h0 h13 [r0] := K_12.ext E13
  show Go _ _ _ _ _ _ _ T13 (mkF m 52 #[.val (.ref r0)] [(.ref b13), (.ref r0)])
  refine gPutF X13 hx hZ hown (tw hw 61 rfl) e13 F5__13 E0__13 (Or.inl (tw hw 62 rfl)) (tw hw 1 rfl) (ty := (.array .int)) (by decide) rfl rfl (hb hby d4_52) ?_
  intro T14 h14 X14 e14 W14
  have F5__14 := F5__13.same W14
  have E0__14 := E0__13.wr W14
  have F0__14 := F0__13.other W14 (Or.inr (slot_ne (Or.inr (tw hw 48 rfl)) (Or.inl (tw hw 62 rfl)) (by decide) (t := (.object "com/example/renkei/renkei/reader/TextStore")) (t' := (.array .int)) (by decide) (by decide)))
  have F1__14 := F1__13.other W14 (Or.inr (slot_ne (Or.inl (tw hw 52 rfl)) (Or.inl (tw hw 62 rfl)) (by decide) (t := (.array (.array .int))) (t' := (.array .int)) (by decide) (by decide)))
  have F2__14 := F2__13.other W14 (Or.inr (slot_ne (Or.inl (tw hw 56 rfl)) (Or.inl (tw hw 62 rfl)) (by decide) (t := (.array (.array .byte))) (t' := (.array .int)) (by decide) (by decide)))
  have F3__14 := F3__13.other W14 (Or.inr (slot_ne (Or.inl (tw hw 58 rfl)) (Or.inl (tw hw 62 rfl)) (by decide) (t := (.array .int)) (t' := (.array .int)) (by decide) (by decide)))
  have F4__14 := F4__13.other W14 (Or.inr (slot_ne (Or.inl (tw hw 60 rfl)) (Or.inl (tw hw 62 rfl)) (by decide) (t := (.array .int)) (t' := (.array .int)) (by decide) (by decide)))
  have A2__14 := A2__13.wr W14
  have F_blocks_b2__14 := F_blocks_b2__13.other W14 (Or.inl (Ne.symm (Nat.ne_of_lt lt_r0_b2)))
  have F_kept_b2__14 := F_kept_b2__13.other W14 (Or.inl (Ne.symm (Nat.ne_of_lt lt_r0_b2)))
  have F_remembered_b2__14 := F_remembered_b2__13.other W14 (Or.inl (Ne.symm (Nat.ne_of_lt lt_r0_b2)))
  have Z_14 := Nat.le_trans Z_13 (Nat.le_of_eq W14.size.symm)
  have O_14 := O_13.wr W14 g0
  have K_14 : Keep h0 h14 [r0] := K_13.wr W14 (Or.inl (List.mem_of_getElem? (i := 0) rfl))
  have N_14 := Fr.snoc X14 N_12 g0
  show Go _ _ _ _ _ _ _ T14 (mkF m 55 #[.val (.ref r0)] [])
  subst e14
  exact gRetV X14 hx hlk hret (hb hby d4_55) (by decide) (by decide) ⟨rfl, N_14, K_14⟩
theorem d5_0 : decode prog_79_method_1_code 0 = .ok (.aload_n 0, 1) := by decide +kernel
theorem d5_1 : decode prog_79_method_1_code 1 = .ok (.invokespecial 1, 3) := by decide +kernel
theorem d5_4 : decode prog_79_method_1_code 4 = .ok (.aload_n 0, 1) := by decide +kernel
theorem d5_5 : decode prog_79_method_1_code 5 = .ok (.aload_n 1, 1) := by decide +kernel
theorem d5_6 : decode prog_79_method_1_code 6 = .ok (.putfield 7, 3) := by decide +kernel
theorem d5_9 : decode prog_79_method_1_code 9 = .ok (.aload_n 0, 1) := by decide +kernel
theorem d5_10 : decode prog_79_method_1_code 10 = .ok (.iload_n 2, 1) := by decide +kernel
theorem d5_11 : decode prog_79_method_1_code 11 = .ok (.putfield 13, 3) := by decide +kernel
theorem d5_14 : decode prog_79_method_1_code 14 = .ok (.return_, 1) := by decide +kernel
theorem own_pn5 : plainFor (⟨"com/example/renkei/renkei/reader/JsonValue", "<init>", "(Lcom/example/renkei/renkei/reader/ValueStore;I)V"⟩ : MethodName) = true := plainFor_of_name (by first | (simp [plainName, overriddenIn]; done) | decide +kernel)
theorem own_ef5 (r0 : Addr) (r1 : Addr) (p2 : Int32) (m : MethodId) : entryFrame m #[(.ref r0), (.ref r1), (.int p2)] 3 = mkF m 0 #[.val (.ref r0), .val (.ref r1), .val (.int p2)] [] := by first | (simp [entryFrame, mkF, argsToLocals, Value.category]; done) | rfl
theorem own_pd1 : parseMethodDescriptor "(Lcom/example/renkei/renkei/reader/ValueStore;I)V" = some ⟨[(.object "com/example/renkei/renkei/reader/ValueStore"), .int], none⟩ := by decide +kernel
set_option maxRecDepth 65536 in
set_option maxHeartbeats 40000000 in
theorem own_rm5 (l : Launch) (Z : State) (a0 : Array Value) (hw : ∀ d ∈ tables_1, d.before a0 Z = true) (r0 : Addr) (r1 : Addr) (p2 : Int32) (h0 : Heap) (n0 : Nat) (Z0 : n0 ≤ h0.size) (O0 : Old Z n0 h0) (E0 : Exa Z h0 r0 "com/example/renkei/renkei/reader/JsonValue") (g0 : n0 ≤ r0) (u0 : Value) (F0 : Fld Z h0 r0 "com/example/renkei/renkei/reader/JsonValue" "values" "Lcom/example/renkei/renkei/reader/ValueStore;" u0) (u1 : Value) (F1 : Fld Z h0 r0 "com/example/renkei/renkei/reader/JsonValue" "value" "I" u1)  :
    Met l Z (⟨"com/example/renkei/renkei/reader/JsonValue", "<init>", "(Lcom/example/renkei/renkei/reader/ValueStore;I)V"⟩ : MethodName) prog_79_method_1_code 3 none [] ({ frames := 1, cells := 0, slots := 0, locals := 12 } : Room) #[(.ref r0), (.ref r1), (.int p2)] h0 (fun v h L => v = none ∧ Fr n0 L ∧ Keep h0 h [r0] ∧ Fld Z h r0 "com/example/renkei/renkei/reader/JsonValue" "values" "Lcom/example/renkei/renkei/reader/ValueStore;" (.ref r1) ∧ Fld Z h r0 "com/example/renkei/renkei/reader/JsonValue" "value" "I" (.int p2)) := by
  refine met_of (Ls := #[.val (.ref r0), .val (.ref r1), .val (.int p2)]) own_pn5 (own_ef5 r0 r1 p2) ?_
  intro p e s m below meth c s₁ hx hby hml hown hnm hret hlk hZ X0 e0
  have N0 := Fr.nil n0
  refine gAloadN X0 hx (hb hby d5_0) rfl rfl ?_
  refine gObjInit X0 hx hZ hown (tw hw 69 rfl) (tw hw 7 rfl) (tw hw 8 rfl) e0 (by rw [hml]; rfl) (hb hby d5_1) (by decide) (W := 0) (Nat.le_of_eq rfl) (by decide) ?_
  intro T1 X1 e1
  show Go _ _ _ _ _ _ _ T1 (mkF m 4 #[.val (.ref r0), .val (.ref r1), .val (.int p2)] [])
  refine gAloadN X1 hx (hb hby d5_4) rfl rfl ?_
  refine gAloadN X1 hx (hb hby d5_5) rfl rfl ?_
  refine gPutF X1 hx hZ hown (tw hw 70 rfl) e1 F0 E0 (Or.inr ⟨(tw hw 71 rfl), rfl, hnm⟩) (tw hw 64 rfl) (ty := (.object "com/example/renkei/renkei/reader/ValueStore")) (by decide) rfl rfl (hb hby d5_6) ?_
  intro T2 h2 X2 e2 W2
  have F0__2 := F0.same W2
  have E0__2 := E0.wr W2
  have F1__2 := F1.other W2 (Or.inr (slot_ne (Or.inr (tw hw 73 rfl)) (Or.inr (tw hw 71 rfl)) (by decide) (t := .int) (t' := (.object "com/example/renkei/renkei/reader/ValueStore")) (by decide) (by decide)))
  have Z_2 := Nat.le_trans Z0 (Nat.le_of_eq W2.size.symm)
  have O_2 := O0.wr W2 g0
  have K_2 : Keep h0 h2 [r0] := (Keep.refl h0 [r0]).wr W2 (Or.inl (List.mem_of_getElem? (i := 0) rfl))
  have N_2 := Fr.snoc X2 N0 g0
  show Go _ _ _ _ _ _ _ T2 (mkF m 9 #[.val (.ref r0), .val (.ref r1), .val (.int p2)] [])
  refine gAloadN X2 hx (hb hby d5_9) rfl rfl ?_
  refine gIloadN X2 hx (hb hby d5_10) rfl ?_
  refine gPutF X2 hx hZ hown (tw hw 72 rfl) e2 F1__2 E0__2 (Or.inr ⟨(tw hw 73 rfl), rfl, hnm⟩) (tw hw 64 rfl) (ty := .int) (by decide) rfl rfl (hb hby d5_11) ?_
  intro T3 h3 X3 e3 W3
  have F1__3 := F1__2.same W3
  have E0__3 := E0__2.wr W3
  have F0__3 := F0__2.other W3 (Or.inr (slot_ne (Or.inr (tw hw 71 rfl)) (Or.inr (tw hw 73 rfl)) (by decide) (t := (.object "com/example/renkei/renkei/reader/ValueStore")) (t' := .int) (by decide) (by decide)))
  have Z_3 := Nat.le_trans Z_2 (Nat.le_of_eq W3.size.symm)
  have O_3 := O_2.wr W3 g0
  have K_3 : Keep h0 h3 [r0] := K_2.wr W3 (Or.inl (List.mem_of_getElem? (i := 0) rfl))
  have N_3 := Fr.snoc X3 N_2 g0
  show Go _ _ _ _ _ _ _ T3 (mkF m 14 #[.val (.ref r0), .val (.ref r1), .val (.int p2)] [])
  subst e3
  exact gRetV X3 hx hlk hret (hb hby d5_14) (by decide) (by decide) ⟨rfl, N_3, K_3, F0__3, F1__3⟩
theorem d6_0 : decode jdk_18_method_1_code 0 = .ok (.aload_n 0, 1) := by decide +kernel
theorem d6_1 : decode jdk_18_method_1_code 1 = .ok (.invokespecial 1, 3) := by decide +kernel
theorem d6_4 : decode jdk_18_method_1_code 4 = .ok (.return_, 1) := by decide +kernel
theorem own_pn6 : plainFor (⟨"java/lang/Number", "<init>", "()V"⟩ : MethodName) = true := plainFor_of_name (by first | (simp [plainName, overriddenIn]; done) | decide +kernel)
theorem own_ef6 (r0 : Addr) (m : MethodId) : entryFrame m #[(.ref r0)] 1 = mkF m 0 #[.val (.ref r0)] [] := by first | (simp [entryFrame, mkF, argsToLocals, Value.category]; done) | rfl
set_option maxRecDepth 65536 in
set_option maxHeartbeats 40000000 in
theorem own_rm6 (l : Launch) (Z : State) (a0 : Array Value) (hw : ∀ d ∈ tables_1, d.before a0 Z = true) (r0 : Addr) (h0 : Heap) (n0 : Nat) (Z0 : n0 ≤ h0.size) (O0 : Old Z n0 h0) (E0 : Exa Z h0 r0 "java/lang/Integer") (g0 : n0 ≤ r0) (u0 : Value) (F0 : Fld Z h0 r0 "java/lang/Integer" "value" "I" u0)  :
    Met l Z (⟨"java/lang/Number", "<init>", "()V"⟩ : MethodName) jdk_18_method_1_code 1 none [] ({ frames := 1, cells := 0, slots := 0, locals := 12 } : Room) #[(.ref r0)] h0 (fun v h L => v = none ∧ Fr n0 L ∧ Keep h0 h [r0]) := by
  refine met_of (Ls := #[.val (.ref r0)]) own_pn6 (own_ef6 r0) ?_
  intro p e s m below meth c s₁ hx hby hml hown hnm hret hlk hZ X0 e0
  have N0 := Fr.nil n0
  refine gAloadN X0 hx (hb hby d6_0) rfl rfl ?_
  refine gObjInit X0 hx hZ hown (tw hw 99 rfl) (tw hw 7 rfl) (tw hw 8 rfl) e0 (by rw [hml]; rfl) (hb hby d6_1) (by decide) (W := 0) (Nat.le_of_eq rfl) (by decide) ?_
  intro T1 X1 e1
  show Go _ _ _ _ _ _ _ T1 (mkF m 4 #[.val (.ref r0)] [])
  exact gRetV X1 hx hlk hret (hb hby d6_4) (by decide) (by decide) ⟨rfl, N0, by rw [e1]; exact (Keep.refl h0 [r0])⟩
theorem d7_0 : decode jdk_33_method_23_code 0 = .ok (.aload_n 0, 1) := by decide +kernel
theorem d7_1 : decode jdk_33_method_23_code 1 = .ok (.invokespecial 202, 3) := by decide +kernel
theorem d7_4 : decode jdk_33_method_23_code 4 = .ok (.aload_n 0, 1) := by decide +kernel
theorem d7_5 : decode jdk_33_method_23_code 5 = .ok (.iload_n 1, 1) := by decide +kernel
theorem d7_6 : decode jdk_33_method_23_code 6 = .ok (.putfield 205, 3) := by decide +kernel
theorem d7_9 : decode jdk_33_method_23_code 9 = .ok (.return_, 1) := by decide +kernel
theorem own_pn7 : plainFor (⟨"java/lang/Integer", "<init>", "(I)V"⟩ : MethodName) = true := plainFor_of_name (by first | (simp [plainName, overriddenIn]; done) | decide +kernel)
theorem own_ef7 (r0 : Addr) (p1 : Int32) (m : MethodId) : entryFrame m #[(.ref r0), (.int p1)] 2 = mkF m 0 #[.val (.ref r0), .val (.int p1)] [] := by first | (simp [entryFrame, mkF, argsToLocals, Value.category]; done) | rfl
theorem own_pd2 : parseMethodDescriptor "(I)V" = some ⟨[.int], none⟩ := by decide +kernel
set_option maxRecDepth 65536 in
set_option maxHeartbeats 40000000 in
theorem own_rm7 (l : Launch) (Z : State) (a0 : Array Value) (hw : ∀ d ∈ tables_1, d.before a0 Z = true) (r0 : Addr) (p1 : Int32) (h0 : Heap) (n0 : Nat) (Z0 : n0 ≤ h0.size) (O0 : Old Z n0 h0) (E0 : Exa Z h0 r0 "java/lang/Integer") (g0 : n0 ≤ r0) (u0 : Value) (F0 : Fld Z h0 r0 "java/lang/Integer" "value" "I" u0)  :
    Met l Z (⟨"java/lang/Integer", "<init>", "(I)V"⟩ : MethodName) jdk_33_method_23_code 2 none [] ({ frames := 2, cells := 0, slots := 0, locals := 24 } : Room) #[(.ref r0), (.int p1)] h0 (fun v h L => v = none ∧ Fr n0 L ∧ Keep h0 h [r0]) := by
  refine met_of (Ls := #[.val (.ref r0), .val (.int p1)]) own_pn7 (own_ef7 r0 p1) ?_
  intro p e s m below meth c s₁ hx hby hml hown hnm hret hlk hZ X0 e0
  have N0 := Fr.nil n0
  refine gAloadN X0 hx (hb hby d7_0) rfl rfl ?_
  refine gInit X0 hx hZ (y := (⟨"java/lang/Number", "<init>", "()V"⟩ : MethodName)) (a := r0) hown rfl (by decide) (tw hw 93 rfl) (tw hw 94 rfl) (tw hw 97 rfl) (tw hw 98 rfl) (own_rm6 l Z a0 hw r0 h0 n0 Z0 O0 E0 g0 _ F0) e0 (by rw [hml]; rfl) (argsL := []) (rest := []) (W := 0) (lenOf own_pd0 rfl) rfl (Nat.le_of_eq rfl) (by decide) (by decide) (by decide) (by decide) (hb hby d7_1) ?_
  rintro _ T1 L1 X1 ⟨rfl, Nq1, Kq1⟩
  have N_1 := Fr.app N0 Nq1
  have E0__1 := E0.keep Kq1
  obtain ⟨u1_F0__1, F0__1⟩ := own_keepAny F0 Kq1
  have Z_1 := Nat.le_trans Z0 Kq1.1
  have O_1 := O0.keep Kq1 (allS g0 all0)
  have K_1 : Keep h0 T1.heap [r0] := (Keep.refl h0 [r0]).trans Kq1 (allS (Or.inl (List.mem_of_getElem? (i := 0) rfl)) all0)
  show Go _ _ _ _ _ _ _ T1 (mkF m 4 #[.val (.ref r0), .val (.int p1)] [])
  refine gAloadN X1 hx (hb hby d7_4) rfl rfl ?_
  refine gIloadN X1 hx (hb hby d7_5) rfl ?_
  refine gPutF X1 hx hZ hown (tw hw 100 rfl) rfl F0__1 E0__1 (Or.inr ⟨(tw hw 101 rfl), rfl, hnm⟩) (tw hw 88 rfl) (ty := .int) (by decide) rfl rfl (hb hby d7_6) ?_
  intro T2 h2 X2 e2 W2
  have F0__2 := F0__1.same W2
  have E0__2 := E0__1.wr W2
  have Z_2 := Nat.le_trans Z_1 (Nat.le_of_eq W2.size.symm)
  have O_2 := O_1.wr W2 g0
  have K_2 : Keep h0 h2 [r0] := K_1.wr W2 (Or.inl (List.mem_of_getElem? (i := 0) rfl))
  have N_2 := Fr.snoc X2 N_1 g0
  show Go _ _ _ _ _ _ _ T2 (mkF m 9 #[.val (.ref r0), .val (.int p1)] [])
  subst e2
  exact gRetV X2 hx hlk hret (hb hby d7_9) (by decide) (by decide) ⟨rfl, N_2, K_2⟩
theorem d8_0 : decode jdk_33_method_22_code 0 = .ok (.iload_n 0, 1) := by decide +kernel
theorem d8_1 : decode jdk_33_method_22_code 1 = .ok (.bipush (-128), 2) := by decide +kernel
theorem d8_3 : decode jdk_33_method_22_code 3 = .ok (.if_icmp .lt 20, 3) := by decide +kernel
theorem d8_6 : decode jdk_33_method_22_code 6 = .ok (.iload_n 0, 1) := by decide +kernel
theorem d8_7 : decode jdk_33_method_22_code 7 = .ok (.getstatic 191, 3) := by decide +kernel
theorem d8_10 : decode jdk_33_method_22_code 10 = .ok (.if_icmp .gt 13, 3) := by decide +kernel
theorem d8_13 : decode jdk_33_method_22_code 13 = .ok (.getstatic 195, 3) := by decide +kernel
theorem d8_16 : decode jdk_33_method_22_code 16 = .ok (.iload_n 0, 1) := by decide +kernel
theorem d8_17 : decode jdk_33_method_22_code 17 = .ok (.sipush 128, 3) := by decide +kernel
theorem d8_20 : decode jdk_33_method_22_code 20 = .ok (.iadd, 1) := by decide +kernel
theorem d8_21 : decode jdk_33_method_22_code 21 = .ok (.aaload, 1) := by decide +kernel
theorem d8_22 : decode jdk_33_method_22_code 22 = .ok (.areturn, 1) := by decide +kernel
theorem d8_23 : decode jdk_33_method_22_code 23 = .ok (.new 1, 3) := by decide +kernel
theorem d8_26 : decode jdk_33_method_22_code 26 = .ok (.dup, 1) := by decide +kernel
theorem d8_27 : decode jdk_33_method_22_code 27 = .ok (.iload_n 0, 1) := by decide +kernel
theorem d8_28 : decode jdk_33_method_22_code 28 = .ok (.invokespecial 199, 3) := by decide +kernel
theorem d8_31 : decode jdk_33_method_22_code 31 = .ok (.areturn, 1) := by decide +kernel
theorem own_pn8 : plainFor (⟨"java/lang/Integer", "valueOf", "(I)Ljava/lang/Integer;"⟩ : MethodName) = true := plainFor_of_name (by first | (simp [plainName, overriddenIn]; done) | decide +kernel)
theorem own_ef8 (p0 : Int32) (m : MethodId) : entryFrame m #[(.int p0)] 1 = mkF m 0 #[.val (.int p0)] [] := by first | (simp [entryFrame, mkF, argsToLocals, Value.category]; done) | rfl
theorem own_pd3 : parseMethodDescriptor "(I)Ljava/lang/Integer;" = some ⟨[.int], some (.object "java/lang/Integer")⟩ := by decide +kernel
set_option maxRecDepth 65536 in
set_option maxHeartbeats 40000000 in
theorem own_rm8 (l : Launch) (Z : State) (a0 : Array Value) (hw : ∀ d ∈ tables_1, d.before a0 Z = true) (p0 : Int32) (h0 : Heap) (n0 : Nat) (Z0 : n0 ≤ h0.size) (O0 : Old Z n0 h0) (SH : Sta Z Z.heap "java/lang/Integer$IntegerCache" "high" "I" (.int (127 : Int32))) (cc : Addr) (SC : Sta Z Z.heap "java/lang/Integer$IntegerCache" "cache" "[Ljava/lang/Integer;" (.ref cc)) (cl : Cell) (val : Int32 → Value) (BX : Bxs Z cc cl "java/lang/Integer" "I" (256 : Int32) val) :
    Met l Z (⟨"java/lang/Integer", "valueOf", "(I)Ljava/lang/Integer;"⟩ : MethodName) jdk_33_method_22_code 1 (some (.object "java/lang/Integer")) [] ({ frames := 3, cells := 1, slots := 1, locals := 38 } : Room) #[(.int p0)] h0 (fun v h L => ∃ b : Addr, v = some (.ref b) ∧ Fr n0 L ∧ Keep h0 h [] ∧ Exa Z h b "java/lang/Integer") := by
  refine met_of (Ls := #[.val (.int p0)]) own_pn8 (own_ef8 p0) ?_
  intro p e s m below meth c s₁ hx hby hml hown hnm hret hlk hZ X0 e0
  have N0 := Fr.nil n0
  refine gIloadN X0 hx (hb hby d8_0) rfl ?_
  refine gBipush X0 hx (-128 : Int32) (hb hby d8_1) rfl ?_
  refine gIcmp X0 hx 23 (hb hby d8_3) (by decide) (by decide) (fun hT => ?_) (fun hT => ?_)
  · have hc1 := o_ltT hT
    show Go _ _ _ _ _ _ _ s₁ (mkF m 23 #[.val (.int p0)] [])
    refine gNew X0 hx hZ hown (tw hw 87 rfl) (tw hw 88 rfl) (tw hw 83 rfl) e0 (hb hby d8_23) (by decide) (by decide) ?_
    intro T2 h2 b2 X2 e2 E2 g2 A2 D2
    have g_b2 : n0 ≤ b2 := by rw [g2]; exact Z0
    have sz_b2 : h0.size ≤ b2 := by rw [g2]; exact (Keep.refl h0 []).1
    have Z_2 := Nat.le_trans Z0 E2.1
    have O_2 := O0.ext E2
    have K_2 : Keep h0 h2 [] := (Keep.refl h0 []).ext E2
    have F_value_b2 : Fld Z h2 b2 "java/lang/Integer" "value" "I" (.int (0 : Int32)) := D2 (Or.inr (tw hw 101 rfl)) (ty := .int) (by decide)
    show Go _ _ _ _ _ _ _ T2 (mkF m 26 #[.val (.int p0)] [(.ref b2)])
    refine gDup X2 hx (hb hby d8_26) rfl ?_
    refine gIloadN X2 hx (hb hby d8_27) rfl ?_
    refine gInit X2 hx hZ (y := (⟨"java/lang/Integer", "<init>", "(I)V"⟩ : MethodName)) (a := b2) hown rfl (by decide) (tw hw 89 rfl) (tw hw 90 rfl) (tw hw 83 rfl) (tw hw 92 rfl) (own_rm7 l Z a0 hw b2 p0 h2 n0 Z_2 O_2 A2 g_b2 _ F_value_b2) e2 (by rw [hml]; rfl) (argsL := [(.int p0)]) (rest := [(.ref b2)]) (W := 1) (lenOf own_pd2 rfl) rfl (Nat.le_of_eq rfl) (by decide) (by decide) (by decide) (by decide) (hb hby d8_28) ?_
    rintro _ T3 L3 X3 ⟨rfl, Nq3, Kq3⟩
    have N_3 := Fr.app N0 Nq3
    have A2__3 := A2.keep Kq3
    obtain ⟨u3_F_value_b2__3, F_value_b2__3⟩ := own_keepAny F_value_b2 Kq3
    have Z_3 := Nat.le_trans Z_2 Kq3.1
    have O_3 := O_2.keep Kq3 (allS g_b2 all0)
    have K_3 : Keep h0 T3.heap [] := K_2.trans Kq3 (allS (Or.inr sz_b2) all0)
    show Go _ _ _ _ _ _ _ T3 (mkF m 31 #[.val (.int p0)] [(.ref b2)])
    exact gRetA X3 hx hlk hret rfl rfl rfl (hb hby d8_31) (by decide) (by decide) ⟨b2, rfl, N_3, K_3, A2__3⟩
  · have hc1 := o_ltF hT
    have hlo := hc1
    show Go _ _ _ _ _ _ _ s₁ (mkF m 6 #[.val (.int p0)] [])
    refine gIloadN X0 hx (hb hby d8_6) rfl ?_
    refine gGetS X0 hx hZ hown (tw hw 85 rfl) e0 (SH.ext O0.2) (hb hby d8_7) ?_
    intro T4 X4 e4
    show Go _ _ _ _ _ _ _ T4 (mkF m 10 #[.val (.int p0)] [(.int (127 : Int32)), (.int p0)])
    refine gIcmp X4 hx 23 (hb hby d8_10) (by decide) (by decide) (fun hT => ?_) (fun hT => ?_)
    · have hc5 := o_gtT hT
      show Go _ _ _ _ _ _ _ T4 (mkF m 23 #[.val (.int p0)] [])
      refine gNew X4 hx hZ hown (tw hw 87 rfl) (tw hw 88 rfl) (tw hw 83 rfl) e4 (hb hby d8_23) (by decide) (by decide) ?_
      intro T6 h6 b6 X6 e6 E6 g6 A6 D6
      have g_b6 : n0 ≤ b6 := by rw [g6]; exact Z0
      have sz_b6 : h0.size ≤ b6 := by rw [g6]; exact (Keep.refl h0 []).1
      have Z_6 := Nat.le_trans Z0 E6.1
      have O_6 := O0.ext E6
      have K_6 : Keep h0 h6 [] := (Keep.refl h0 []).ext E6
      have F_value_b6 : Fld Z h6 b6 "java/lang/Integer" "value" "I" (.int (0 : Int32)) := D6 (Or.inr (tw hw 101 rfl)) (ty := .int) (by decide)
      show Go _ _ _ _ _ _ _ T6 (mkF m 26 #[.val (.int p0)] [(.ref b6)])
      refine gDup X6 hx (hb hby d8_26) rfl ?_
      refine gIloadN X6 hx (hb hby d8_27) rfl ?_
      refine gInit X6 hx hZ (y := (⟨"java/lang/Integer", "<init>", "(I)V"⟩ : MethodName)) (a := b6) hown rfl (by decide) (tw hw 89 rfl) (tw hw 90 rfl) (tw hw 83 rfl) (tw hw 92 rfl) (own_rm7 l Z a0 hw b6 p0 h6 n0 Z_6 O_6 A6 g_b6 _ F_value_b6) e6 (by rw [hml]; rfl) (argsL := [(.int p0)]) (rest := [(.ref b6)]) (W := 1) (lenOf own_pd2 rfl) rfl (Nat.le_of_eq rfl) (by decide) (by decide) (by decide) (by decide) (hb hby d8_28) ?_
      rintro _ T7 L7 X7 ⟨rfl, Nq7, Kq7⟩
      have N_7 := Fr.app N0 Nq7
      have A6__7 := A6.keep Kq7
      obtain ⟨u7_F_value_b6__7, F_value_b6__7⟩ := own_keepAny F_value_b6 Kq7
      have Z_7 := Nat.le_trans Z_6 Kq7.1
      have O_7 := O_6.keep Kq7 (allS g_b6 all0)
      have K_7 : Keep h0 T7.heap [] := K_6.trans Kq7 (allS (Or.inr sz_b6) all0)
      show Go _ _ _ _ _ _ _ T7 (mkF m 31 #[.val (.int p0)] [(.ref b6)])
      exact gRetA X7 hx hlk hret rfl rfl rfl (hb hby d8_31) (by decide) (by decide) ⟨b6, rfl, N_7, K_7, A6__7⟩
    · have hc5 := o_gtF hT
      have hhi := hc5
      show Go _ _ _ _ _ _ _ T4 (mkF m 13 #[.val (.int p0)] [])
      refine gGetS X4 hx hZ hown (tw hw 105 rfl) e4 (SC.ext O0.2) (hb hby d8_13) ?_
      intro T8 X8 e8
      show Go _ _ _ _ _ _ _ T8 (mkF m 16 #[.val (.int p0)] [(.ref cc)])
      refine gIloadN X8 hx (hb hby d8_16) rfl ?_
      refine gSipush X8 hx (128 : Int32) (hb hby d8_17) rfl ?_
      refine gIadd X8 hx (hb hby d8_20) ?_
      refine gBox X8 hx hZ e8 BX O0.2 (own_box hlo hhi) (hb hby d8_21) ?_
      intro b9 A9
      show Go _ _ _ _ _ _ _ T8 (mkF m 22 #[.val (.int p0)] [(.ref b9)])
      exact gRetA X8 hx hlk hret rfl rfl rfl (hb hby d8_22) (by decide) (by decide) ⟨b9, rfl, N0, by rw [e8]; exact (Keep.refl h0 []), by rw [e8]; exact A9⟩
theorem d9_0 : decode prog_79_method_12_code 0 = .ok (.aload_n 1, 1) := by decide +kernel
theorem d9_1 : decode prog_79_method_12_code 1 = .ok (.instanceof 8, 3) := by decide +kernel
theorem d9_4 : decode prog_79_method_12_code 4 = .ok (.ifCond .eq 34, 3) := by decide +kernel
theorem d9_7 : decode prog_79_method_12_code 7 = .ok (.aload_n 1, 1) := by decide +kernel
theorem d9_8 : decode prog_79_method_12_code 8 = .ok (.checkcast 8, 3) := by decide +kernel
theorem d9_11 : decode prog_79_method_12_code 11 = .ok (.astore_n 2, 1) := by decide +kernel
theorem d9_12 : decode prog_79_method_12_code 12 = .ok (.aload_n 2, 1) := by decide +kernel
theorem d9_13 : decode prog_79_method_12_code 13 = .ok (.getfield 7, 3) := by decide +kernel
theorem d9_16 : decode prog_79_method_12_code 16 = .ok (.aload_n 0, 1) := by decide +kernel
theorem d9_17 : decode prog_79_method_12_code 17 = .ok (.getfield 7, 3) := by decide +kernel
theorem d9_20 : decode prog_79_method_12_code 20 = .ok (.if_acmp .ne 18, 3) := by decide +kernel
theorem d9_23 : decode prog_79_method_12_code 23 = .ok (.aload_n 2, 1) := by decide +kernel
theorem d9_24 : decode prog_79_method_12_code 24 = .ok (.getfield 13, 3) := by decide +kernel
theorem d9_27 : decode prog_79_method_12_code 27 = .ok (.aload_n 0, 1) := by decide +kernel
theorem d9_28 : decode prog_79_method_12_code 28 = .ok (.getfield 13, 3) := by decide +kernel
theorem d9_31 : decode prog_79_method_12_code 31 = .ok (.if_icmp .ne 7, 3) := by decide +kernel
theorem d9_34 : decode prog_79_method_12_code 34 = .ok (.iconst 1, 1) := by decide +kernel
theorem d9_35 : decode prog_79_method_12_code 35 = .ok (.goto 4, 3) := by decide +kernel
theorem d9_38 : decode prog_79_method_12_code 38 = .ok (.iconst 0, 1) := by decide +kernel
theorem d9_39 : decode prog_79_method_12_code 39 = .ok (.ireturn, 1) := by decide +kernel
theorem own_pn9 : plainFor (⟨"com/example/renkei/renkei/reader/JsonValue", "equals", "(Ljava/lang/Object;)Z"⟩ : MethodName) = true := plainFor_of_name (by first | (simp [plainName, overriddenIn]; done) | decide +kernel)
theorem own_ef9 (r0 : Addr) (r1 : Addr) (m : MethodId) : entryFrame m #[(.ref r0), (.ref r1)] 3 = mkF m 0 #[.val (.ref r0), .val (.ref r1), .unset] [] := by first | (simp [entryFrame, mkF, argsToLocals, Value.category]; done) | rfl
def own_eqv (vy vx : Addr) (iy ix : Int32) : Int32 := if vy = vx then (if iy = ix then (1 : Int32) else (0 : Int32)) else (0 : Int32)
theorem own_pd4 : parseMethodDescriptor "(Ljava/lang/Object;)Z" = some ⟨[(.object "java/lang/Object")], some .boolean⟩ := by decide +kernel
set_option maxRecDepth 65536 in
set_option maxHeartbeats 40000000 in
theorem own_rm9J (l : Launch) (Z : State) (a0 : Array Value) (hw : ∀ d ∈ tables_1, d.before a0 Z = true) (r0 : Addr) (r1 : Addr) (h0 : Heap) (n0 : Nat) (Z0 : n0 ≤ h0.size) (vx vy : Addr) (ix iy : Int32) (F0 : Fld Z h0 r0 "com/example/renkei/renkei/reader/JsonValue" "values" "Lcom/example/renkei/renkei/reader/ValueStore;" (.ref vx)) (G0 : Fld Z h0 r0 "com/example/renkei/renkei/reader/JsonValue" "value" "I" (.int ix)) (E1 : Exa Z h0 r1 "com/example/renkei/renkei/reader/JsonValue") (F1 : Fld Z h0 r1 "com/example/renkei/renkei/reader/JsonValue" "values" "Lcom/example/renkei/renkei/reader/ValueStore;" (.ref vy)) (G1 : Fld Z h0 r1 "com/example/renkei/renkei/reader/JsonValue" "value" "I" (.int iy))  :
    Met l Z (⟨"com/example/renkei/renkei/reader/JsonValue", "equals", "(Ljava/lang/Object;)Z"⟩ : MethodName) prog_79_method_12_code 3 (some .boolean) [] ({ frames := 0, cells := 0, slots := 0, locals := 0 } : Room) #[(.ref r0), (.ref r1)] h0 (fun v h L => v = some (.int (own_eqv vy vx iy ix)) ∧ Fr n0 L ∧ h = h0) := by
  refine met_of (Ls := #[.val (.ref r0), .val (.ref r1), .unset]) own_pn9 (own_ef9 r0 r1) ?_
  intro p e s m below meth c s₁ hx hby hml hown hnm hret hlk hZ X0 e0
  have N0 := Fr.nil n0
  refine gAloadN X0 hx (hb hby d9_0) rfl rfl ?_
  refine gInstY X0 hx hZ hown (tw hw 79 rfl) e0 (Ins.self E1) (hb hby d9_1) ?_
  intro T1 X1 e1
  show Go _ _ _ _ _ _ _ T1 (mkF m 4 #[.val (.ref r0), .val (.ref r1), .unset] [(.int (1 : Int32))])
  refine gIf X1 hx 38 (hb hby d9_4) (by decide) (by decide) (fun q => absurd (o_eqT q) (by decide)) (fun _ => ?_)
  show Go _ _ _ _ _ _ _ T1 (mkF m 7 #[.val (.ref r0), .val (.ref r1), .unset] [])
  refine gAloadN X1 hx (hb hby d9_7) rfl rfl ?_
  refine gCast X1 hx hZ hown (tw hw 79 rfl) e1 (Ins.self E1) (hb hby d9_8) ?_
  intro T2 X2 e2
  show Go _ _ _ _ _ _ _ T2 (mkF m 11 #[.val (.ref r0), .val (.ref r1), .unset] [(.ref r1)])
  refine gAstoreN X2 hx #[.val (.ref r0), .val (.ref r1), .val (.ref r1)] (hb hby d9_11) rfl rfl ?_
  refine gAloadN X2 hx (hb hby d9_12) rfl rfl ?_
  refine gGetF X2 hx hZ hown (tw hw 70 rfl) e2 F1 (hb hby d9_13) ?_
  intro T3 X3 e3
  show Go _ _ _ _ _ _ _ T3 (mkF m 16 #[.val (.ref r0), .val (.ref r1), .val (.ref r1)] [(.ref vy)])
  refine gAloadN X3 hx (hb hby d9_16) rfl rfl ?_
  refine gGetF X3 hx hZ hown (tw hw 70 rfl) e3 F0 (hb hby d9_17) ?_
  intro T4 X4 e4
  show Go _ _ _ _ _ _ _ T4 (mkF m 20 #[.val (.ref r0), .val (.ref r1), .val (.ref r1)] [(.ref vx), (.ref vy)])
  refine gAcmpNe X4 hx 38 (hb hby d9_20) (by decide) (by decide) (fun hc5 => ?_) (fun hc5 => ?_)
  · skip
    show Go _ _ _ _ _ _ _ T4 (mkF m 23 #[.val (.ref r0), .val (.ref r1), .val (.ref r1)] [])
    refine gAloadN X4 hx (hb hby d9_23) rfl rfl ?_
    refine gGetF X4 hx hZ hown (tw hw 72 rfl) e4 G1 (hb hby d9_24) ?_
    intro T6 X6 e6
    show Go _ _ _ _ _ _ _ T6 (mkF m 27 #[.val (.ref r0), .val (.ref r1), .val (.ref r1)] [(.int iy)])
    refine gAloadN X6 hx (hb hby d9_27) rfl rfl ?_
    refine gGetF X6 hx hZ hown (tw hw 72 rfl) e6 G0 (hb hby d9_28) ?_
    intro T7 X7 e7
    show Go _ _ _ _ _ _ _ T7 (mkF m 31 #[.val (.ref r0), .val (.ref r1), .val (.ref r1)] [(.int ix), (.int iy)])
    refine gIcmp X7 hx 38 (hb hby d9_31) (by decide) (by decide) (fun hT => ?_) (fun hT => ?_)
    · have hc8 := o_neT hT
      show Go _ _ _ _ _ _ _ T7 (mkF m 38 #[.val (.ref r0), .val (.ref r1), .val (.ref r1)] [])
      refine gIconst X7 hx (0 : Int32) (hb hby d9_38) rfl ?_
      exact gRetZ X7 hx hlk hret (by simp) (hb hby d9_39) (z' := (0 : Int32)) rfl (by decide) (by decide) ⟨congrArg (fun z => some (Value.int z)) (show own_eqv vy vx iy ix = (0 : Int32) from ((if_pos hc5).trans (if_neg hc8))).symm, N0, e7⟩
    · have hc8 := o_neF hT
      show Go _ _ _ _ _ _ _ T7 (mkF m 34 #[.val (.ref r0), .val (.ref r1), .val (.ref r1)] [])
      refine gIconst X7 hx (1 : Int32) (hb hby d9_34) rfl ?_
      refine gGoto X7 hx 39 (hb hby d9_35) (by decide) (by decide) ?_
      exact gRetZ X7 hx hlk hret (by simp) (hb hby d9_39) (z' := (1 : Int32)) rfl (by decide) (by decide) ⟨congrArg (fun z => some (Value.int z)) (show own_eqv vy vx iy ix = (1 : Int32) from ((if_pos hc5).trans (if_pos hc8))).symm, N0, e7⟩
  · skip
    show Go _ _ _ _ _ _ _ T4 (mkF m 38 #[.val (.ref r0), .val (.ref r1), .val (.ref r1)] [])
    refine gIconst X4 hx (0 : Int32) (hb hby d9_38) rfl ?_
    exact gRetZ X4 hx hlk hret (by simp) (hb hby d9_39) (z' := (0 : Int32)) rfl (by decide) (by decide) ⟨congrArg (fun z => some (Value.int z)) (show own_eqv vy vx iy ix = (0 : Int32) from (if_neg hc5)).symm, N0, e4⟩
set_option maxRecDepth 65536 in
set_option maxHeartbeats 40000000 in
theorem own_rm9I (l : Launch) (Z : State) (a0 : Array Value) (hw : ∀ d ∈ tables_1, d.before a0 Z = true) (r0 : Addr) (r1 : Addr) (h0 : Heap) (n0 : Nat) (Z0 : n0 ≤ h0.size) (vx : Addr) (ix : Int32) (F0 : Fld Z h0 r0 "com/example/renkei/renkei/reader/JsonValue" "values" "Lcom/example/renkei/renkei/reader/ValueStore;" (.ref vx)) (G0 : Fld Z h0 r0 "com/example/renkei/renkei/reader/JsonValue" "value" "I" (.int ix)) (E1 : Exa Z h0 r1 "java/lang/Integer") :
    Met l Z (⟨"com/example/renkei/renkei/reader/JsonValue", "equals", "(Ljava/lang/Object;)Z"⟩ : MethodName) prog_79_method_12_code 3 (some .boolean) [] ({ frames := 0, cells := 0, slots := 0, locals := 0 } : Room) #[(.ref r0), (.ref r1)] h0 (fun v h L => v = some (.int (0 : Int32)) ∧ Fr n0 L ∧ h = h0) := by
  refine met_of (Ls := #[.val (.ref r0), .val (.ref r1), .unset]) own_pn9 (own_ef9 r0 r1) ?_
  intro p e s m below meth c s₁ hx hby hml hown hnm hret hlk hZ X0 e0
  have N0 := Fr.nil n0
  refine gAloadN X0 hx (hb hby d9_0) rfl rfl ?_
  refine gInstNo X0 hx hZ hown (tw hw 79 rfl) e0 E1 (own_no (tw hw 102 rfl) (tw hw 103 rfl) (tw hw 104 rfl) (tw hw 64 rfl) (by decide) (by decide) (by decide)) (hb hby d9_1) ?_
  intro T1 X1 e1
  show Go _ _ _ _ _ _ _ T1 (mkF m 4 #[.val (.ref r0), .val (.ref r1), .unset] [(.int (0 : Int32))])
  refine gIf X1 hx 38 (hb hby d9_4) (by decide) (by decide) (fun _ => ?_) (fun q => absurd (by decide) (o_eqF q))
  show Go _ _ _ _ _ _ _ T1 (mkF m 38 #[.val (.ref r0), .val (.ref r1), .unset] [])
  refine gIconst X1 hx (0 : Int32) (hb hby d9_38) rfl ?_
  exact gRetZ X1 hx hlk hret (by simp) (hb hby d9_39) (z' := (0 : Int32)) rfl (by decide) (by decide) ⟨rfl, N0, e1⟩
theorem own_ef9N (r0 : Addr) (m : MethodId) : entryFrame m #[(.ref r0), .null] 3 = mkF m 0 #[.val (.ref r0), .val .null, .unset] [] := by first | (simp [entryFrame, mkF, argsToLocals, Value.category]; done) | rfl
set_option maxRecDepth 65536 in
set_option maxHeartbeats 40000000 in
theorem own_rm9N (l : Launch) (Z : State) (a0 : Array Value) (hw : ∀ d ∈ tables_1, d.before a0 Z = true) (r0 : Addr) (h0 : Heap) (n0 : Nat) (Z0 : n0 ≤ h0.size) (vx : Addr) (ix : Int32) (F0 : Fld Z h0 r0 "com/example/renkei/renkei/reader/JsonValue" "values" "Lcom/example/renkei/renkei/reader/ValueStore;" (.ref vx)) (G0 : Fld Z h0 r0 "com/example/renkei/renkei/reader/JsonValue" "value" "I" (.int ix))  :
    Met l Z (⟨"com/example/renkei/renkei/reader/JsonValue", "equals", "(Ljava/lang/Object;)Z"⟩ : MethodName) prog_79_method_12_code 3 (some .boolean) [] ({ frames := 0, cells := 0, slots := 0, locals := 0 } : Room) #[(.ref r0), .null] h0 (fun v h L => v = some (.int (0 : Int32)) ∧ Fr n0 L ∧ h = h0) := by
  refine met_of (Ls := #[.val (.ref r0), .val .null, .unset]) own_pn9 (own_ef9N r0) ?_
  intro p e s m below meth c s₁ hx hby hml hown hnm hret hlk hZ X0 e0
  have N0 := Fr.nil n0
  refine gAloadN X0 hx (hb hby d9_0) rfl rfl ?_
  refine gInstNull X0 hx (hb hby d9_1) ?_
  show Go _ _ _ _ _ _ _ s₁ (mkF m 4 #[.val (.ref r0), .val .null, .unset] [(.int (0 : Int32))])
  refine gIf X0 hx 38 (hb hby d9_4) (by decide) (by decide) (fun _ => ?_) (fun q => absurd (by decide) (o_eqF q))
  show Go _ _ _ _ _ _ _ s₁ (mkF m 38 #[.val (.ref r0), .val .null, .unset] [])
  refine gIconst X0 hx (0 : Int32) (hb hby d9_38) rfl ?_
  exact gRetZ X0 hx hlk hret (by simp) (hb hby d9_39) (z' := (0 : Int32)) rfl (by decide) (by decide) ⟨rfl, N0, e0⟩
theorem own_q1 {v : Addr} {i j : Int32} (h : i = j) : own_eqv v v j i = (1 : Int32) := (if_pos rfl).trans (if_pos h.symm)
theorem own_q0 {v : Addr} {i j : Int32} (h : ¬ i = j) : own_eqv v v j i = (0 : Int32) := (if_pos rfl).trans (if_neg fun q => h q.symm)
theorem own_qn {v w : Addr} {i j : Int32} (h : v ≠ w) : own_eqv v w i j = (0 : Int32) := if_neg h
theorem own_qs (v : Addr) (i : Int32) : ¬ own_eqv v v i i = (0 : Int32) := by rw [own_q1 rfl]; decide
theorem own_small {Z : State} {args : Array Value} {t : Term} {a : Addr} {cl : Cell} {z : Int32} (ht : t.eval args Z none [] Z = some (.ref a)) (ha : Z.arrayAt? a = some cl) (h : (Term.length t).eval args Z none [] Z = some (.int z)) : cl.slots.size < 2 ^ 31 ∧ cl.slots.size.toInt32 = z := by
  by_cases q : cl.slots.size < 2 ^ 31
  · rw [len_f ht ha q] at h
    exact ⟨q, by injection (Option.some.inj h)⟩
  · exfalso
    simp [Term.eval, ht, ha, q] at h
theorem own_sub {Z : State} {args : Array Value} {idx : List Nat} {t : Term} {j : Int32} (h : t.eval args Z none idx Z = some (.int j)) : (Term.sub t (Term.int (128 : Int32))).eval args Z none idx Z = some (.int (j - (128 : Int32))) := by simp [Term.eval, h]
theorem own_pn10 : plainFor x = true := plainFor_of_name (by first | (simp [plainName, overriddenIn]; done) | decide +kernel)
theorem own_ef10 (p0 : Int32) (p1 : Int32) (p2 : Int32) (m : MethodId) : entryFrame m #[(.int p0), (.int p1), (.int p2)] maxLocals = mkF m 0 #[.val (.int p0), .val (.int p1), .val (.int p2), .unset, .unset, .unset, .unset, .unset, .unset, .unset, .unset, .unset, .unset] [] := by first | (simp [entryFrame, mkF, argsToLocals, Value.category, maxLocals]; done) | rfl
theorem own_pd5 : parseMethodDescriptor "(III)Z" = some ⟨[.int, .int, .int], some .boolean⟩ := by decide +kernel
set_option maxRecDepth 65536 in
set_option maxHeartbeats 40000000 in
theorem own_rm10 (l : Launch) (Z : State) (a0 : Array Value) (hw : ∀ d ∈ tables_1, d.before a0 Z = true) (p0 : Int32) (p1 : Int32) (p2 : Int32) (h0 : Heap) (n0 : Nat) (Z0 : n0 ≤ h0.size) (O0 : Old Z n0 h0) (dd : Addr) (S0 : Sta Z Z.heap "java/util/ArrayList" "DEFAULTCAPACITY_EMPTY_ELEMENTDATA" "[Ljava/lang/Object;" (.ref dd)) (SH : Sta Z Z.heap "java/lang/Integer$IntegerCache" "high" "I" (.int (127 : Int32))) (cc : Addr) (SC : Sta Z Z.heap "java/lang/Integer$IntegerCache" "cache" "[Ljava/lang/Integer;" (.ref cc)) (cl : Cell) (val : Int32 → Value) (BX : Bxs Z cc cl "java/lang/Integer" "I" (256 : Int32) val) :
    Met l Z x code maxLocals ret tables_1 room_1 #[(.int p0), (.int p1), (.int p2)] h0 (fun v h L => v = some (.int 1) ∧ Fr n0 L) := by
  refine met_of (Ls := #[.val (.int p0), .val (.int p1), .val (.int p2), .unset, .unset, .unset, .unset, .unset, .unset, .unset, .unset, .unset, .unset]) own_pn10 (own_ef10 p0 p1 p2) ?_
  intro p e s m below meth c s₁ hx hby hml hown hnm hret hlk hZ X0 e0
  have N0 := Fr.nil n0
  refine gNew X0 hx hZ hown (tw hw 0 rfl) (tw hw 1 rfl) (tw hw 2 rfl) e0 (hb hby at_0) (by decide) (by decide) ?_
  intro T1 h1 b1 X1 e1 E1 g1 A1 D1
  have g_b1 : n0 ≤ b1 := by rw [g1]; exact Z0
  have Z_1 := Nat.le_trans Z0 E1.1
  have O_1 := O0.ext E1
  have F_texts_b1 : Fld Z h1 b1 "com/example/renkei/renkei/reader/ValueStore" "texts" "Lcom/example/renkei/renkei/reader/TextStore;" .null := D1 (Or.inr (tw hw 48 rfl)) (ty := (.object "com/example/renkei/renkei/reader/TextStore")) (by decide)
  have F_ints_b1 : Fld Z h1 b1 "com/example/renkei/renkei/reader/ValueStore" "ints" "[[I" .null := D1 (Or.inl (tw hw 52 rfl)) (ty := (.array (.array .int))) (by decide)
  have F_typesAndSteps_b1 : Fld Z h1 b1 "com/example/renkei/renkei/reader/ValueStore" "typesAndSteps" "[[B" .null := D1 (Or.inl (tw hw 56 rfl)) (ty := (.array (.array .byte))) (by decide)
  have F_keptLines_b1 : Fld Z h1 b1 "com/example/renkei/renkei/reader/ValueStore" "keptLines" "[I" .null := D1 (Or.inl (tw hw 58 rfl)) (ty := (.array .int)) (by decide)
  have F_farValues_b1 : Fld Z h1 b1 "com/example/renkei/renkei/reader/ValueStore" "farValues" "[I" .null := D1 (Or.inl (tw hw 60 rfl)) (ty := (.array .int)) (by decide)
  have F_farLines_b1 : Fld Z h1 b1 "com/example/renkei/renkei/reader/ValueStore" "farLines" "[I" .null := D1 (Or.inl (tw hw 62 rfl)) (ty := (.array .int)) (by decide)
  show Go _ _ _ _ _ _ _ T1 (mkF m 3 #[.val (.int p0), .val (.int p1), .val (.int p2), .unset, .unset, .unset, .unset, .unset, .unset, .unset, .unset, .unset, .unset] [(.ref b1)])
  refine gDup X1 hx (hb hby at_3) rfl ?_
  refine gInit X1 hx hZ (y := (⟨"com/example/renkei/renkei/reader/ValueStore", "<init>", "()V"⟩ : MethodName)) (a := b1) hown rfl (by decide) (tw hw 3 rfl) (tw hw 4 rfl) (tw hw 2 rfl) (tw hw 5 rfl) (own_rm4 l Z a0 hw b1 h1 n0 Z_1 O_1 dd S0 A1 g_b1 _ F_texts_b1 _ F_ints_b1 _ F_typesAndSteps_b1 _ F_keptLines_b1 _ F_farValues_b1 _ F_farLines_b1) e1 (by rw [hml]; rfl) (argsL := []) (rest := [(.ref b1)]) (W := 1) (lenOf own_pd0 rfl) rfl (Nat.le_of_eq rfl) (by decide) (by decide) (by decide) (by decide) (hb hby at_4) ?_
  rintro _ T2 L2 X2 ⟨rfl, Nq2, Kq2⟩
  have N_2 := Fr.app N0 Nq2
  have A1__2 := A1.keep Kq2
  obtain ⟨u2_F_texts_b1__2, F_texts_b1__2⟩ := own_keepAny F_texts_b1 Kq2
  obtain ⟨u2_F_ints_b1__2, F_ints_b1__2⟩ := own_keepAny F_ints_b1 Kq2
  obtain ⟨u2_F_typesAndSteps_b1__2, F_typesAndSteps_b1__2⟩ := own_keepAny F_typesAndSteps_b1 Kq2
  obtain ⟨u2_F_keptLines_b1__2, F_keptLines_b1__2⟩ := own_keepAny F_keptLines_b1 Kq2
  obtain ⟨u2_F_farValues_b1__2, F_farValues_b1__2⟩ := own_keepAny F_farValues_b1 Kq2
  obtain ⟨u2_F_farLines_b1__2, F_farLines_b1__2⟩ := own_keepAny F_farLines_b1 Kq2
  have Z_2 := Nat.le_trans Z_1 Kq2.1
  have O_2 := O_1.keep Kq2 (allS g_b1 all0)
  show Go _ _ _ _ _ _ _ T2 (mkF m 7 #[.val (.int p0), .val (.int p1), .val (.int p2), .unset, .unset, .unset, .unset, .unset, .unset, .unset, .unset, .unset, .unset] [(.ref b1)])
  refine gAstoreN X2 hx #[.val (.int p0), .val (.int p1), .val (.int p2), .val (.ref b1), .unset, .unset, .unset, .unset, .unset, .unset, .unset, .unset, .unset] (hb hby at_7) rfl rfl ?_
  refine gNew X2 hx hZ hown (tw hw 0 rfl) (tw hw 1 rfl) (tw hw 2 rfl) rfl (hb hby at_8) (by decide) (by decide) ?_
  intro T3 h3 b3 X3 e3 E3 g3 A3 D3
  have lt_b1_b3 : b1 < b3 := by rw [g3]; exact A1__2.lt
  have g_b3 : n0 ≤ b3 := by rw [g3]; exact Z_2
  have A1__3 := A1__2.ext E3
  have F_texts_b1__3 := F_texts_b1__2.ext E3
  have F_ints_b1__3 := F_ints_b1__2.ext E3
  have F_typesAndSteps_b1__3 := F_typesAndSteps_b1__2.ext E3
  have F_keptLines_b1__3 := F_keptLines_b1__2.ext E3
  have F_farValues_b1__3 := F_farValues_b1__2.ext E3
  have F_farLines_b1__3 := F_farLines_b1__2.ext E3
  have Z_3 := Nat.le_trans Z_2 E3.1
  have O_3 := O_2.ext E3
  have F_texts_b3 : Fld Z h3 b3 "com/example/renkei/renkei/reader/ValueStore" "texts" "Lcom/example/renkei/renkei/reader/TextStore;" .null := D3 (Or.inr (tw hw 48 rfl)) (ty := (.object "com/example/renkei/renkei/reader/TextStore")) (by decide)
  have F_ints_b3 : Fld Z h3 b3 "com/example/renkei/renkei/reader/ValueStore" "ints" "[[I" .null := D3 (Or.inl (tw hw 52 rfl)) (ty := (.array (.array .int))) (by decide)
  have F_typesAndSteps_b3 : Fld Z h3 b3 "com/example/renkei/renkei/reader/ValueStore" "typesAndSteps" "[[B" .null := D3 (Or.inl (tw hw 56 rfl)) (ty := (.array (.array .byte))) (by decide)
  have F_keptLines_b3 : Fld Z h3 b3 "com/example/renkei/renkei/reader/ValueStore" "keptLines" "[I" .null := D3 (Or.inl (tw hw 58 rfl)) (ty := (.array .int)) (by decide)
  have F_farValues_b3 : Fld Z h3 b3 "com/example/renkei/renkei/reader/ValueStore" "farValues" "[I" .null := D3 (Or.inl (tw hw 60 rfl)) (ty := (.array .int)) (by decide)
  have F_farLines_b3 : Fld Z h3 b3 "com/example/renkei/renkei/reader/ValueStore" "farLines" "[I" .null := D3 (Or.inl (tw hw 62 rfl)) (ty := (.array .int)) (by decide)
  show Go _ _ _ _ _ _ _ T3 (mkF m 11 #[.val (.int p0), .val (.int p1), .val (.int p2), .val (.ref b1), .unset, .unset, .unset, .unset, .unset, .unset, .unset, .unset, .unset] [(.ref b3)])
  refine gDup X3 hx (hb hby at_11) rfl ?_
  refine gInit X3 hx hZ (y := (⟨"com/example/renkei/renkei/reader/ValueStore", "<init>", "()V"⟩ : MethodName)) (a := b3) hown rfl (by decide) (tw hw 3 rfl) (tw hw 4 rfl) (tw hw 2 rfl) (tw hw 5 rfl) (own_rm4 l Z a0 hw b3 h3 n0 Z_3 O_3 dd S0 A3 g_b3 _ F_texts_b3 _ F_ints_b3 _ F_typesAndSteps_b3 _ F_keptLines_b3 _ F_farValues_b3 _ F_farLines_b3) e3 (by rw [hml]; rfl) (argsL := []) (rest := [(.ref b3)]) (W := 1) (lenOf own_pd0 rfl) rfl (Nat.le_of_eq rfl) (by decide) (by decide) (by decide) (by decide) (hb hby at_12) ?_
  rintro _ T4 L4 X4 ⟨rfl, Nq4, Kq4⟩
  have N_4 := Fr.app N_2 Nq4
  have A1__4 := A1__3.keep Kq4
  have F_texts_b1__4 := F_texts_b1__3.keep Kq4 (ninS (Nat.ne_of_lt lt_b1_b3) nin0)
  have F_ints_b1__4 := F_ints_b1__3.keep Kq4 (ninS (Nat.ne_of_lt lt_b1_b3) nin0)
  have F_typesAndSteps_b1__4 := F_typesAndSteps_b1__3.keep Kq4 (ninS (Nat.ne_of_lt lt_b1_b3) nin0)
  have F_keptLines_b1__4 := F_keptLines_b1__3.keep Kq4 (ninS (Nat.ne_of_lt lt_b1_b3) nin0)
  have F_farValues_b1__4 := F_farValues_b1__3.keep Kq4 (ninS (Nat.ne_of_lt lt_b1_b3) nin0)
  have F_farLines_b1__4 := F_farLines_b1__3.keep Kq4 (ninS (Nat.ne_of_lt lt_b1_b3) nin0)
  have A3__4 := A3.keep Kq4
  obtain ⟨u4_F_texts_b3__4, F_texts_b3__4⟩ := own_keepAny F_texts_b3 Kq4
  obtain ⟨u4_F_ints_b3__4, F_ints_b3__4⟩ := own_keepAny F_ints_b3 Kq4
  obtain ⟨u4_F_typesAndSteps_b3__4, F_typesAndSteps_b3__4⟩ := own_keepAny F_typesAndSteps_b3 Kq4
  obtain ⟨u4_F_keptLines_b3__4, F_keptLines_b3__4⟩ := own_keepAny F_keptLines_b3 Kq4
  obtain ⟨u4_F_farValues_b3__4, F_farValues_b3__4⟩ := own_keepAny F_farValues_b3 Kq4
  obtain ⟨u4_F_farLines_b3__4, F_farLines_b3__4⟩ := own_keepAny F_farLines_b3 Kq4
  have Z_4 := Nat.le_trans Z_3 Kq4.1
  have O_4 := O_3.keep Kq4 (allS g_b3 all0)
  show Go _ _ _ _ _ _ _ T4 (mkF m 15 #[.val (.int p0), .val (.int p1), .val (.int p2), .val (.ref b1), .unset, .unset, .unset, .unset, .unset, .unset, .unset, .unset, .unset] [(.ref b3)])
  refine gAstore X4 hx #[.val (.int p0), .val (.int p1), .val (.int p2), .val (.ref b1), .val (.ref b3), .unset, .unset, .unset, .unset, .unset, .unset, .unset, .unset] (hb hby at_15) rfl rfl ?_
  refine gIloadN X4 hx (hb hby at_17) rfl ?_
  refine gIconst X4 hx (1 : Int32) (hb hby at_18) rfl ?_
  refine gIand X4 hx (hb hby at_19) ?_
  refine gIf X4 hx 27 (hb hby at_20) (by decide) (by decide) (fun hT => ?_) (fun hT => ?_)
  · have hc5 := o_eqT hT
    show Go _ _ _ _ _ _ _ T4 (mkF m 27 #[.val (.int p0), .val (.int p1), .val (.int p2), .val (.ref b1), .val (.ref b3), .unset, .unset, .unset, .unset, .unset, .unset, .unset, .unset] [])
    refine gIconst X4 hx (0 : Int32) (hb hby at_27) rfl ?_
    refine gIstore X4 hx #[.val (.int p0), .val (.int p1), .val (.int p2), .val (.ref b1), .val (.ref b3), .val (.int (0 : Int32)), .unset, .unset, .unset, .unset, .unset, .unset, .unset] (hb hby at_28) rfl ?_
    refine gIloadN X4 hx (hb hby at_30) rfl ?_
    refine gIconst X4 hx (2 : Int32) (hb hby at_31) rfl ?_
    refine gIand X4 hx (hb hby at_32) ?_
    refine gIf X4 hx 40 (hb hby at_33) (by decide) (by decide) (fun hT => ?_) (fun hT => ?_)
    · have hc6 := o_eqT hT
      show Go _ _ _ _ _ _ _ T4 (mkF m 40 #[.val (.int p0), .val (.int p1), .val (.int p2), .val (.ref b1), .val (.ref b3), .val (.int (0 : Int32)), .unset, .unset, .unset, .unset, .unset, .unset, .unset] [])
      refine gIconst X4 hx (0 : Int32) (hb hby at_40) rfl ?_
      refine gIstore X4 hx #[.val (.int p0), .val (.int p1), .val (.int p2), .val (.ref b1), .val (.ref b3), .val (.int (0 : Int32)), .val (.int (0 : Int32)), .unset, .unset, .unset, .unset, .unset, .unset] (hb hby at_41) rfl ?_
      refine gIloadN X4 hx (hb hby at_43) rfl ?_
      refine gIconst X4 hx (4 : Int32) (hb hby at_44) rfl ?_
      refine gIand X4 hx (hb hby at_45) ?_
      refine gIf X4 hx 53 (hb hby at_46) (by decide) (by decide) (fun hT => ?_) (fun hT => ?_)
      · have hc7 := o_eqT hT
        show Go _ _ _ _ _ _ _ T4 (mkF m 53 #[.val (.int p0), .val (.int p1), .val (.int p2), .val (.ref b1), .val (.ref b3), .val (.int (0 : Int32)), .val (.int (0 : Int32)), .unset, .unset, .unset, .unset, .unset, .unset] [])
        refine gIconst X4 hx (0 : Int32) (hb hby at_53) rfl ?_
        refine gIstore X4 hx #[.val (.int p0), .val (.int p1), .val (.int p2), .val (.ref b1), .val (.ref b3), .val (.int (0 : Int32)), .val (.int (0 : Int32)), .val (.int (0 : Int32)), .unset, .unset, .unset, .unset, .unset] (hb hby at_54) rfl ?_
        refine gIload X4 hx (hb hby at_56) rfl ?_
        refine gIf X4 hx 65 (hb hby at_58) (by decide) (by decide) (fun _ => ?_) (fun q => absurd (by decide) (o_eqF q))
        show Go _ _ _ _ _ _ _ T4 (mkF m 65 #[.val (.int p0), .val (.int p1), .val (.int p2), .val (.ref b1), .val (.ref b3), .val (.int (0 : Int32)), .val (.int (0 : Int32)), .val (.int (0 : Int32)), .unset, .unset, .unset, .unset, .unset] [])
        refine gIloadN X4 hx (hb hby at_65) rfl ?_
        refine gIstore X4 hx #[.val (.int p0), .val (.int p1), .val (.int p2), .val (.ref b1), .val (.ref b3), .val (.int (0 : Int32)), .val (.int (0 : Int32)), .val (.int (0 : Int32)), .val (.int p1), .unset, .unset, .unset, .unset] (hb hby at_66) rfl ?_
        refine gNew X4 hx hZ hown (tw hw 63 rfl) (tw hw 64 rfl) (tw hw 65 rfl) rfl (hb hby at_68) (by decide) (by decide) ?_
        intro T8 h8 b8 X8 e8 E8 g8 A8 D8
        have lt_b1_b8 : b1 < b8 := by rw [g8]; exact A1__4.lt
        have lt_b3_b8 : b3 < b8 := by rw [g8]; exact A3__4.lt
        have g_b8 : n0 ≤ b8 := by rw [g8]; exact Z_4
        have A1__8 := A1__4.ext E8
        have F_texts_b1__8 := F_texts_b1__4.ext E8
        have F_ints_b1__8 := F_ints_b1__4.ext E8
        have F_typesAndSteps_b1__8 := F_typesAndSteps_b1__4.ext E8
        have F_keptLines_b1__8 := F_keptLines_b1__4.ext E8
        have F_farValues_b1__8 := F_farValues_b1__4.ext E8
        have F_farLines_b1__8 := F_farLines_b1__4.ext E8
        have A3__8 := A3__4.ext E8
        have F_texts_b3__8 := F_texts_b3__4.ext E8
        have F_ints_b3__8 := F_ints_b3__4.ext E8
        have F_typesAndSteps_b3__8 := F_typesAndSteps_b3__4.ext E8
        have F_keptLines_b3__8 := F_keptLines_b3__4.ext E8
        have F_farValues_b3__8 := F_farValues_b3__4.ext E8
        have F_farLines_b3__8 := F_farLines_b3__4.ext E8
        have Z_8 := Nat.le_trans Z_4 E8.1
        have O_8 := O_4.ext E8
        have F_values_b8 : Fld Z h8 b8 "com/example/renkei/renkei/reader/JsonValue" "values" "Lcom/example/renkei/renkei/reader/ValueStore;" .null := D8 (Or.inr (tw hw 71 rfl)) (ty := (.object "com/example/renkei/renkei/reader/ValueStore")) (by decide)
        have F_value_b8 : Fld Z h8 b8 "com/example/renkei/renkei/reader/JsonValue" "value" "I" (.int (0 : Int32)) := D8 (Or.inr (tw hw 73 rfl)) (ty := .int) (by decide)
        show Go _ _ _ _ _ _ _ T8 (mkF m 71 #[.val (.int p0), .val (.int p1), .val (.int p2), .val (.ref b1), .val (.ref b3), .val (.int (0 : Int32)), .val (.int (0 : Int32)), .val (.int (0 : Int32)), .val (.int p1), .unset, .unset, .unset, .unset] [(.ref b8)])
        refine gDup X8 hx (hb hby at_71) rfl ?_
        refine gAloadN X8 hx (hb hby at_72) rfl rfl ?_
        refine gIloadN X8 hx (hb hby at_73) rfl ?_
        refine gInit X8 hx hZ (y := (⟨"com/example/renkei/renkei/reader/JsonValue", "<init>", "(Lcom/example/renkei/renkei/reader/ValueStore;I)V"⟩ : MethodName)) (a := b8) hown rfl (by decide) (tw hw 66 rfl) (tw hw 67 rfl) (tw hw 65 rfl) (tw hw 68 rfl) (own_rm5 l Z a0 hw b8 b1 p0 h8 n0 Z_8 O_8 A8 g_b8 _ F_values_b8 _ F_value_b8) e8 (by rw [hml]; rfl) (argsL := [(.ref b1), (.int p0)]) (rest := [(.ref b8)]) (W := 1) (lenOf own_pd1 rfl) rfl (Nat.le_of_eq rfl) (by decide) (by decide) (by decide) (by decide) (hb hby at_74) ?_
        rintro _ T9 L9 X9 ⟨rfl, Nq9, Kq9, Q0_9, Q1_9⟩
        have N_9 := Fr.app N_4 Nq9
        have A1__9 := A1__8.keep Kq9
        have F_texts_b1__9 := F_texts_b1__8.keep Kq9 (ninS (Nat.ne_of_lt lt_b1_b8) nin0)
        have F_ints_b1__9 := F_ints_b1__8.keep Kq9 (ninS (Nat.ne_of_lt lt_b1_b8) nin0)
        have F_typesAndSteps_b1__9 := F_typesAndSteps_b1__8.keep Kq9 (ninS (Nat.ne_of_lt lt_b1_b8) nin0)
        have F_keptLines_b1__9 := F_keptLines_b1__8.keep Kq9 (ninS (Nat.ne_of_lt lt_b1_b8) nin0)
        have F_farValues_b1__9 := F_farValues_b1__8.keep Kq9 (ninS (Nat.ne_of_lt lt_b1_b8) nin0)
        have F_farLines_b1__9 := F_farLines_b1__8.keep Kq9 (ninS (Nat.ne_of_lt lt_b1_b8) nin0)
        have A3__9 := A3__8.keep Kq9
        have F_texts_b3__9 := F_texts_b3__8.keep Kq9 (ninS (Nat.ne_of_lt lt_b3_b8) nin0)
        have F_ints_b3__9 := F_ints_b3__8.keep Kq9 (ninS (Nat.ne_of_lt lt_b3_b8) nin0)
        have F_typesAndSteps_b3__9 := F_typesAndSteps_b3__8.keep Kq9 (ninS (Nat.ne_of_lt lt_b3_b8) nin0)
        have F_keptLines_b3__9 := F_keptLines_b3__8.keep Kq9 (ninS (Nat.ne_of_lt lt_b3_b8) nin0)
        have F_farValues_b3__9 := F_farValues_b3__8.keep Kq9 (ninS (Nat.ne_of_lt lt_b3_b8) nin0)
        have F_farLines_b3__9 := F_farLines_b3__8.keep Kq9 (ninS (Nat.ne_of_lt lt_b3_b8) nin0)
        have A8__9 := A8.keep Kq9
        have Z_9 := Nat.le_trans Z_8 Kq9.1
        have O_9 := O_8.keep Kq9 (allS g_b8 all0)
        show Go _ _ _ _ _ _ _ T9 (mkF m 77 #[.val (.int p0), .val (.int p1), .val (.int p2), .val (.ref b1), .val (.ref b3), .val (.int (0 : Int32)), .val (.int (0 : Int32)), .val (.int (0 : Int32)), .val (.int p1), .unset, .unset, .unset, .unset] [(.ref b8)])
        refine gAstore X9 hx #[.val (.int p0), .val (.int p1), .val (.int p2), .val (.ref b1), .val (.ref b3), .val (.int (0 : Int32)), .val (.int (0 : Int32)), .val (.int (0 : Int32)), .val (.int p1), .val (.ref b8), .unset, .unset, .unset] (hb hby at_77) rfl rfl ?_
        refine gNew X9 hx hZ hown (tw hw 63 rfl) (tw hw 64 rfl) (tw hw 65 rfl) rfl (hb hby at_79) (by decide) (by decide) ?_
        intro T10 h10 b10 X10 e10 E10 g10 A10 D10
        have lt_b1_b10 : b1 < b10 := by rw [g10]; exact A1__9.lt
        have lt_b3_b10 : b3 < b10 := by rw [g10]; exact A3__9.lt
        have lt_b8_b10 : b8 < b10 := by rw [g10]; exact A8__9.lt
        have g_b10 : n0 ≤ b10 := by rw [g10]; exact Z_9
        have A1__10 := A1__9.ext E10
        have F_texts_b1__10 := F_texts_b1__9.ext E10
        have F_ints_b1__10 := F_ints_b1__9.ext E10
        have F_typesAndSteps_b1__10 := F_typesAndSteps_b1__9.ext E10
        have F_keptLines_b1__10 := F_keptLines_b1__9.ext E10
        have F_farValues_b1__10 := F_farValues_b1__9.ext E10
        have F_farLines_b1__10 := F_farLines_b1__9.ext E10
        have A3__10 := A3__9.ext E10
        have F_texts_b3__10 := F_texts_b3__9.ext E10
        have F_ints_b3__10 := F_ints_b3__9.ext E10
        have F_typesAndSteps_b3__10 := F_typesAndSteps_b3__9.ext E10
        have F_keptLines_b3__10 := F_keptLines_b3__9.ext E10
        have F_farValues_b3__10 := F_farValues_b3__9.ext E10
        have F_farLines_b3__10 := F_farLines_b3__9.ext E10
        have A8__10 := A8__9.ext E10
        have Q0_9__10 := Q0_9.ext E10
        have Q1_9__10 := Q1_9.ext E10
        have Z_10 := Nat.le_trans Z_9 E10.1
        have O_10 := O_9.ext E10
        have F_values_b10 : Fld Z h10 b10 "com/example/renkei/renkei/reader/JsonValue" "values" "Lcom/example/renkei/renkei/reader/ValueStore;" .null := D10 (Or.inr (tw hw 71 rfl)) (ty := (.object "com/example/renkei/renkei/reader/ValueStore")) (by decide)
        have F_value_b10 : Fld Z h10 b10 "com/example/renkei/renkei/reader/JsonValue" "value" "I" (.int (0 : Int32)) := D10 (Or.inr (tw hw 73 rfl)) (ty := .int) (by decide)
        show Go _ _ _ _ _ _ _ T10 (mkF m 82 #[.val (.int p0), .val (.int p1), .val (.int p2), .val (.ref b1), .val (.ref b3), .val (.int (0 : Int32)), .val (.int (0 : Int32)), .val (.int (0 : Int32)), .val (.int p1), .val (.ref b8), .unset, .unset, .unset] [(.ref b10)])
        refine gDup X10 hx (hb hby at_82) rfl ?_
        refine gIload X10 hx (hb hby at_83) rfl ?_
        refine gIf X10 hx 92 (hb hby at_85) (by decide) (by decide) (fun _ => ?_) (fun q => absurd (by decide) (o_eqF q))
        show Go _ _ _ _ _ _ _ T10 (mkF m 92 #[.val (.int p0), .val (.int p1), .val (.int p2), .val (.ref b1), .val (.ref b3), .val (.int (0 : Int32)), .val (.int (0 : Int32)), .val (.int (0 : Int32)), .val (.int p1), .val (.ref b8), .unset, .unset, .unset] [(.ref b10), (.ref b10)])
        refine gAload X10 hx (hb hby at_92) rfl rfl ?_
        refine gIload X10 hx (hb hby at_94) rfl ?_
        refine gInit X10 hx hZ (y := (⟨"com/example/renkei/renkei/reader/JsonValue", "<init>", "(Lcom/example/renkei/renkei/reader/ValueStore;I)V"⟩ : MethodName)) (a := b10) hown rfl (by decide) (tw hw 66 rfl) (tw hw 67 rfl) (tw hw 65 rfl) (tw hw 68 rfl) (own_rm5 l Z a0 hw b10 b3 p1 h10 n0 Z_10 O_10 A10 g_b10 _ F_values_b10 _ F_value_b10) e10 (by rw [hml]; rfl) (argsL := [(.ref b3), (.int p1)]) (rest := [(.ref b10)]) (W := 1) (lenOf own_pd1 rfl) rfl (Nat.le_of_eq rfl) (by decide) (by decide) (by decide) (by decide) (hb hby at_96) ?_
        rintro _ T11 L11 X11 ⟨rfl, Nq11, Kq11, Q0_11, Q1_11⟩
        have N_11 := Fr.app N_9 Nq11
        have A1__11 := A1__10.keep Kq11
        have F_texts_b1__11 := F_texts_b1__10.keep Kq11 (ninS (Nat.ne_of_lt lt_b1_b10) nin0)
        have F_ints_b1__11 := F_ints_b1__10.keep Kq11 (ninS (Nat.ne_of_lt lt_b1_b10) nin0)
        have F_typesAndSteps_b1__11 := F_typesAndSteps_b1__10.keep Kq11 (ninS (Nat.ne_of_lt lt_b1_b10) nin0)
        have F_keptLines_b1__11 := F_keptLines_b1__10.keep Kq11 (ninS (Nat.ne_of_lt lt_b1_b10) nin0)
        have F_farValues_b1__11 := F_farValues_b1__10.keep Kq11 (ninS (Nat.ne_of_lt lt_b1_b10) nin0)
        have F_farLines_b1__11 := F_farLines_b1__10.keep Kq11 (ninS (Nat.ne_of_lt lt_b1_b10) nin0)
        have A3__11 := A3__10.keep Kq11
        have F_texts_b3__11 := F_texts_b3__10.keep Kq11 (ninS (Nat.ne_of_lt lt_b3_b10) nin0)
        have F_ints_b3__11 := F_ints_b3__10.keep Kq11 (ninS (Nat.ne_of_lt lt_b3_b10) nin0)
        have F_typesAndSteps_b3__11 := F_typesAndSteps_b3__10.keep Kq11 (ninS (Nat.ne_of_lt lt_b3_b10) nin0)
        have F_keptLines_b3__11 := F_keptLines_b3__10.keep Kq11 (ninS (Nat.ne_of_lt lt_b3_b10) nin0)
        have F_farValues_b3__11 := F_farValues_b3__10.keep Kq11 (ninS (Nat.ne_of_lt lt_b3_b10) nin0)
        have F_farLines_b3__11 := F_farLines_b3__10.keep Kq11 (ninS (Nat.ne_of_lt lt_b3_b10) nin0)
        have A8__11 := A8__10.keep Kq11
        have Q0_9__11 := Q0_9__10.keep Kq11 (ninS (Nat.ne_of_lt lt_b8_b10) nin0)
        have Q1_9__11 := Q1_9__10.keep Kq11 (ninS (Nat.ne_of_lt lt_b8_b10) nin0)
        have A10__11 := A10.keep Kq11
        have Z_11 := Nat.le_trans Z_10 Kq11.1
        have O_11 := O_10.keep Kq11 (allS g_b10 all0)
        show Go _ _ _ _ _ _ _ T11 (mkF m 99 #[.val (.int p0), .val (.int p1), .val (.int p2), .val (.ref b1), .val (.ref b3), .val (.int (0 : Int32)), .val (.int (0 : Int32)), .val (.int (0 : Int32)), .val (.int p1), .val (.ref b8), .unset, .unset, .unset] [(.ref b10)])
        refine gAstore X11 hx #[.val (.int p0), .val (.int p1), .val (.int p2), .val (.ref b1), .val (.ref b3), .val (.int (0 : Int32)), .val (.int (0 : Int32)), .val (.int (0 : Int32)), .val (.int p1), .val (.ref b8), .val (.ref b10), .unset, .unset] (hb hby at_99) rfl rfl ?_
        refine gIload X11 hx (hb hby at_101) rfl ?_
        refine gIf X11 hx 116 (hb hby at_103) (by decide) (by decide) (fun _ => ?_) (fun q => absurd (by decide) (o_eqF q))
        show Go _ _ _ _ _ _ _ T11 (mkF m 116 #[.val (.int p0), .val (.int p1), .val (.int p2), .val (.ref b1), .val (.ref b3), .val (.int (0 : Int32)), .val (.int (0 : Int32)), .val (.int (0 : Int32)), .val (.int p1), .val (.ref b8), .val (.ref b10), .unset, .unset] [])
        refine gIconst X11 hx (0 : Int32) (hb hby at_116) rfl ?_
        refine gIstore X11 hx #[.val (.int p0), .val (.int p1), .val (.int p2), .val (.ref b1), .val (.ref b3), .val (.int (0 : Int32)), .val (.int (0 : Int32)), .val (.int (0 : Int32)), .val (.int p1), .val (.ref b8), .val (.ref b10), .val (.int (0 : Int32)), .unset] (hb hby at_117) rfl ?_
        refine gIload X11 hx (hb hby at_119) rfl ?_
        refine gIf X11 hx 128 (hb hby at_121) (by decide) (by decide) (fun _ => ?_) (fun q => absurd (by decide) (o_eqF q))
        show Go _ _ _ _ _ _ _ T11 (mkF m 128 #[.val (.int p0), .val (.int p1), .val (.int p2), .val (.ref b1), .val (.ref b3), .val (.int (0 : Int32)), .val (.int (0 : Int32)), .val (.int (0 : Int32)), .val (.int p1), .val (.ref b8), .val (.ref b10), .val (.int (0 : Int32)), .unset] [])
        refine gIloadN X11 hx (hb hby at_128) rfl ?_
        refine gStatic X11 hx hZ (y := (⟨"java/lang/Integer", "valueOf", "(I)Ljava/lang/Integer;"⟩ : MethodName)) hown (by decide) (tw hw 81 rfl) (tw hw 82 rfl) (tw hw 83 rfl) (tw hw 84 rfl) (own_rm8 l Z a0 hw p0 T11.heap n0 Z_11 O_11 SH cc SC cl val BX) rfl (by rw [hml]; rfl) (argsL := [(.int p0)]) (rest := []) (W := 0) (lenOf own_pd3 rfl) rfl (Nat.le_of_eq rfl) (by decide) (by decide) (by decide) (by decide) (hb hby at_129) ?_
        rintro _ T12 L12 X12 ⟨bq12, rfl, Nq12, Kq12, Aq12⟩
        have N_12 := Fr.app N_11 Nq12
        have A1__12 := A1__11.keep Kq12
        have F_texts_b1__12 := F_texts_b1__11.keep Kq12 nin0
        have F_ints_b1__12 := F_ints_b1__11.keep Kq12 nin0
        have F_typesAndSteps_b1__12 := F_typesAndSteps_b1__11.keep Kq12 nin0
        have F_keptLines_b1__12 := F_keptLines_b1__11.keep Kq12 nin0
        have F_farValues_b1__12 := F_farValues_b1__11.keep Kq12 nin0
        have F_farLines_b1__12 := F_farLines_b1__11.keep Kq12 nin0
        have A3__12 := A3__11.keep Kq12
        have F_texts_b3__12 := F_texts_b3__11.keep Kq12 nin0
        have F_ints_b3__12 := F_ints_b3__11.keep Kq12 nin0
        have F_typesAndSteps_b3__12 := F_typesAndSteps_b3__11.keep Kq12 nin0
        have F_keptLines_b3__12 := F_keptLines_b3__11.keep Kq12 nin0
        have F_farValues_b3__12 := F_farValues_b3__11.keep Kq12 nin0
        have F_farLines_b3__12 := F_farLines_b3__11.keep Kq12 nin0
        have A8__12 := A8__11.keep Kq12
        have Q0_9__12 := Q0_9__11.keep Kq12 nin0
        have Q1_9__12 := Q1_9__11.keep Kq12 nin0
        have A10__12 := A10__11.keep Kq12
        have Q0_11__12 := Q0_11.keep Kq12 nin0
        have Q1_11__12 := Q1_11.keep Kq12 nin0
        have Z_12 := Nat.le_trans Z_11 Kq12.1
        have O_12 := O_11.keep Kq12 all0
        show Go _ _ _ _ _ _ _ T12 (mkF m 132 #[.val (.int p0), .val (.int p1), .val (.int p2), .val (.ref b1), .val (.ref b3), .val (.int (0 : Int32)), .val (.int (0 : Int32)), .val (.int (0 : Int32)), .val (.int p1), .val (.ref b8), .val (.ref b10), .val (.int (0 : Int32)), .unset] [(.ref bq12)])
        refine gAstore X12 hx #[.val (.int p0), .val (.int p1), .val (.int p2), .val (.ref b1), .val (.ref b3), .val (.int (0 : Int32)), .val (.int (0 : Int32)), .val (.int (0 : Int32)), .val (.int p1), .val (.ref b8), .val (.ref b10), .val (.int (0 : Int32)), .val (.ref bq12)] (hb hby at_132) rfl rfl ?_
        refine gAload X12 hx (hb hby at_134) rfl rfl ?_
        refine gAload X12 hx (hb hby at_136) rfl rfl ?_
        refine gVirtual X12 hx hZ (y := (⟨"com/example/renkei/renkei/reader/JsonValue", "equals", "(Ljava/lang/Object;)Z"⟩ : MethodName)) (a := b8) hown (by decide) (tw hw 74 rfl) (tw hw 75 rfl) (tw hw 76 rfl) (tw hw 77 rfl) (tw hw 65 rfl) (tw hw 78 rfl) A8__12 (own_rm9J l Z a0 hw b8 b10 T12.heap n0 Z_12 _ _ _ _ Q0_9__12 Q1_9__12 A10__12 Q0_11__12 Q1_11__12) rfl (by rw [hml]; rfl) (argsL := [(.ref b10)]) (rest := []) (W := 0) (lenOf own_pd4 rfl) rfl (Nat.le_of_eq rfl) (by decide) (by decide) (by decide) (by decide) (hb hby at_138) ?_
        rintro _ T13 L13 X13 ⟨rfl, Nq13, e13⟩
        have N_13 := Fr.app N_12 Nq13
        show Go _ _ _ _ _ _ _ T13 (mkF m 141 #[.val (.int p0), .val (.int p1), .val (.int p2), .val (.ref b1), .val (.ref b3), .val (.int (0 : Int32)), .val (.int (0 : Int32)), .val (.int (0 : Int32)), .val (.int p1), .val (.ref b8), .val (.ref b10), .val (.int (0 : Int32)), .val (.ref bq12)] [(.int (own_eqv b3 b1 p1 p0))])
        refine gIload X13 hx (hb hby at_141) rfl ?_
        refine gIcmp X13 hx 182 (hb hby at_143) (by decide) (by decide) (fun q => absurd (own_qn (Ne.symm (Nat.ne_of_lt lt_b1_b3))) (o_neT q)) (fun _ => ?_)
        show Go _ _ _ _ _ _ _ T13 (mkF m 146 #[.val (.int p0), .val (.int p1), .val (.int p2), .val (.ref b1), .val (.ref b3), .val (.int (0 : Int32)), .val (.int (0 : Int32)), .val (.int (0 : Int32)), .val (.int p1), .val (.ref b8), .val (.ref b10), .val (.int (0 : Int32)), .val (.ref bq12)] [])
        refine gAload X13 hx (hb hby at_146) rfl rfl ?_
        refine gAload X13 hx (hb hby at_148) rfl rfl ?_
        refine gVirtual X13 hx hZ (y := (⟨"com/example/renkei/renkei/reader/JsonValue", "equals", "(Ljava/lang/Object;)Z"⟩ : MethodName)) (a := b10) hown (by decide) (tw hw 74 rfl) (tw hw 75 rfl) (tw hw 76 rfl) (tw hw 77 rfl) (tw hw 65 rfl) (tw hw 78 rfl) A10__12 (own_rm9J l Z a0 hw b10 b8 T12.heap n0 Z_12 _ _ _ _ Q0_11__12 Q1_11__12 A8__12 Q0_9__12 Q1_9__12) e13 (by rw [hml]; rfl) (argsL := [(.ref b8)]) (rest := []) (W := 0) (lenOf own_pd4 rfl) rfl (Nat.le_of_eq rfl) (by decide) (by decide) (by decide) (by decide) (hb hby at_150) ?_
        rintro _ T14 L14 X14 ⟨rfl, Nq14, e14⟩
        have N_14 := Fr.app N_13 Nq14
        show Go _ _ _ _ _ _ _ T14 (mkF m 153 #[.val (.int p0), .val (.int p1), .val (.int p2), .val (.ref b1), .val (.ref b3), .val (.int (0 : Int32)), .val (.int (0 : Int32)), .val (.int (0 : Int32)), .val (.int p1), .val (.ref b8), .val (.ref b10), .val (.int (0 : Int32)), .val (.ref bq12)] [(.int (own_eqv b1 b3 p0 p1))])
        refine gIload X14 hx (hb hby at_153) rfl ?_
        refine gIcmp X14 hx 182 (hb hby at_155) (by decide) (by decide) (fun q => absurd (own_qn (Nat.ne_of_lt lt_b1_b3)) (o_neT q)) (fun _ => ?_)
        show Go _ _ _ _ _ _ _ T14 (mkF m 158 #[.val (.int p0), .val (.int p1), .val (.int p2), .val (.ref b1), .val (.ref b3), .val (.int (0 : Int32)), .val (.int (0 : Int32)), .val (.int (0 : Int32)), .val (.int p1), .val (.ref b8), .val (.ref b10), .val (.int (0 : Int32)), .val (.ref bq12)] [])
        refine gAload X14 hx (hb hby at_158) rfl rfl ?_
        refine gAload X14 hx (hb hby at_160) rfl rfl ?_
        refine gVirtual X14 hx hZ (y := (⟨"com/example/renkei/renkei/reader/JsonValue", "equals", "(Ljava/lang/Object;)Z"⟩ : MethodName)) (a := b8) hown (by decide) (tw hw 74 rfl) (tw hw 75 rfl) (tw hw 76 rfl) (tw hw 77 rfl) (tw hw 65 rfl) (tw hw 78 rfl) A8__12 (own_rm9J l Z a0 hw b8 b8 T12.heap n0 Z_12 _ _ _ _ Q0_9__12 Q1_9__12 A8__12 Q0_9__12 Q1_9__12) e14 (by rw [hml]; rfl) (argsL := [(.ref b8)]) (rest := []) (W := 0) (lenOf own_pd4 rfl) rfl (Nat.le_of_eq rfl) (by decide) (by decide) (by decide) (by decide) (hb hby at_162) ?_
        rintro _ T15 L15 X15 ⟨rfl, Nq15, e15⟩
        have N_15 := Fr.app N_14 Nq15
        show Go _ _ _ _ _ _ _ T15 (mkF m 165 #[.val (.int p0), .val (.int p1), .val (.int p2), .val (.ref b1), .val (.ref b3), .val (.int (0 : Int32)), .val (.int (0 : Int32)), .val (.int (0 : Int32)), .val (.int p1), .val (.ref b8), .val (.ref b10), .val (.int (0 : Int32)), .val (.ref bq12)] [(.int (own_eqv b1 b1 p0 p0))])
        refine gIf X15 hx 182 (hb hby at_165) (by decide) (by decide) (fun q => absurd (o_eqT q) (own_qs _ _)) (fun _ => ?_)
        show Go _ _ _ _ _ _ _ T15 (mkF m 168 #[.val (.int p0), .val (.int p1), .val (.int p2), .val (.ref b1), .val (.ref b3), .val (.int (0 : Int32)), .val (.int (0 : Int32)), .val (.int (0 : Int32)), .val (.int p1), .val (.ref b8), .val (.ref b10), .val (.int (0 : Int32)), .val (.ref bq12)] [])
        refine gAload X15 hx (hb hby at_168) rfl rfl ?_
        refine gAload X15 hx (hb hby at_170) rfl rfl ?_
        refine gVirtual X15 hx hZ (y := (⟨"com/example/renkei/renkei/reader/JsonValue", "equals", "(Ljava/lang/Object;)Z"⟩ : MethodName)) (a := b8) hown (by decide) (tw hw 74 rfl) (tw hw 75 rfl) (tw hw 76 rfl) (tw hw 77 rfl) (tw hw 65 rfl) (tw hw 78 rfl) A8__12 (own_rm9I l Z a0 hw b8 bq12 T12.heap n0 Z_12 _ _ Q0_9__12 Q1_9__12 Aq12) e15 (by rw [hml]; rfl) (argsL := [(.ref bq12)]) (rest := []) (W := 0) (lenOf own_pd4 rfl) rfl (Nat.le_of_eq rfl) (by decide) (by decide) (by decide) (by decide) (hb hby at_172) ?_
        rintro _ T16 L16 X16 ⟨rfl, Nq16, e16⟩
        have N_16 := Fr.app N_15 Nq16
        show Go _ _ _ _ _ _ _ T16 (mkF m 175 #[.val (.int p0), .val (.int p1), .val (.int p2), .val (.ref b1), .val (.ref b3), .val (.int (0 : Int32)), .val (.int (0 : Int32)), .val (.int (0 : Int32)), .val (.int p1), .val (.ref b8), .val (.ref b10), .val (.int (0 : Int32)), .val (.ref bq12)] [(.int (0 : Int32))])
        refine gIf X16 hx 182 (hb hby at_175) (by decide) (by decide) (fun q => absurd (by decide) (o_neT q)) (fun _ => ?_)
        show Go _ _ _ _ _ _ _ T16 (mkF m 178 #[.val (.int p0), .val (.int p1), .val (.int p2), .val (.ref b1), .val (.ref b3), .val (.int (0 : Int32)), .val (.int (0 : Int32)), .val (.int (0 : Int32)), .val (.int p1), .val (.ref b8), .val (.ref b10), .val (.int (0 : Int32)), .val (.ref bq12)] [])
        refine gIconst X16 hx (1 : Int32) (hb hby at_178) rfl ?_
        refine gGoto X16 hx 183 (hb hby at_179) (by decide) (by decide) ?_
        exact gRetZ X16 hx hlk hret (by simp) (hb hby at_183) (z' := (1 : Int32)) rfl (by decide) (by decide) ⟨rfl, N_16⟩
      · have hc7 := o_eqF hT
        show Go _ _ _ _ _ _ _ T4 (mkF m 49 #[.val (.int p0), .val (.int p1), .val (.int p2), .val (.ref b1), .val (.ref b3), .val (.int (0 : Int32)), .val (.int (0 : Int32)), .unset, .unset, .unset, .unset, .unset, .unset] [])
        refine gIconst X4 hx (1 : Int32) (hb hby at_49) rfl ?_
        refine gGoto X4 hx 54 (hb hby at_50) (by decide) (by decide) ?_
        refine gIstore X4 hx #[.val (.int p0), .val (.int p1), .val (.int p2), .val (.ref b1), .val (.ref b3), .val (.int (0 : Int32)), .val (.int (0 : Int32)), .val (.int (1 : Int32)), .unset, .unset, .unset, .unset, .unset] (hb hby at_54) rfl ?_
        refine gIload X4 hx (hb hby at_56) rfl ?_
        refine gIf X4 hx 65 (hb hby at_58) (by decide) (by decide) (fun q => absurd (o_eqT q) (by decide)) (fun _ => ?_)
        show Go _ _ _ _ _ _ _ T4 (mkF m 61 #[.val (.int p0), .val (.int p1), .val (.int p2), .val (.ref b1), .val (.ref b3), .val (.int (0 : Int32)), .val (.int (0 : Int32)), .val (.int (1 : Int32)), .unset, .unset, .unset, .unset, .unset] [])
        refine gIloadN X4 hx (hb hby at_61) rfl ?_
        refine gGoto X4 hx 66 (hb hby at_62) (by decide) (by decide) ?_
        refine gIstore X4 hx #[.val (.int p0), .val (.int p1), .val (.int p2), .val (.ref b1), .val (.ref b3), .val (.int (0 : Int32)), .val (.int (0 : Int32)), .val (.int (1 : Int32)), .val (.int p0), .unset, .unset, .unset, .unset] (hb hby at_66) rfl ?_
        refine gNew X4 hx hZ hown (tw hw 63 rfl) (tw hw 64 rfl) (tw hw 65 rfl) rfl (hb hby at_68) (by decide) (by decide) ?_
        intro T17 h17 b17 X17 e17 E17 g17 A17 D17
        have lt_b1_b17 : b1 < b17 := by rw [g17]; exact A1__4.lt
        have lt_b3_b17 : b3 < b17 := by rw [g17]; exact A3__4.lt
        have g_b17 : n0 ≤ b17 := by rw [g17]; exact Z_4
        have A1__17 := A1__4.ext E17
        have F_texts_b1__17 := F_texts_b1__4.ext E17
        have F_ints_b1__17 := F_ints_b1__4.ext E17
        have F_typesAndSteps_b1__17 := F_typesAndSteps_b1__4.ext E17
        have F_keptLines_b1__17 := F_keptLines_b1__4.ext E17
        have F_farValues_b1__17 := F_farValues_b1__4.ext E17
        have F_farLines_b1__17 := F_farLines_b1__4.ext E17
        have A3__17 := A3__4.ext E17
        have F_texts_b3__17 := F_texts_b3__4.ext E17
        have F_ints_b3__17 := F_ints_b3__4.ext E17
        have F_typesAndSteps_b3__17 := F_typesAndSteps_b3__4.ext E17
        have F_keptLines_b3__17 := F_keptLines_b3__4.ext E17
        have F_farValues_b3__17 := F_farValues_b3__4.ext E17
        have F_farLines_b3__17 := F_farLines_b3__4.ext E17
        have Z_17 := Nat.le_trans Z_4 E17.1
        have O_17 := O_4.ext E17
        have F_values_b17 : Fld Z h17 b17 "com/example/renkei/renkei/reader/JsonValue" "values" "Lcom/example/renkei/renkei/reader/ValueStore;" .null := D17 (Or.inr (tw hw 71 rfl)) (ty := (.object "com/example/renkei/renkei/reader/ValueStore")) (by decide)
        have F_value_b17 : Fld Z h17 b17 "com/example/renkei/renkei/reader/JsonValue" "value" "I" (.int (0 : Int32)) := D17 (Or.inr (tw hw 73 rfl)) (ty := .int) (by decide)
        show Go _ _ _ _ _ _ _ T17 (mkF m 71 #[.val (.int p0), .val (.int p1), .val (.int p2), .val (.ref b1), .val (.ref b3), .val (.int (0 : Int32)), .val (.int (0 : Int32)), .val (.int (1 : Int32)), .val (.int p0), .unset, .unset, .unset, .unset] [(.ref b17)])
        refine gDup X17 hx (hb hby at_71) rfl ?_
        refine gAloadN X17 hx (hb hby at_72) rfl rfl ?_
        refine gIloadN X17 hx (hb hby at_73) rfl ?_
        refine gInit X17 hx hZ (y := (⟨"com/example/renkei/renkei/reader/JsonValue", "<init>", "(Lcom/example/renkei/renkei/reader/ValueStore;I)V"⟩ : MethodName)) (a := b17) hown rfl (by decide) (tw hw 66 rfl) (tw hw 67 rfl) (tw hw 65 rfl) (tw hw 68 rfl) (own_rm5 l Z a0 hw b17 b1 p0 h17 n0 Z_17 O_17 A17 g_b17 _ F_values_b17 _ F_value_b17) e17 (by rw [hml]; rfl) (argsL := [(.ref b1), (.int p0)]) (rest := [(.ref b17)]) (W := 1) (lenOf own_pd1 rfl) rfl (Nat.le_of_eq rfl) (by decide) (by decide) (by decide) (by decide) (hb hby at_74) ?_
        rintro _ T18 L18 X18 ⟨rfl, Nq18, Kq18, Q0_18, Q1_18⟩
        have N_18 := Fr.app N_4 Nq18
        have A1__18 := A1__17.keep Kq18
        have F_texts_b1__18 := F_texts_b1__17.keep Kq18 (ninS (Nat.ne_of_lt lt_b1_b17) nin0)
        have F_ints_b1__18 := F_ints_b1__17.keep Kq18 (ninS (Nat.ne_of_lt lt_b1_b17) nin0)
        have F_typesAndSteps_b1__18 := F_typesAndSteps_b1__17.keep Kq18 (ninS (Nat.ne_of_lt lt_b1_b17) nin0)
        have F_keptLines_b1__18 := F_keptLines_b1__17.keep Kq18 (ninS (Nat.ne_of_lt lt_b1_b17) nin0)
        have F_farValues_b1__18 := F_farValues_b1__17.keep Kq18 (ninS (Nat.ne_of_lt lt_b1_b17) nin0)
        have F_farLines_b1__18 := F_farLines_b1__17.keep Kq18 (ninS (Nat.ne_of_lt lt_b1_b17) nin0)
        have A3__18 := A3__17.keep Kq18
        have F_texts_b3__18 := F_texts_b3__17.keep Kq18 (ninS (Nat.ne_of_lt lt_b3_b17) nin0)
        have F_ints_b3__18 := F_ints_b3__17.keep Kq18 (ninS (Nat.ne_of_lt lt_b3_b17) nin0)
        have F_typesAndSteps_b3__18 := F_typesAndSteps_b3__17.keep Kq18 (ninS (Nat.ne_of_lt lt_b3_b17) nin0)
        have F_keptLines_b3__18 := F_keptLines_b3__17.keep Kq18 (ninS (Nat.ne_of_lt lt_b3_b17) nin0)
        have F_farValues_b3__18 := F_farValues_b3__17.keep Kq18 (ninS (Nat.ne_of_lt lt_b3_b17) nin0)
        have F_farLines_b3__18 := F_farLines_b3__17.keep Kq18 (ninS (Nat.ne_of_lt lt_b3_b17) nin0)
        have A17__18 := A17.keep Kq18
        have Z_18 := Nat.le_trans Z_17 Kq18.1
        have O_18 := O_17.keep Kq18 (allS g_b17 all0)
        show Go _ _ _ _ _ _ _ T18 (mkF m 77 #[.val (.int p0), .val (.int p1), .val (.int p2), .val (.ref b1), .val (.ref b3), .val (.int (0 : Int32)), .val (.int (0 : Int32)), .val (.int (1 : Int32)), .val (.int p0), .unset, .unset, .unset, .unset] [(.ref b17)])
        refine gAstore X18 hx #[.val (.int p0), .val (.int p1), .val (.int p2), .val (.ref b1), .val (.ref b3), .val (.int (0 : Int32)), .val (.int (0 : Int32)), .val (.int (1 : Int32)), .val (.int p0), .val (.ref b17), .unset, .unset, .unset] (hb hby at_77) rfl rfl ?_
        refine gNew X18 hx hZ hown (tw hw 63 rfl) (tw hw 64 rfl) (tw hw 65 rfl) rfl (hb hby at_79) (by decide) (by decide) ?_
        intro T19 h19 b19 X19 e19 E19 g19 A19 D19
        have lt_b1_b19 : b1 < b19 := by rw [g19]; exact A1__18.lt
        have lt_b3_b19 : b3 < b19 := by rw [g19]; exact A3__18.lt
        have lt_b17_b19 : b17 < b19 := by rw [g19]; exact A17__18.lt
        have g_b19 : n0 ≤ b19 := by rw [g19]; exact Z_18
        have A1__19 := A1__18.ext E19
        have F_texts_b1__19 := F_texts_b1__18.ext E19
        have F_ints_b1__19 := F_ints_b1__18.ext E19
        have F_typesAndSteps_b1__19 := F_typesAndSteps_b1__18.ext E19
        have F_keptLines_b1__19 := F_keptLines_b1__18.ext E19
        have F_farValues_b1__19 := F_farValues_b1__18.ext E19
        have F_farLines_b1__19 := F_farLines_b1__18.ext E19
        have A3__19 := A3__18.ext E19
        have F_texts_b3__19 := F_texts_b3__18.ext E19
        have F_ints_b3__19 := F_ints_b3__18.ext E19
        have F_typesAndSteps_b3__19 := F_typesAndSteps_b3__18.ext E19
        have F_keptLines_b3__19 := F_keptLines_b3__18.ext E19
        have F_farValues_b3__19 := F_farValues_b3__18.ext E19
        have F_farLines_b3__19 := F_farLines_b3__18.ext E19
        have A17__19 := A17__18.ext E19
        have Q0_18__19 := Q0_18.ext E19
        have Q1_18__19 := Q1_18.ext E19
        have Z_19 := Nat.le_trans Z_18 E19.1
        have O_19 := O_18.ext E19
        have F_values_b19 : Fld Z h19 b19 "com/example/renkei/renkei/reader/JsonValue" "values" "Lcom/example/renkei/renkei/reader/ValueStore;" .null := D19 (Or.inr (tw hw 71 rfl)) (ty := (.object "com/example/renkei/renkei/reader/ValueStore")) (by decide)
        have F_value_b19 : Fld Z h19 b19 "com/example/renkei/renkei/reader/JsonValue" "value" "I" (.int (0 : Int32)) := D19 (Or.inr (tw hw 73 rfl)) (ty := .int) (by decide)
        show Go _ _ _ _ _ _ _ T19 (mkF m 82 #[.val (.int p0), .val (.int p1), .val (.int p2), .val (.ref b1), .val (.ref b3), .val (.int (0 : Int32)), .val (.int (0 : Int32)), .val (.int (1 : Int32)), .val (.int p0), .val (.ref b17), .unset, .unset, .unset] [(.ref b19)])
        refine gDup X19 hx (hb hby at_82) rfl ?_
        refine gIload X19 hx (hb hby at_83) rfl ?_
        refine gIf X19 hx 92 (hb hby at_85) (by decide) (by decide) (fun _ => ?_) (fun q => absurd (by decide) (o_eqF q))
        show Go _ _ _ _ _ _ _ T19 (mkF m 92 #[.val (.int p0), .val (.int p1), .val (.int p2), .val (.ref b1), .val (.ref b3), .val (.int (0 : Int32)), .val (.int (0 : Int32)), .val (.int (1 : Int32)), .val (.int p0), .val (.ref b17), .unset, .unset, .unset] [(.ref b19), (.ref b19)])
        refine gAload X19 hx (hb hby at_92) rfl rfl ?_
        refine gIload X19 hx (hb hby at_94) rfl ?_
        refine gInit X19 hx hZ (y := (⟨"com/example/renkei/renkei/reader/JsonValue", "<init>", "(Lcom/example/renkei/renkei/reader/ValueStore;I)V"⟩ : MethodName)) (a := b19) hown rfl (by decide) (tw hw 66 rfl) (tw hw 67 rfl) (tw hw 65 rfl) (tw hw 68 rfl) (own_rm5 l Z a0 hw b19 b3 p0 h19 n0 Z_19 O_19 A19 g_b19 _ F_values_b19 _ F_value_b19) e19 (by rw [hml]; rfl) (argsL := [(.ref b3), (.int p0)]) (rest := [(.ref b19)]) (W := 1) (lenOf own_pd1 rfl) rfl (Nat.le_of_eq rfl) (by decide) (by decide) (by decide) (by decide) (hb hby at_96) ?_
        rintro _ T20 L20 X20 ⟨rfl, Nq20, Kq20, Q0_20, Q1_20⟩
        have N_20 := Fr.app N_18 Nq20
        have A1__20 := A1__19.keep Kq20
        have F_texts_b1__20 := F_texts_b1__19.keep Kq20 (ninS (Nat.ne_of_lt lt_b1_b19) nin0)
        have F_ints_b1__20 := F_ints_b1__19.keep Kq20 (ninS (Nat.ne_of_lt lt_b1_b19) nin0)
        have F_typesAndSteps_b1__20 := F_typesAndSteps_b1__19.keep Kq20 (ninS (Nat.ne_of_lt lt_b1_b19) nin0)
        have F_keptLines_b1__20 := F_keptLines_b1__19.keep Kq20 (ninS (Nat.ne_of_lt lt_b1_b19) nin0)
        have F_farValues_b1__20 := F_farValues_b1__19.keep Kq20 (ninS (Nat.ne_of_lt lt_b1_b19) nin0)
        have F_farLines_b1__20 := F_farLines_b1__19.keep Kq20 (ninS (Nat.ne_of_lt lt_b1_b19) nin0)
        have A3__20 := A3__19.keep Kq20
        have F_texts_b3__20 := F_texts_b3__19.keep Kq20 (ninS (Nat.ne_of_lt lt_b3_b19) nin0)
        have F_ints_b3__20 := F_ints_b3__19.keep Kq20 (ninS (Nat.ne_of_lt lt_b3_b19) nin0)
        have F_typesAndSteps_b3__20 := F_typesAndSteps_b3__19.keep Kq20 (ninS (Nat.ne_of_lt lt_b3_b19) nin0)
        have F_keptLines_b3__20 := F_keptLines_b3__19.keep Kq20 (ninS (Nat.ne_of_lt lt_b3_b19) nin0)
        have F_farValues_b3__20 := F_farValues_b3__19.keep Kq20 (ninS (Nat.ne_of_lt lt_b3_b19) nin0)
        have F_farLines_b3__20 := F_farLines_b3__19.keep Kq20 (ninS (Nat.ne_of_lt lt_b3_b19) nin0)
        have A17__20 := A17__19.keep Kq20
        have Q0_18__20 := Q0_18__19.keep Kq20 (ninS (Nat.ne_of_lt lt_b17_b19) nin0)
        have Q1_18__20 := Q1_18__19.keep Kq20 (ninS (Nat.ne_of_lt lt_b17_b19) nin0)
        have A19__20 := A19.keep Kq20
        have Z_20 := Nat.le_trans Z_19 Kq20.1
        have O_20 := O_19.keep Kq20 (allS g_b19 all0)
        show Go _ _ _ _ _ _ _ T20 (mkF m 99 #[.val (.int p0), .val (.int p1), .val (.int p2), .val (.ref b1), .val (.ref b3), .val (.int (0 : Int32)), .val (.int (0 : Int32)), .val (.int (1 : Int32)), .val (.int p0), .val (.ref b17), .unset, .unset, .unset] [(.ref b19)])
        refine gAstore X20 hx #[.val (.int p0), .val (.int p1), .val (.int p2), .val (.ref b1), .val (.ref b3), .val (.int (0 : Int32)), .val (.int (0 : Int32)), .val (.int (1 : Int32)), .val (.int p0), .val (.ref b17), .val (.ref b19), .unset, .unset] (hb hby at_99) rfl rfl ?_
        refine gIload X20 hx (hb hby at_101) rfl ?_
        refine gIf X20 hx 116 (hb hby at_103) (by decide) (by decide) (fun _ => ?_) (fun q => absurd (by decide) (o_eqF q))
        show Go _ _ _ _ _ _ _ T20 (mkF m 116 #[.val (.int p0), .val (.int p1), .val (.int p2), .val (.ref b1), .val (.ref b3), .val (.int (0 : Int32)), .val (.int (0 : Int32)), .val (.int (1 : Int32)), .val (.int p0), .val (.ref b17), .val (.ref b19), .unset, .unset] [])
        refine gIconst X20 hx (0 : Int32) (hb hby at_116) rfl ?_
        refine gIstore X20 hx #[.val (.int p0), .val (.int p1), .val (.int p2), .val (.ref b1), .val (.ref b3), .val (.int (0 : Int32)), .val (.int (0 : Int32)), .val (.int (1 : Int32)), .val (.int p0), .val (.ref b17), .val (.ref b19), .val (.int (0 : Int32)), .unset] (hb hby at_117) rfl ?_
        refine gIload X20 hx (hb hby at_119) rfl ?_
        refine gIf X20 hx 128 (hb hby at_121) (by decide) (by decide) (fun _ => ?_) (fun q => absurd (by decide) (o_eqF q))
        show Go _ _ _ _ _ _ _ T20 (mkF m 128 #[.val (.int p0), .val (.int p1), .val (.int p2), .val (.ref b1), .val (.ref b3), .val (.int (0 : Int32)), .val (.int (0 : Int32)), .val (.int (1 : Int32)), .val (.int p0), .val (.ref b17), .val (.ref b19), .val (.int (0 : Int32)), .unset] [])
        refine gIloadN X20 hx (hb hby at_128) rfl ?_
        refine gStatic X20 hx hZ (y := (⟨"java/lang/Integer", "valueOf", "(I)Ljava/lang/Integer;"⟩ : MethodName)) hown (by decide) (tw hw 81 rfl) (tw hw 82 rfl) (tw hw 83 rfl) (tw hw 84 rfl) (own_rm8 l Z a0 hw p0 T20.heap n0 Z_20 O_20 SH cc SC cl val BX) rfl (by rw [hml]; rfl) (argsL := [(.int p0)]) (rest := []) (W := 0) (lenOf own_pd3 rfl) rfl (Nat.le_of_eq rfl) (by decide) (by decide) (by decide) (by decide) (hb hby at_129) ?_
        rintro _ T21 L21 X21 ⟨bq21, rfl, Nq21, Kq21, Aq21⟩
        have N_21 := Fr.app N_20 Nq21
        have A1__21 := A1__20.keep Kq21
        have F_texts_b1__21 := F_texts_b1__20.keep Kq21 nin0
        have F_ints_b1__21 := F_ints_b1__20.keep Kq21 nin0
        have F_typesAndSteps_b1__21 := F_typesAndSteps_b1__20.keep Kq21 nin0
        have F_keptLines_b1__21 := F_keptLines_b1__20.keep Kq21 nin0
        have F_farValues_b1__21 := F_farValues_b1__20.keep Kq21 nin0
        have F_farLines_b1__21 := F_farLines_b1__20.keep Kq21 nin0
        have A3__21 := A3__20.keep Kq21
        have F_texts_b3__21 := F_texts_b3__20.keep Kq21 nin0
        have F_ints_b3__21 := F_ints_b3__20.keep Kq21 nin0
        have F_typesAndSteps_b3__21 := F_typesAndSteps_b3__20.keep Kq21 nin0
        have F_keptLines_b3__21 := F_keptLines_b3__20.keep Kq21 nin0
        have F_farValues_b3__21 := F_farValues_b3__20.keep Kq21 nin0
        have F_farLines_b3__21 := F_farLines_b3__20.keep Kq21 nin0
        have A17__21 := A17__20.keep Kq21
        have Q0_18__21 := Q0_18__20.keep Kq21 nin0
        have Q1_18__21 := Q1_18__20.keep Kq21 nin0
        have A19__21 := A19__20.keep Kq21
        have Q0_20__21 := Q0_20.keep Kq21 nin0
        have Q1_20__21 := Q1_20.keep Kq21 nin0
        have Z_21 := Nat.le_trans Z_20 Kq21.1
        have O_21 := O_20.keep Kq21 all0
        show Go _ _ _ _ _ _ _ T21 (mkF m 132 #[.val (.int p0), .val (.int p1), .val (.int p2), .val (.ref b1), .val (.ref b3), .val (.int (0 : Int32)), .val (.int (0 : Int32)), .val (.int (1 : Int32)), .val (.int p0), .val (.ref b17), .val (.ref b19), .val (.int (0 : Int32)), .unset] [(.ref bq21)])
        refine gAstore X21 hx #[.val (.int p0), .val (.int p1), .val (.int p2), .val (.ref b1), .val (.ref b3), .val (.int (0 : Int32)), .val (.int (0 : Int32)), .val (.int (1 : Int32)), .val (.int p0), .val (.ref b17), .val (.ref b19), .val (.int (0 : Int32)), .val (.ref bq21)] (hb hby at_132) rfl rfl ?_
        refine gAload X21 hx (hb hby at_134) rfl rfl ?_
        refine gAload X21 hx (hb hby at_136) rfl rfl ?_
        refine gVirtual X21 hx hZ (y := (⟨"com/example/renkei/renkei/reader/JsonValue", "equals", "(Ljava/lang/Object;)Z"⟩ : MethodName)) (a := b17) hown (by decide) (tw hw 74 rfl) (tw hw 75 rfl) (tw hw 76 rfl) (tw hw 77 rfl) (tw hw 65 rfl) (tw hw 78 rfl) A17__21 (own_rm9J l Z a0 hw b17 b19 T21.heap n0 Z_21 _ _ _ _ Q0_18__21 Q1_18__21 A19__21 Q0_20__21 Q1_20__21) rfl (by rw [hml]; rfl) (argsL := [(.ref b19)]) (rest := []) (W := 0) (lenOf own_pd4 rfl) rfl (Nat.le_of_eq rfl) (by decide) (by decide) (by decide) (by decide) (hb hby at_138) ?_
        rintro _ T22 L22 X22 ⟨rfl, Nq22, e22⟩
        have N_22 := Fr.app N_21 Nq22
        show Go _ _ _ _ _ _ _ T22 (mkF m 141 #[.val (.int p0), .val (.int p1), .val (.int p2), .val (.ref b1), .val (.ref b3), .val (.int (0 : Int32)), .val (.int (0 : Int32)), .val (.int (1 : Int32)), .val (.int p0), .val (.ref b17), .val (.ref b19), .val (.int (0 : Int32)), .val (.ref bq21)] [(.int (own_eqv b3 b1 p0 p0))])
        refine gIload X22 hx (hb hby at_141) rfl ?_
        refine gIcmp X22 hx 182 (hb hby at_143) (by decide) (by decide) (fun q => absurd (own_qn (Ne.symm (Nat.ne_of_lt lt_b1_b3))) (o_neT q)) (fun _ => ?_)
        show Go _ _ _ _ _ _ _ T22 (mkF m 146 #[.val (.int p0), .val (.int p1), .val (.int p2), .val (.ref b1), .val (.ref b3), .val (.int (0 : Int32)), .val (.int (0 : Int32)), .val (.int (1 : Int32)), .val (.int p0), .val (.ref b17), .val (.ref b19), .val (.int (0 : Int32)), .val (.ref bq21)] [])
        refine gAload X22 hx (hb hby at_146) rfl rfl ?_
        refine gAload X22 hx (hb hby at_148) rfl rfl ?_
        refine gVirtual X22 hx hZ (y := (⟨"com/example/renkei/renkei/reader/JsonValue", "equals", "(Ljava/lang/Object;)Z"⟩ : MethodName)) (a := b19) hown (by decide) (tw hw 74 rfl) (tw hw 75 rfl) (tw hw 76 rfl) (tw hw 77 rfl) (tw hw 65 rfl) (tw hw 78 rfl) A19__21 (own_rm9J l Z a0 hw b19 b17 T21.heap n0 Z_21 _ _ _ _ Q0_20__21 Q1_20__21 A17__21 Q0_18__21 Q1_18__21) e22 (by rw [hml]; rfl) (argsL := [(.ref b17)]) (rest := []) (W := 0) (lenOf own_pd4 rfl) rfl (Nat.le_of_eq rfl) (by decide) (by decide) (by decide) (by decide) (hb hby at_150) ?_
        rintro _ T23 L23 X23 ⟨rfl, Nq23, e23⟩
        have N_23 := Fr.app N_22 Nq23
        show Go _ _ _ _ _ _ _ T23 (mkF m 153 #[.val (.int p0), .val (.int p1), .val (.int p2), .val (.ref b1), .val (.ref b3), .val (.int (0 : Int32)), .val (.int (0 : Int32)), .val (.int (1 : Int32)), .val (.int p0), .val (.ref b17), .val (.ref b19), .val (.int (0 : Int32)), .val (.ref bq21)] [(.int (own_eqv b1 b3 p0 p0))])
        refine gIload X23 hx (hb hby at_153) rfl ?_
        refine gIcmp X23 hx 182 (hb hby at_155) (by decide) (by decide) (fun q => absurd (own_qn (Nat.ne_of_lt lt_b1_b3)) (o_neT q)) (fun _ => ?_)
        show Go _ _ _ _ _ _ _ T23 (mkF m 158 #[.val (.int p0), .val (.int p1), .val (.int p2), .val (.ref b1), .val (.ref b3), .val (.int (0 : Int32)), .val (.int (0 : Int32)), .val (.int (1 : Int32)), .val (.int p0), .val (.ref b17), .val (.ref b19), .val (.int (0 : Int32)), .val (.ref bq21)] [])
        refine gAload X23 hx (hb hby at_158) rfl rfl ?_
        refine gAload X23 hx (hb hby at_160) rfl rfl ?_
        refine gVirtual X23 hx hZ (y := (⟨"com/example/renkei/renkei/reader/JsonValue", "equals", "(Ljava/lang/Object;)Z"⟩ : MethodName)) (a := b17) hown (by decide) (tw hw 74 rfl) (tw hw 75 rfl) (tw hw 76 rfl) (tw hw 77 rfl) (tw hw 65 rfl) (tw hw 78 rfl) A17__21 (own_rm9J l Z a0 hw b17 b17 T21.heap n0 Z_21 _ _ _ _ Q0_18__21 Q1_18__21 A17__21 Q0_18__21 Q1_18__21) e23 (by rw [hml]; rfl) (argsL := [(.ref b17)]) (rest := []) (W := 0) (lenOf own_pd4 rfl) rfl (Nat.le_of_eq rfl) (by decide) (by decide) (by decide) (by decide) (hb hby at_162) ?_
        rintro _ T24 L24 X24 ⟨rfl, Nq24, e24⟩
        have N_24 := Fr.app N_23 Nq24
        show Go _ _ _ _ _ _ _ T24 (mkF m 165 #[.val (.int p0), .val (.int p1), .val (.int p2), .val (.ref b1), .val (.ref b3), .val (.int (0 : Int32)), .val (.int (0 : Int32)), .val (.int (1 : Int32)), .val (.int p0), .val (.ref b17), .val (.ref b19), .val (.int (0 : Int32)), .val (.ref bq21)] [(.int (own_eqv b1 b1 p0 p0))])
        refine gIf X24 hx 182 (hb hby at_165) (by decide) (by decide) (fun q => absurd (o_eqT q) (own_qs _ _)) (fun _ => ?_)
        show Go _ _ _ _ _ _ _ T24 (mkF m 168 #[.val (.int p0), .val (.int p1), .val (.int p2), .val (.ref b1), .val (.ref b3), .val (.int (0 : Int32)), .val (.int (0 : Int32)), .val (.int (1 : Int32)), .val (.int p0), .val (.ref b17), .val (.ref b19), .val (.int (0 : Int32)), .val (.ref bq21)] [])
        refine gAload X24 hx (hb hby at_168) rfl rfl ?_
        refine gAload X24 hx (hb hby at_170) rfl rfl ?_
        refine gVirtual X24 hx hZ (y := (⟨"com/example/renkei/renkei/reader/JsonValue", "equals", "(Ljava/lang/Object;)Z"⟩ : MethodName)) (a := b17) hown (by decide) (tw hw 74 rfl) (tw hw 75 rfl) (tw hw 76 rfl) (tw hw 77 rfl) (tw hw 65 rfl) (tw hw 78 rfl) A17__21 (own_rm9I l Z a0 hw b17 bq21 T21.heap n0 Z_21 _ _ Q0_18__21 Q1_18__21 Aq21) e24 (by rw [hml]; rfl) (argsL := [(.ref bq21)]) (rest := []) (W := 0) (lenOf own_pd4 rfl) rfl (Nat.le_of_eq rfl) (by decide) (by decide) (by decide) (by decide) (hb hby at_172) ?_
        rintro _ T25 L25 X25 ⟨rfl, Nq25, e25⟩
        have N_25 := Fr.app N_24 Nq25
        show Go _ _ _ _ _ _ _ T25 (mkF m 175 #[.val (.int p0), .val (.int p1), .val (.int p2), .val (.ref b1), .val (.ref b3), .val (.int (0 : Int32)), .val (.int (0 : Int32)), .val (.int (1 : Int32)), .val (.int p0), .val (.ref b17), .val (.ref b19), .val (.int (0 : Int32)), .val (.ref bq21)] [(.int (0 : Int32))])
        refine gIf X25 hx 182 (hb hby at_175) (by decide) (by decide) (fun q => absurd (by decide) (o_neT q)) (fun _ => ?_)
        show Go _ _ _ _ _ _ _ T25 (mkF m 178 #[.val (.int p0), .val (.int p1), .val (.int p2), .val (.ref b1), .val (.ref b3), .val (.int (0 : Int32)), .val (.int (0 : Int32)), .val (.int (1 : Int32)), .val (.int p0), .val (.ref b17), .val (.ref b19), .val (.int (0 : Int32)), .val (.ref bq21)] [])
        refine gIconst X25 hx (1 : Int32) (hb hby at_178) rfl ?_
        refine gGoto X25 hx 183 (hb hby at_179) (by decide) (by decide) ?_
        exact gRetZ X25 hx hlk hret (by simp) (hb hby at_183) (z' := (1 : Int32)) rfl (by decide) (by decide) ⟨rfl, N_25⟩
    · have hc6 := o_eqF hT
      show Go _ _ _ _ _ _ _ T4 (mkF m 36 #[.val (.int p0), .val (.int p1), .val (.int p2), .val (.ref b1), .val (.ref b3), .val (.int (0 : Int32)), .unset, .unset, .unset, .unset, .unset, .unset, .unset] [])
      refine gIconst X4 hx (1 : Int32) (hb hby at_36) rfl ?_
      refine gGoto X4 hx 41 (hb hby at_37) (by decide) (by decide) ?_
      refine gIstore X4 hx #[.val (.int p0), .val (.int p1), .val (.int p2), .val (.ref b1), .val (.ref b3), .val (.int (0 : Int32)), .val (.int (1 : Int32)), .unset, .unset, .unset, .unset, .unset, .unset] (hb hby at_41) rfl ?_
      refine gIloadN X4 hx (hb hby at_43) rfl ?_
      refine gIconst X4 hx (4 : Int32) (hb hby at_44) rfl ?_
      refine gIand X4 hx (hb hby at_45) ?_
      refine gIf X4 hx 53 (hb hby at_46) (by decide) (by decide) (fun hT => ?_) (fun hT => ?_)
      · have hc26 := o_eqT hT
        show Go _ _ _ _ _ _ _ T4 (mkF m 53 #[.val (.int p0), .val (.int p1), .val (.int p2), .val (.ref b1), .val (.ref b3), .val (.int (0 : Int32)), .val (.int (1 : Int32)), .unset, .unset, .unset, .unset, .unset, .unset] [])
        refine gIconst X4 hx (0 : Int32) (hb hby at_53) rfl ?_
        refine gIstore X4 hx #[.val (.int p0), .val (.int p1), .val (.int p2), .val (.ref b1), .val (.ref b3), .val (.int (0 : Int32)), .val (.int (1 : Int32)), .val (.int (0 : Int32)), .unset, .unset, .unset, .unset, .unset] (hb hby at_54) rfl ?_
        refine gIload X4 hx (hb hby at_56) rfl ?_
        refine gIf X4 hx 65 (hb hby at_58) (by decide) (by decide) (fun _ => ?_) (fun q => absurd (by decide) (o_eqF q))
        show Go _ _ _ _ _ _ _ T4 (mkF m 65 #[.val (.int p0), .val (.int p1), .val (.int p2), .val (.ref b1), .val (.ref b3), .val (.int (0 : Int32)), .val (.int (1 : Int32)), .val (.int (0 : Int32)), .unset, .unset, .unset, .unset, .unset] [])
        refine gIloadN X4 hx (hb hby at_65) rfl ?_
        refine gIstore X4 hx #[.val (.int p0), .val (.int p1), .val (.int p2), .val (.ref b1), .val (.ref b3), .val (.int (0 : Int32)), .val (.int (1 : Int32)), .val (.int (0 : Int32)), .val (.int p1), .unset, .unset, .unset, .unset] (hb hby at_66) rfl ?_
        refine gNew X4 hx hZ hown (tw hw 63 rfl) (tw hw 64 rfl) (tw hw 65 rfl) rfl (hb hby at_68) (by decide) (by decide) ?_
        intro T27 h27 b27 X27 e27 E27 g27 A27 D27
        have lt_b1_b27 : b1 < b27 := by rw [g27]; exact A1__4.lt
        have lt_b3_b27 : b3 < b27 := by rw [g27]; exact A3__4.lt
        have g_b27 : n0 ≤ b27 := by rw [g27]; exact Z_4
        have A1__27 := A1__4.ext E27
        have F_texts_b1__27 := F_texts_b1__4.ext E27
        have F_ints_b1__27 := F_ints_b1__4.ext E27
        have F_typesAndSteps_b1__27 := F_typesAndSteps_b1__4.ext E27
        have F_keptLines_b1__27 := F_keptLines_b1__4.ext E27
        have F_farValues_b1__27 := F_farValues_b1__4.ext E27
        have F_farLines_b1__27 := F_farLines_b1__4.ext E27
        have A3__27 := A3__4.ext E27
        have F_texts_b3__27 := F_texts_b3__4.ext E27
        have F_ints_b3__27 := F_ints_b3__4.ext E27
        have F_typesAndSteps_b3__27 := F_typesAndSteps_b3__4.ext E27
        have F_keptLines_b3__27 := F_keptLines_b3__4.ext E27
        have F_farValues_b3__27 := F_farValues_b3__4.ext E27
        have F_farLines_b3__27 := F_farLines_b3__4.ext E27
        have Z_27 := Nat.le_trans Z_4 E27.1
        have O_27 := O_4.ext E27
        have F_values_b27 : Fld Z h27 b27 "com/example/renkei/renkei/reader/JsonValue" "values" "Lcom/example/renkei/renkei/reader/ValueStore;" .null := D27 (Or.inr (tw hw 71 rfl)) (ty := (.object "com/example/renkei/renkei/reader/ValueStore")) (by decide)
        have F_value_b27 : Fld Z h27 b27 "com/example/renkei/renkei/reader/JsonValue" "value" "I" (.int (0 : Int32)) := D27 (Or.inr (tw hw 73 rfl)) (ty := .int) (by decide)
        show Go _ _ _ _ _ _ _ T27 (mkF m 71 #[.val (.int p0), .val (.int p1), .val (.int p2), .val (.ref b1), .val (.ref b3), .val (.int (0 : Int32)), .val (.int (1 : Int32)), .val (.int (0 : Int32)), .val (.int p1), .unset, .unset, .unset, .unset] [(.ref b27)])
        refine gDup X27 hx (hb hby at_71) rfl ?_
        refine gAloadN X27 hx (hb hby at_72) rfl rfl ?_
        refine gIloadN X27 hx (hb hby at_73) rfl ?_
        refine gInit X27 hx hZ (y := (⟨"com/example/renkei/renkei/reader/JsonValue", "<init>", "(Lcom/example/renkei/renkei/reader/ValueStore;I)V"⟩ : MethodName)) (a := b27) hown rfl (by decide) (tw hw 66 rfl) (tw hw 67 rfl) (tw hw 65 rfl) (tw hw 68 rfl) (own_rm5 l Z a0 hw b27 b1 p0 h27 n0 Z_27 O_27 A27 g_b27 _ F_values_b27 _ F_value_b27) e27 (by rw [hml]; rfl) (argsL := [(.ref b1), (.int p0)]) (rest := [(.ref b27)]) (W := 1) (lenOf own_pd1 rfl) rfl (Nat.le_of_eq rfl) (by decide) (by decide) (by decide) (by decide) (hb hby at_74) ?_
        rintro _ T28 L28 X28 ⟨rfl, Nq28, Kq28, Q0_28, Q1_28⟩
        have N_28 := Fr.app N_4 Nq28
        have A1__28 := A1__27.keep Kq28
        have F_texts_b1__28 := F_texts_b1__27.keep Kq28 (ninS (Nat.ne_of_lt lt_b1_b27) nin0)
        have F_ints_b1__28 := F_ints_b1__27.keep Kq28 (ninS (Nat.ne_of_lt lt_b1_b27) nin0)
        have F_typesAndSteps_b1__28 := F_typesAndSteps_b1__27.keep Kq28 (ninS (Nat.ne_of_lt lt_b1_b27) nin0)
        have F_keptLines_b1__28 := F_keptLines_b1__27.keep Kq28 (ninS (Nat.ne_of_lt lt_b1_b27) nin0)
        have F_farValues_b1__28 := F_farValues_b1__27.keep Kq28 (ninS (Nat.ne_of_lt lt_b1_b27) nin0)
        have F_farLines_b1__28 := F_farLines_b1__27.keep Kq28 (ninS (Nat.ne_of_lt lt_b1_b27) nin0)
        have A3__28 := A3__27.keep Kq28
        have F_texts_b3__28 := F_texts_b3__27.keep Kq28 (ninS (Nat.ne_of_lt lt_b3_b27) nin0)
        have F_ints_b3__28 := F_ints_b3__27.keep Kq28 (ninS (Nat.ne_of_lt lt_b3_b27) nin0)
        have F_typesAndSteps_b3__28 := F_typesAndSteps_b3__27.keep Kq28 (ninS (Nat.ne_of_lt lt_b3_b27) nin0)
        have F_keptLines_b3__28 := F_keptLines_b3__27.keep Kq28 (ninS (Nat.ne_of_lt lt_b3_b27) nin0)
        have F_farValues_b3__28 := F_farValues_b3__27.keep Kq28 (ninS (Nat.ne_of_lt lt_b3_b27) nin0)
        have F_farLines_b3__28 := F_farLines_b3__27.keep Kq28 (ninS (Nat.ne_of_lt lt_b3_b27) nin0)
        have A27__28 := A27.keep Kq28
        have Z_28 := Nat.le_trans Z_27 Kq28.1
        have O_28 := O_27.keep Kq28 (allS g_b27 all0)
        show Go _ _ _ _ _ _ _ T28 (mkF m 77 #[.val (.int p0), .val (.int p1), .val (.int p2), .val (.ref b1), .val (.ref b3), .val (.int (0 : Int32)), .val (.int (1 : Int32)), .val (.int (0 : Int32)), .val (.int p1), .unset, .unset, .unset, .unset] [(.ref b27)])
        refine gAstore X28 hx #[.val (.int p0), .val (.int p1), .val (.int p2), .val (.ref b1), .val (.ref b3), .val (.int (0 : Int32)), .val (.int (1 : Int32)), .val (.int (0 : Int32)), .val (.int p1), .val (.ref b27), .unset, .unset, .unset] (hb hby at_77) rfl rfl ?_
        refine gNew X28 hx hZ hown (tw hw 63 rfl) (tw hw 64 rfl) (tw hw 65 rfl) rfl (hb hby at_79) (by decide) (by decide) ?_
        intro T29 h29 b29 X29 e29 E29 g29 A29 D29
        have lt_b1_b29 : b1 < b29 := by rw [g29]; exact A1__28.lt
        have lt_b3_b29 : b3 < b29 := by rw [g29]; exact A3__28.lt
        have lt_b27_b29 : b27 < b29 := by rw [g29]; exact A27__28.lt
        have g_b29 : n0 ≤ b29 := by rw [g29]; exact Z_28
        have A1__29 := A1__28.ext E29
        have F_texts_b1__29 := F_texts_b1__28.ext E29
        have F_ints_b1__29 := F_ints_b1__28.ext E29
        have F_typesAndSteps_b1__29 := F_typesAndSteps_b1__28.ext E29
        have F_keptLines_b1__29 := F_keptLines_b1__28.ext E29
        have F_farValues_b1__29 := F_farValues_b1__28.ext E29
        have F_farLines_b1__29 := F_farLines_b1__28.ext E29
        have A3__29 := A3__28.ext E29
        have F_texts_b3__29 := F_texts_b3__28.ext E29
        have F_ints_b3__29 := F_ints_b3__28.ext E29
        have F_typesAndSteps_b3__29 := F_typesAndSteps_b3__28.ext E29
        have F_keptLines_b3__29 := F_keptLines_b3__28.ext E29
        have F_farValues_b3__29 := F_farValues_b3__28.ext E29
        have F_farLines_b3__29 := F_farLines_b3__28.ext E29
        have A27__29 := A27__28.ext E29
        have Q0_28__29 := Q0_28.ext E29
        have Q1_28__29 := Q1_28.ext E29
        have Z_29 := Nat.le_trans Z_28 E29.1
        have O_29 := O_28.ext E29
        have F_values_b29 : Fld Z h29 b29 "com/example/renkei/renkei/reader/JsonValue" "values" "Lcom/example/renkei/renkei/reader/ValueStore;" .null := D29 (Or.inr (tw hw 71 rfl)) (ty := (.object "com/example/renkei/renkei/reader/ValueStore")) (by decide)
        have F_value_b29 : Fld Z h29 b29 "com/example/renkei/renkei/reader/JsonValue" "value" "I" (.int (0 : Int32)) := D29 (Or.inr (tw hw 73 rfl)) (ty := .int) (by decide)
        show Go _ _ _ _ _ _ _ T29 (mkF m 82 #[.val (.int p0), .val (.int p1), .val (.int p2), .val (.ref b1), .val (.ref b3), .val (.int (0 : Int32)), .val (.int (1 : Int32)), .val (.int (0 : Int32)), .val (.int p1), .val (.ref b27), .unset, .unset, .unset] [(.ref b29)])
        refine gDup X29 hx (hb hby at_82) rfl ?_
        refine gIload X29 hx (hb hby at_83) rfl ?_
        refine gIf X29 hx 92 (hb hby at_85) (by decide) (by decide) (fun _ => ?_) (fun q => absurd (by decide) (o_eqF q))
        show Go _ _ _ _ _ _ _ T29 (mkF m 92 #[.val (.int p0), .val (.int p1), .val (.int p2), .val (.ref b1), .val (.ref b3), .val (.int (0 : Int32)), .val (.int (1 : Int32)), .val (.int (0 : Int32)), .val (.int p1), .val (.ref b27), .unset, .unset, .unset] [(.ref b29), (.ref b29)])
        refine gAload X29 hx (hb hby at_92) rfl rfl ?_
        refine gIload X29 hx (hb hby at_94) rfl ?_
        refine gInit X29 hx hZ (y := (⟨"com/example/renkei/renkei/reader/JsonValue", "<init>", "(Lcom/example/renkei/renkei/reader/ValueStore;I)V"⟩ : MethodName)) (a := b29) hown rfl (by decide) (tw hw 66 rfl) (tw hw 67 rfl) (tw hw 65 rfl) (tw hw 68 rfl) (own_rm5 l Z a0 hw b29 b3 p1 h29 n0 Z_29 O_29 A29 g_b29 _ F_values_b29 _ F_value_b29) e29 (by rw [hml]; rfl) (argsL := [(.ref b3), (.int p1)]) (rest := [(.ref b29)]) (W := 1) (lenOf own_pd1 rfl) rfl (Nat.le_of_eq rfl) (by decide) (by decide) (by decide) (by decide) (hb hby at_96) ?_
        rintro _ T30 L30 X30 ⟨rfl, Nq30, Kq30, Q0_30, Q1_30⟩
        have N_30 := Fr.app N_28 Nq30
        have A1__30 := A1__29.keep Kq30
        have F_texts_b1__30 := F_texts_b1__29.keep Kq30 (ninS (Nat.ne_of_lt lt_b1_b29) nin0)
        have F_ints_b1__30 := F_ints_b1__29.keep Kq30 (ninS (Nat.ne_of_lt lt_b1_b29) nin0)
        have F_typesAndSteps_b1__30 := F_typesAndSteps_b1__29.keep Kq30 (ninS (Nat.ne_of_lt lt_b1_b29) nin0)
        have F_keptLines_b1__30 := F_keptLines_b1__29.keep Kq30 (ninS (Nat.ne_of_lt lt_b1_b29) nin0)
        have F_farValues_b1__30 := F_farValues_b1__29.keep Kq30 (ninS (Nat.ne_of_lt lt_b1_b29) nin0)
        have F_farLines_b1__30 := F_farLines_b1__29.keep Kq30 (ninS (Nat.ne_of_lt lt_b1_b29) nin0)
        have A3__30 := A3__29.keep Kq30
        have F_texts_b3__30 := F_texts_b3__29.keep Kq30 (ninS (Nat.ne_of_lt lt_b3_b29) nin0)
        have F_ints_b3__30 := F_ints_b3__29.keep Kq30 (ninS (Nat.ne_of_lt lt_b3_b29) nin0)
        have F_typesAndSteps_b3__30 := F_typesAndSteps_b3__29.keep Kq30 (ninS (Nat.ne_of_lt lt_b3_b29) nin0)
        have F_keptLines_b3__30 := F_keptLines_b3__29.keep Kq30 (ninS (Nat.ne_of_lt lt_b3_b29) nin0)
        have F_farValues_b3__30 := F_farValues_b3__29.keep Kq30 (ninS (Nat.ne_of_lt lt_b3_b29) nin0)
        have F_farLines_b3__30 := F_farLines_b3__29.keep Kq30 (ninS (Nat.ne_of_lt lt_b3_b29) nin0)
        have A27__30 := A27__29.keep Kq30
        have Q0_28__30 := Q0_28__29.keep Kq30 (ninS (Nat.ne_of_lt lt_b27_b29) nin0)
        have Q1_28__30 := Q1_28__29.keep Kq30 (ninS (Nat.ne_of_lt lt_b27_b29) nin0)
        have A29__30 := A29.keep Kq30
        have Z_30 := Nat.le_trans Z_29 Kq30.1
        have O_30 := O_29.keep Kq30 (allS g_b29 all0)
        show Go _ _ _ _ _ _ _ T30 (mkF m 99 #[.val (.int p0), .val (.int p1), .val (.int p2), .val (.ref b1), .val (.ref b3), .val (.int (0 : Int32)), .val (.int (1 : Int32)), .val (.int (0 : Int32)), .val (.int p1), .val (.ref b27), .unset, .unset, .unset] [(.ref b29)])
        refine gAstore X30 hx #[.val (.int p0), .val (.int p1), .val (.int p2), .val (.ref b1), .val (.ref b3), .val (.int (0 : Int32)), .val (.int (1 : Int32)), .val (.int (0 : Int32)), .val (.int p1), .val (.ref b27), .val (.ref b29), .unset, .unset] (hb hby at_99) rfl rfl ?_
        refine gIload X30 hx (hb hby at_101) rfl ?_
        refine gIf X30 hx 116 (hb hby at_103) (by decide) (by decide) (fun _ => ?_) (fun q => absurd (by decide) (o_eqF q))
        show Go _ _ _ _ _ _ _ T30 (mkF m 116 #[.val (.int p0), .val (.int p1), .val (.int p2), .val (.ref b1), .val (.ref b3), .val (.int (0 : Int32)), .val (.int (1 : Int32)), .val (.int (0 : Int32)), .val (.int p1), .val (.ref b27), .val (.ref b29), .unset, .unset] [])
        refine gIconst X30 hx (0 : Int32) (hb hby at_116) rfl ?_
        refine gIstore X30 hx #[.val (.int p0), .val (.int p1), .val (.int p2), .val (.ref b1), .val (.ref b3), .val (.int (0 : Int32)), .val (.int (1 : Int32)), .val (.int (0 : Int32)), .val (.int p1), .val (.ref b27), .val (.ref b29), .val (.int (0 : Int32)), .unset] (hb hby at_117) rfl ?_
        refine gIload X30 hx (hb hby at_119) rfl ?_
        refine gIf X30 hx 128 (hb hby at_121) (by decide) (by decide) (fun q => absurd (o_eqT q) (by decide)) (fun _ => ?_)
        show Go _ _ _ _ _ _ _ T30 (mkF m 124 #[.val (.int p0), .val (.int p1), .val (.int p2), .val (.ref b1), .val (.ref b3), .val (.int (0 : Int32)), .val (.int (1 : Int32)), .val (.int (0 : Int32)), .val (.int p1), .val (.ref b27), .val (.ref b29), .val (.int (0 : Int32)), .unset] [])
        refine gNull X30 hx (hb hby at_124) ?_
        refine gGoto X30 hx 132 (hb hby at_125) (by decide) (by decide) ?_
        refine gAstore X30 hx #[.val (.int p0), .val (.int p1), .val (.int p2), .val (.ref b1), .val (.ref b3), .val (.int (0 : Int32)), .val (.int (1 : Int32)), .val (.int (0 : Int32)), .val (.int p1), .val (.ref b27), .val (.ref b29), .val (.int (0 : Int32)), .val .null] (hb hby at_132) rfl rfl ?_
        refine gAload X30 hx (hb hby at_134) rfl rfl ?_
        refine gAload X30 hx (hb hby at_136) rfl rfl ?_
        refine gVirtual X30 hx hZ (y := (⟨"com/example/renkei/renkei/reader/JsonValue", "equals", "(Ljava/lang/Object;)Z"⟩ : MethodName)) (a := b27) hown (by decide) (tw hw 74 rfl) (tw hw 75 rfl) (tw hw 76 rfl) (tw hw 77 rfl) (tw hw 65 rfl) (tw hw 78 rfl) A27__30 (own_rm9J l Z a0 hw b27 b29 T30.heap n0 Z_30 _ _ _ _ Q0_28__30 Q1_28__30 A29__30 Q0_30 Q1_30) rfl (by rw [hml]; rfl) (argsL := [(.ref b29)]) (rest := []) (W := 0) (lenOf own_pd4 rfl) rfl (Nat.le_of_eq rfl) (by decide) (by decide) (by decide) (by decide) (hb hby at_138) ?_
        rintro _ T31 L31 X31 ⟨rfl, Nq31, e31⟩
        have N_31 := Fr.app N_30 Nq31
        show Go _ _ _ _ _ _ _ T31 (mkF m 141 #[.val (.int p0), .val (.int p1), .val (.int p2), .val (.ref b1), .val (.ref b3), .val (.int (0 : Int32)), .val (.int (1 : Int32)), .val (.int (0 : Int32)), .val (.int p1), .val (.ref b27), .val (.ref b29), .val (.int (0 : Int32)), .val .null] [(.int (own_eqv b3 b1 p1 p0))])
        refine gIload X31 hx (hb hby at_141) rfl ?_
        refine gIcmp X31 hx 182 (hb hby at_143) (by decide) (by decide) (fun q => absurd (own_qn (Ne.symm (Nat.ne_of_lt lt_b1_b3))) (o_neT q)) (fun _ => ?_)
        show Go _ _ _ _ _ _ _ T31 (mkF m 146 #[.val (.int p0), .val (.int p1), .val (.int p2), .val (.ref b1), .val (.ref b3), .val (.int (0 : Int32)), .val (.int (1 : Int32)), .val (.int (0 : Int32)), .val (.int p1), .val (.ref b27), .val (.ref b29), .val (.int (0 : Int32)), .val .null] [])
        refine gAload X31 hx (hb hby at_146) rfl rfl ?_
        refine gAload X31 hx (hb hby at_148) rfl rfl ?_
        refine gVirtual X31 hx hZ (y := (⟨"com/example/renkei/renkei/reader/JsonValue", "equals", "(Ljava/lang/Object;)Z"⟩ : MethodName)) (a := b29) hown (by decide) (tw hw 74 rfl) (tw hw 75 rfl) (tw hw 76 rfl) (tw hw 77 rfl) (tw hw 65 rfl) (tw hw 78 rfl) A29__30 (own_rm9J l Z a0 hw b29 b27 T30.heap n0 Z_30 _ _ _ _ Q0_30 Q1_30 A27__30 Q0_28__30 Q1_28__30) e31 (by rw [hml]; rfl) (argsL := [(.ref b27)]) (rest := []) (W := 0) (lenOf own_pd4 rfl) rfl (Nat.le_of_eq rfl) (by decide) (by decide) (by decide) (by decide) (hb hby at_150) ?_
        rintro _ T32 L32 X32 ⟨rfl, Nq32, e32⟩
        have N_32 := Fr.app N_31 Nq32
        show Go _ _ _ _ _ _ _ T32 (mkF m 153 #[.val (.int p0), .val (.int p1), .val (.int p2), .val (.ref b1), .val (.ref b3), .val (.int (0 : Int32)), .val (.int (1 : Int32)), .val (.int (0 : Int32)), .val (.int p1), .val (.ref b27), .val (.ref b29), .val (.int (0 : Int32)), .val .null] [(.int (own_eqv b1 b3 p0 p1))])
        refine gIload X32 hx (hb hby at_153) rfl ?_
        refine gIcmp X32 hx 182 (hb hby at_155) (by decide) (by decide) (fun q => absurd (own_qn (Nat.ne_of_lt lt_b1_b3)) (o_neT q)) (fun _ => ?_)
        show Go _ _ _ _ _ _ _ T32 (mkF m 158 #[.val (.int p0), .val (.int p1), .val (.int p2), .val (.ref b1), .val (.ref b3), .val (.int (0 : Int32)), .val (.int (1 : Int32)), .val (.int (0 : Int32)), .val (.int p1), .val (.ref b27), .val (.ref b29), .val (.int (0 : Int32)), .val .null] [])
        refine gAload X32 hx (hb hby at_158) rfl rfl ?_
        refine gAload X32 hx (hb hby at_160) rfl rfl ?_
        refine gVirtual X32 hx hZ (y := (⟨"com/example/renkei/renkei/reader/JsonValue", "equals", "(Ljava/lang/Object;)Z"⟩ : MethodName)) (a := b27) hown (by decide) (tw hw 74 rfl) (tw hw 75 rfl) (tw hw 76 rfl) (tw hw 77 rfl) (tw hw 65 rfl) (tw hw 78 rfl) A27__30 (own_rm9J l Z a0 hw b27 b27 T30.heap n0 Z_30 _ _ _ _ Q0_28__30 Q1_28__30 A27__30 Q0_28__30 Q1_28__30) e32 (by rw [hml]; rfl) (argsL := [(.ref b27)]) (rest := []) (W := 0) (lenOf own_pd4 rfl) rfl (Nat.le_of_eq rfl) (by decide) (by decide) (by decide) (by decide) (hb hby at_162) ?_
        rintro _ T33 L33 X33 ⟨rfl, Nq33, e33⟩
        have N_33 := Fr.app N_32 Nq33
        show Go _ _ _ _ _ _ _ T33 (mkF m 165 #[.val (.int p0), .val (.int p1), .val (.int p2), .val (.ref b1), .val (.ref b3), .val (.int (0 : Int32)), .val (.int (1 : Int32)), .val (.int (0 : Int32)), .val (.int p1), .val (.ref b27), .val (.ref b29), .val (.int (0 : Int32)), .val .null] [(.int (own_eqv b1 b1 p0 p0))])
        refine gIf X33 hx 182 (hb hby at_165) (by decide) (by decide) (fun q => absurd (o_eqT q) (own_qs _ _)) (fun _ => ?_)
        show Go _ _ _ _ _ _ _ T33 (mkF m 168 #[.val (.int p0), .val (.int p1), .val (.int p2), .val (.ref b1), .val (.ref b3), .val (.int (0 : Int32)), .val (.int (1 : Int32)), .val (.int (0 : Int32)), .val (.int p1), .val (.ref b27), .val (.ref b29), .val (.int (0 : Int32)), .val .null] [])
        refine gAload X33 hx (hb hby at_168) rfl rfl ?_
        refine gAload X33 hx (hb hby at_170) rfl rfl ?_
        refine gVirtual X33 hx hZ (y := (⟨"com/example/renkei/renkei/reader/JsonValue", "equals", "(Ljava/lang/Object;)Z"⟩ : MethodName)) (a := b27) hown (by decide) (tw hw 74 rfl) (tw hw 75 rfl) (tw hw 76 rfl) (tw hw 77 rfl) (tw hw 65 rfl) (tw hw 78 rfl) A27__30 (own_rm9N l Z a0 hw b27 T30.heap n0 Z_30 _ _ Q0_28__30 Q1_28__30) e33 (by rw [hml]; rfl) (argsL := [.null]) (rest := []) (W := 0) (lenOf own_pd4 rfl) rfl (Nat.le_of_eq rfl) (by decide) (by decide) (by decide) (by decide) (hb hby at_172) ?_
        rintro _ T34 L34 X34 ⟨rfl, Nq34, e34⟩
        have N_34 := Fr.app N_33 Nq34
        show Go _ _ _ _ _ _ _ T34 (mkF m 175 #[.val (.int p0), .val (.int p1), .val (.int p2), .val (.ref b1), .val (.ref b3), .val (.int (0 : Int32)), .val (.int (1 : Int32)), .val (.int (0 : Int32)), .val (.int p1), .val (.ref b27), .val (.ref b29), .val (.int (0 : Int32)), .val .null] [(.int (0 : Int32))])
        refine gIf X34 hx 182 (hb hby at_175) (by decide) (by decide) (fun q => absurd (by decide) (o_neT q)) (fun _ => ?_)
        show Go _ _ _ _ _ _ _ T34 (mkF m 178 #[.val (.int p0), .val (.int p1), .val (.int p2), .val (.ref b1), .val (.ref b3), .val (.int (0 : Int32)), .val (.int (1 : Int32)), .val (.int (0 : Int32)), .val (.int p1), .val (.ref b27), .val (.ref b29), .val (.int (0 : Int32)), .val .null] [])
        refine gIconst X34 hx (1 : Int32) (hb hby at_178) rfl ?_
        refine gGoto X34 hx 183 (hb hby at_179) (by decide) (by decide) ?_
        exact gRetZ X34 hx hlk hret (by simp) (hb hby at_183) (z' := (1 : Int32)) rfl (by decide) (by decide) ⟨rfl, N_34⟩
      · have hc26 := o_eqF hT
        show Go _ _ _ _ _ _ _ T4 (mkF m 49 #[.val (.int p0), .val (.int p1), .val (.int p2), .val (.ref b1), .val (.ref b3), .val (.int (0 : Int32)), .val (.int (1 : Int32)), .unset, .unset, .unset, .unset, .unset, .unset] [])
        refine gIconst X4 hx (1 : Int32) (hb hby at_49) rfl ?_
        refine gGoto X4 hx 54 (hb hby at_50) (by decide) (by decide) ?_
        refine gIstore X4 hx #[.val (.int p0), .val (.int p1), .val (.int p2), .val (.ref b1), .val (.ref b3), .val (.int (0 : Int32)), .val (.int (1 : Int32)), .val (.int (1 : Int32)), .unset, .unset, .unset, .unset, .unset] (hb hby at_54) rfl ?_
        refine gIload X4 hx (hb hby at_56) rfl ?_
        refine gIf X4 hx 65 (hb hby at_58) (by decide) (by decide) (fun q => absurd (o_eqT q) (by decide)) (fun _ => ?_)
        show Go _ _ _ _ _ _ _ T4 (mkF m 61 #[.val (.int p0), .val (.int p1), .val (.int p2), .val (.ref b1), .val (.ref b3), .val (.int (0 : Int32)), .val (.int (1 : Int32)), .val (.int (1 : Int32)), .unset, .unset, .unset, .unset, .unset] [])
        refine gIloadN X4 hx (hb hby at_61) rfl ?_
        refine gGoto X4 hx 66 (hb hby at_62) (by decide) (by decide) ?_
        refine gIstore X4 hx #[.val (.int p0), .val (.int p1), .val (.int p2), .val (.ref b1), .val (.ref b3), .val (.int (0 : Int32)), .val (.int (1 : Int32)), .val (.int (1 : Int32)), .val (.int p0), .unset, .unset, .unset, .unset] (hb hby at_66) rfl ?_
        refine gNew X4 hx hZ hown (tw hw 63 rfl) (tw hw 64 rfl) (tw hw 65 rfl) rfl (hb hby at_68) (by decide) (by decide) ?_
        intro T35 h35 b35 X35 e35 E35 g35 A35 D35
        have lt_b1_b35 : b1 < b35 := by rw [g35]; exact A1__4.lt
        have lt_b3_b35 : b3 < b35 := by rw [g35]; exact A3__4.lt
        have g_b35 : n0 ≤ b35 := by rw [g35]; exact Z_4
        have A1__35 := A1__4.ext E35
        have F_texts_b1__35 := F_texts_b1__4.ext E35
        have F_ints_b1__35 := F_ints_b1__4.ext E35
        have F_typesAndSteps_b1__35 := F_typesAndSteps_b1__4.ext E35
        have F_keptLines_b1__35 := F_keptLines_b1__4.ext E35
        have F_farValues_b1__35 := F_farValues_b1__4.ext E35
        have F_farLines_b1__35 := F_farLines_b1__4.ext E35
        have A3__35 := A3__4.ext E35
        have F_texts_b3__35 := F_texts_b3__4.ext E35
        have F_ints_b3__35 := F_ints_b3__4.ext E35
        have F_typesAndSteps_b3__35 := F_typesAndSteps_b3__4.ext E35
        have F_keptLines_b3__35 := F_keptLines_b3__4.ext E35
        have F_farValues_b3__35 := F_farValues_b3__4.ext E35
        have F_farLines_b3__35 := F_farLines_b3__4.ext E35
        have Z_35 := Nat.le_trans Z_4 E35.1
        have O_35 := O_4.ext E35
        have F_values_b35 : Fld Z h35 b35 "com/example/renkei/renkei/reader/JsonValue" "values" "Lcom/example/renkei/renkei/reader/ValueStore;" .null := D35 (Or.inr (tw hw 71 rfl)) (ty := (.object "com/example/renkei/renkei/reader/ValueStore")) (by decide)
        have F_value_b35 : Fld Z h35 b35 "com/example/renkei/renkei/reader/JsonValue" "value" "I" (.int (0 : Int32)) := D35 (Or.inr (tw hw 73 rfl)) (ty := .int) (by decide)
        show Go _ _ _ _ _ _ _ T35 (mkF m 71 #[.val (.int p0), .val (.int p1), .val (.int p2), .val (.ref b1), .val (.ref b3), .val (.int (0 : Int32)), .val (.int (1 : Int32)), .val (.int (1 : Int32)), .val (.int p0), .unset, .unset, .unset, .unset] [(.ref b35)])
        refine gDup X35 hx (hb hby at_71) rfl ?_
        refine gAloadN X35 hx (hb hby at_72) rfl rfl ?_
        refine gIloadN X35 hx (hb hby at_73) rfl ?_
        refine gInit X35 hx hZ (y := (⟨"com/example/renkei/renkei/reader/JsonValue", "<init>", "(Lcom/example/renkei/renkei/reader/ValueStore;I)V"⟩ : MethodName)) (a := b35) hown rfl (by decide) (tw hw 66 rfl) (tw hw 67 rfl) (tw hw 65 rfl) (tw hw 68 rfl) (own_rm5 l Z a0 hw b35 b1 p0 h35 n0 Z_35 O_35 A35 g_b35 _ F_values_b35 _ F_value_b35) e35 (by rw [hml]; rfl) (argsL := [(.ref b1), (.int p0)]) (rest := [(.ref b35)]) (W := 1) (lenOf own_pd1 rfl) rfl (Nat.le_of_eq rfl) (by decide) (by decide) (by decide) (by decide) (hb hby at_74) ?_
        rintro _ T36 L36 X36 ⟨rfl, Nq36, Kq36, Q0_36, Q1_36⟩
        have N_36 := Fr.app N_4 Nq36
        have A1__36 := A1__35.keep Kq36
        have F_texts_b1__36 := F_texts_b1__35.keep Kq36 (ninS (Nat.ne_of_lt lt_b1_b35) nin0)
        have F_ints_b1__36 := F_ints_b1__35.keep Kq36 (ninS (Nat.ne_of_lt lt_b1_b35) nin0)
        have F_typesAndSteps_b1__36 := F_typesAndSteps_b1__35.keep Kq36 (ninS (Nat.ne_of_lt lt_b1_b35) nin0)
        have F_keptLines_b1__36 := F_keptLines_b1__35.keep Kq36 (ninS (Nat.ne_of_lt lt_b1_b35) nin0)
        have F_farValues_b1__36 := F_farValues_b1__35.keep Kq36 (ninS (Nat.ne_of_lt lt_b1_b35) nin0)
        have F_farLines_b1__36 := F_farLines_b1__35.keep Kq36 (ninS (Nat.ne_of_lt lt_b1_b35) nin0)
        have A3__36 := A3__35.keep Kq36
        have F_texts_b3__36 := F_texts_b3__35.keep Kq36 (ninS (Nat.ne_of_lt lt_b3_b35) nin0)
        have F_ints_b3__36 := F_ints_b3__35.keep Kq36 (ninS (Nat.ne_of_lt lt_b3_b35) nin0)
        have F_typesAndSteps_b3__36 := F_typesAndSteps_b3__35.keep Kq36 (ninS (Nat.ne_of_lt lt_b3_b35) nin0)
        have F_keptLines_b3__36 := F_keptLines_b3__35.keep Kq36 (ninS (Nat.ne_of_lt lt_b3_b35) nin0)
        have F_farValues_b3__36 := F_farValues_b3__35.keep Kq36 (ninS (Nat.ne_of_lt lt_b3_b35) nin0)
        have F_farLines_b3__36 := F_farLines_b3__35.keep Kq36 (ninS (Nat.ne_of_lt lt_b3_b35) nin0)
        have A35__36 := A35.keep Kq36
        have Z_36 := Nat.le_trans Z_35 Kq36.1
        have O_36 := O_35.keep Kq36 (allS g_b35 all0)
        show Go _ _ _ _ _ _ _ T36 (mkF m 77 #[.val (.int p0), .val (.int p1), .val (.int p2), .val (.ref b1), .val (.ref b3), .val (.int (0 : Int32)), .val (.int (1 : Int32)), .val (.int (1 : Int32)), .val (.int p0), .unset, .unset, .unset, .unset] [(.ref b35)])
        refine gAstore X36 hx #[.val (.int p0), .val (.int p1), .val (.int p2), .val (.ref b1), .val (.ref b3), .val (.int (0 : Int32)), .val (.int (1 : Int32)), .val (.int (1 : Int32)), .val (.int p0), .val (.ref b35), .unset, .unset, .unset] (hb hby at_77) rfl rfl ?_
        refine gNew X36 hx hZ hown (tw hw 63 rfl) (tw hw 64 rfl) (tw hw 65 rfl) rfl (hb hby at_79) (by decide) (by decide) ?_
        intro T37 h37 b37 X37 e37 E37 g37 A37 D37
        have lt_b1_b37 : b1 < b37 := by rw [g37]; exact A1__36.lt
        have lt_b3_b37 : b3 < b37 := by rw [g37]; exact A3__36.lt
        have lt_b35_b37 : b35 < b37 := by rw [g37]; exact A35__36.lt
        have g_b37 : n0 ≤ b37 := by rw [g37]; exact Z_36
        have A1__37 := A1__36.ext E37
        have F_texts_b1__37 := F_texts_b1__36.ext E37
        have F_ints_b1__37 := F_ints_b1__36.ext E37
        have F_typesAndSteps_b1__37 := F_typesAndSteps_b1__36.ext E37
        have F_keptLines_b1__37 := F_keptLines_b1__36.ext E37
        have F_farValues_b1__37 := F_farValues_b1__36.ext E37
        have F_farLines_b1__37 := F_farLines_b1__36.ext E37
        have A3__37 := A3__36.ext E37
        have F_texts_b3__37 := F_texts_b3__36.ext E37
        have F_ints_b3__37 := F_ints_b3__36.ext E37
        have F_typesAndSteps_b3__37 := F_typesAndSteps_b3__36.ext E37
        have F_keptLines_b3__37 := F_keptLines_b3__36.ext E37
        have F_farValues_b3__37 := F_farValues_b3__36.ext E37
        have F_farLines_b3__37 := F_farLines_b3__36.ext E37
        have A35__37 := A35__36.ext E37
        have Q0_36__37 := Q0_36.ext E37
        have Q1_36__37 := Q1_36.ext E37
        have Z_37 := Nat.le_trans Z_36 E37.1
        have O_37 := O_36.ext E37
        have F_values_b37 : Fld Z h37 b37 "com/example/renkei/renkei/reader/JsonValue" "values" "Lcom/example/renkei/renkei/reader/ValueStore;" .null := D37 (Or.inr (tw hw 71 rfl)) (ty := (.object "com/example/renkei/renkei/reader/ValueStore")) (by decide)
        have F_value_b37 : Fld Z h37 b37 "com/example/renkei/renkei/reader/JsonValue" "value" "I" (.int (0 : Int32)) := D37 (Or.inr (tw hw 73 rfl)) (ty := .int) (by decide)
        show Go _ _ _ _ _ _ _ T37 (mkF m 82 #[.val (.int p0), .val (.int p1), .val (.int p2), .val (.ref b1), .val (.ref b3), .val (.int (0 : Int32)), .val (.int (1 : Int32)), .val (.int (1 : Int32)), .val (.int p0), .val (.ref b35), .unset, .unset, .unset] [(.ref b37)])
        refine gDup X37 hx (hb hby at_82) rfl ?_
        refine gIload X37 hx (hb hby at_83) rfl ?_
        refine gIf X37 hx 92 (hb hby at_85) (by decide) (by decide) (fun _ => ?_) (fun q => absurd (by decide) (o_eqF q))
        show Go _ _ _ _ _ _ _ T37 (mkF m 92 #[.val (.int p0), .val (.int p1), .val (.int p2), .val (.ref b1), .val (.ref b3), .val (.int (0 : Int32)), .val (.int (1 : Int32)), .val (.int (1 : Int32)), .val (.int p0), .val (.ref b35), .unset, .unset, .unset] [(.ref b37), (.ref b37)])
        refine gAload X37 hx (hb hby at_92) rfl rfl ?_
        refine gIload X37 hx (hb hby at_94) rfl ?_
        refine gInit X37 hx hZ (y := (⟨"com/example/renkei/renkei/reader/JsonValue", "<init>", "(Lcom/example/renkei/renkei/reader/ValueStore;I)V"⟩ : MethodName)) (a := b37) hown rfl (by decide) (tw hw 66 rfl) (tw hw 67 rfl) (tw hw 65 rfl) (tw hw 68 rfl) (own_rm5 l Z a0 hw b37 b3 p0 h37 n0 Z_37 O_37 A37 g_b37 _ F_values_b37 _ F_value_b37) e37 (by rw [hml]; rfl) (argsL := [(.ref b3), (.int p0)]) (rest := [(.ref b37)]) (W := 1) (lenOf own_pd1 rfl) rfl (Nat.le_of_eq rfl) (by decide) (by decide) (by decide) (by decide) (hb hby at_96) ?_
        rintro _ T38 L38 X38 ⟨rfl, Nq38, Kq38, Q0_38, Q1_38⟩
        have N_38 := Fr.app N_36 Nq38
        have A1__38 := A1__37.keep Kq38
        have F_texts_b1__38 := F_texts_b1__37.keep Kq38 (ninS (Nat.ne_of_lt lt_b1_b37) nin0)
        have F_ints_b1__38 := F_ints_b1__37.keep Kq38 (ninS (Nat.ne_of_lt lt_b1_b37) nin0)
        have F_typesAndSteps_b1__38 := F_typesAndSteps_b1__37.keep Kq38 (ninS (Nat.ne_of_lt lt_b1_b37) nin0)
        have F_keptLines_b1__38 := F_keptLines_b1__37.keep Kq38 (ninS (Nat.ne_of_lt lt_b1_b37) nin0)
        have F_farValues_b1__38 := F_farValues_b1__37.keep Kq38 (ninS (Nat.ne_of_lt lt_b1_b37) nin0)
        have F_farLines_b1__38 := F_farLines_b1__37.keep Kq38 (ninS (Nat.ne_of_lt lt_b1_b37) nin0)
        have A3__38 := A3__37.keep Kq38
        have F_texts_b3__38 := F_texts_b3__37.keep Kq38 (ninS (Nat.ne_of_lt lt_b3_b37) nin0)
        have F_ints_b3__38 := F_ints_b3__37.keep Kq38 (ninS (Nat.ne_of_lt lt_b3_b37) nin0)
        have F_typesAndSteps_b3__38 := F_typesAndSteps_b3__37.keep Kq38 (ninS (Nat.ne_of_lt lt_b3_b37) nin0)
        have F_keptLines_b3__38 := F_keptLines_b3__37.keep Kq38 (ninS (Nat.ne_of_lt lt_b3_b37) nin0)
        have F_farValues_b3__38 := F_farValues_b3__37.keep Kq38 (ninS (Nat.ne_of_lt lt_b3_b37) nin0)
        have F_farLines_b3__38 := F_farLines_b3__37.keep Kq38 (ninS (Nat.ne_of_lt lt_b3_b37) nin0)
        have A35__38 := A35__37.keep Kq38
        have Q0_36__38 := Q0_36__37.keep Kq38 (ninS (Nat.ne_of_lt lt_b35_b37) nin0)
        have Q1_36__38 := Q1_36__37.keep Kq38 (ninS (Nat.ne_of_lt lt_b35_b37) nin0)
        have A37__38 := A37.keep Kq38
        have Z_38 := Nat.le_trans Z_37 Kq38.1
        have O_38 := O_37.keep Kq38 (allS g_b37 all0)
        show Go _ _ _ _ _ _ _ T38 (mkF m 99 #[.val (.int p0), .val (.int p1), .val (.int p2), .val (.ref b1), .val (.ref b3), .val (.int (0 : Int32)), .val (.int (1 : Int32)), .val (.int (1 : Int32)), .val (.int p0), .val (.ref b35), .unset, .unset, .unset] [(.ref b37)])
        refine gAstore X38 hx #[.val (.int p0), .val (.int p1), .val (.int p2), .val (.ref b1), .val (.ref b3), .val (.int (0 : Int32)), .val (.int (1 : Int32)), .val (.int (1 : Int32)), .val (.int p0), .val (.ref b35), .val (.ref b37), .unset, .unset] (hb hby at_99) rfl rfl ?_
        refine gIload X38 hx (hb hby at_101) rfl ?_
        refine gIf X38 hx 116 (hb hby at_103) (by decide) (by decide) (fun _ => ?_) (fun q => absurd (by decide) (o_eqF q))
        show Go _ _ _ _ _ _ _ T38 (mkF m 116 #[.val (.int p0), .val (.int p1), .val (.int p2), .val (.ref b1), .val (.ref b3), .val (.int (0 : Int32)), .val (.int (1 : Int32)), .val (.int (1 : Int32)), .val (.int p0), .val (.ref b35), .val (.ref b37), .unset, .unset] [])
        refine gIconst X38 hx (0 : Int32) (hb hby at_116) rfl ?_
        refine gIstore X38 hx #[.val (.int p0), .val (.int p1), .val (.int p2), .val (.ref b1), .val (.ref b3), .val (.int (0 : Int32)), .val (.int (1 : Int32)), .val (.int (1 : Int32)), .val (.int p0), .val (.ref b35), .val (.ref b37), .val (.int (0 : Int32)), .unset] (hb hby at_117) rfl ?_
        refine gIload X38 hx (hb hby at_119) rfl ?_
        refine gIf X38 hx 128 (hb hby at_121) (by decide) (by decide) (fun q => absurd (o_eqT q) (by decide)) (fun _ => ?_)
        show Go _ _ _ _ _ _ _ T38 (mkF m 124 #[.val (.int p0), .val (.int p1), .val (.int p2), .val (.ref b1), .val (.ref b3), .val (.int (0 : Int32)), .val (.int (1 : Int32)), .val (.int (1 : Int32)), .val (.int p0), .val (.ref b35), .val (.ref b37), .val (.int (0 : Int32)), .unset] [])
        refine gNull X38 hx (hb hby at_124) ?_
        refine gGoto X38 hx 132 (hb hby at_125) (by decide) (by decide) ?_
        refine gAstore X38 hx #[.val (.int p0), .val (.int p1), .val (.int p2), .val (.ref b1), .val (.ref b3), .val (.int (0 : Int32)), .val (.int (1 : Int32)), .val (.int (1 : Int32)), .val (.int p0), .val (.ref b35), .val (.ref b37), .val (.int (0 : Int32)), .val .null] (hb hby at_132) rfl rfl ?_
        refine gAload X38 hx (hb hby at_134) rfl rfl ?_
        refine gAload X38 hx (hb hby at_136) rfl rfl ?_
        refine gVirtual X38 hx hZ (y := (⟨"com/example/renkei/renkei/reader/JsonValue", "equals", "(Ljava/lang/Object;)Z"⟩ : MethodName)) (a := b35) hown (by decide) (tw hw 74 rfl) (tw hw 75 rfl) (tw hw 76 rfl) (tw hw 77 rfl) (tw hw 65 rfl) (tw hw 78 rfl) A35__38 (own_rm9J l Z a0 hw b35 b37 T38.heap n0 Z_38 _ _ _ _ Q0_36__38 Q1_36__38 A37__38 Q0_38 Q1_38) rfl (by rw [hml]; rfl) (argsL := [(.ref b37)]) (rest := []) (W := 0) (lenOf own_pd4 rfl) rfl (Nat.le_of_eq rfl) (by decide) (by decide) (by decide) (by decide) (hb hby at_138) ?_
        rintro _ T39 L39 X39 ⟨rfl, Nq39, e39⟩
        have N_39 := Fr.app N_38 Nq39
        show Go _ _ _ _ _ _ _ T39 (mkF m 141 #[.val (.int p0), .val (.int p1), .val (.int p2), .val (.ref b1), .val (.ref b3), .val (.int (0 : Int32)), .val (.int (1 : Int32)), .val (.int (1 : Int32)), .val (.int p0), .val (.ref b35), .val (.ref b37), .val (.int (0 : Int32)), .val .null] [(.int (own_eqv b3 b1 p0 p0))])
        refine gIload X39 hx (hb hby at_141) rfl ?_
        refine gIcmp X39 hx 182 (hb hby at_143) (by decide) (by decide) (fun q => absurd (own_qn (Ne.symm (Nat.ne_of_lt lt_b1_b3))) (o_neT q)) (fun _ => ?_)
        show Go _ _ _ _ _ _ _ T39 (mkF m 146 #[.val (.int p0), .val (.int p1), .val (.int p2), .val (.ref b1), .val (.ref b3), .val (.int (0 : Int32)), .val (.int (1 : Int32)), .val (.int (1 : Int32)), .val (.int p0), .val (.ref b35), .val (.ref b37), .val (.int (0 : Int32)), .val .null] [])
        refine gAload X39 hx (hb hby at_146) rfl rfl ?_
        refine gAload X39 hx (hb hby at_148) rfl rfl ?_
        refine gVirtual X39 hx hZ (y := (⟨"com/example/renkei/renkei/reader/JsonValue", "equals", "(Ljava/lang/Object;)Z"⟩ : MethodName)) (a := b37) hown (by decide) (tw hw 74 rfl) (tw hw 75 rfl) (tw hw 76 rfl) (tw hw 77 rfl) (tw hw 65 rfl) (tw hw 78 rfl) A37__38 (own_rm9J l Z a0 hw b37 b35 T38.heap n0 Z_38 _ _ _ _ Q0_38 Q1_38 A35__38 Q0_36__38 Q1_36__38) e39 (by rw [hml]; rfl) (argsL := [(.ref b35)]) (rest := []) (W := 0) (lenOf own_pd4 rfl) rfl (Nat.le_of_eq rfl) (by decide) (by decide) (by decide) (by decide) (hb hby at_150) ?_
        rintro _ T40 L40 X40 ⟨rfl, Nq40, e40⟩
        have N_40 := Fr.app N_39 Nq40
        show Go _ _ _ _ _ _ _ T40 (mkF m 153 #[.val (.int p0), .val (.int p1), .val (.int p2), .val (.ref b1), .val (.ref b3), .val (.int (0 : Int32)), .val (.int (1 : Int32)), .val (.int (1 : Int32)), .val (.int p0), .val (.ref b35), .val (.ref b37), .val (.int (0 : Int32)), .val .null] [(.int (own_eqv b1 b3 p0 p0))])
        refine gIload X40 hx (hb hby at_153) rfl ?_
        refine gIcmp X40 hx 182 (hb hby at_155) (by decide) (by decide) (fun q => absurd (own_qn (Nat.ne_of_lt lt_b1_b3)) (o_neT q)) (fun _ => ?_)
        show Go _ _ _ _ _ _ _ T40 (mkF m 158 #[.val (.int p0), .val (.int p1), .val (.int p2), .val (.ref b1), .val (.ref b3), .val (.int (0 : Int32)), .val (.int (1 : Int32)), .val (.int (1 : Int32)), .val (.int p0), .val (.ref b35), .val (.ref b37), .val (.int (0 : Int32)), .val .null] [])
        refine gAload X40 hx (hb hby at_158) rfl rfl ?_
        refine gAload X40 hx (hb hby at_160) rfl rfl ?_
        refine gVirtual X40 hx hZ (y := (⟨"com/example/renkei/renkei/reader/JsonValue", "equals", "(Ljava/lang/Object;)Z"⟩ : MethodName)) (a := b35) hown (by decide) (tw hw 74 rfl) (tw hw 75 rfl) (tw hw 76 rfl) (tw hw 77 rfl) (tw hw 65 rfl) (tw hw 78 rfl) A35__38 (own_rm9J l Z a0 hw b35 b35 T38.heap n0 Z_38 _ _ _ _ Q0_36__38 Q1_36__38 A35__38 Q0_36__38 Q1_36__38) e40 (by rw [hml]; rfl) (argsL := [(.ref b35)]) (rest := []) (W := 0) (lenOf own_pd4 rfl) rfl (Nat.le_of_eq rfl) (by decide) (by decide) (by decide) (by decide) (hb hby at_162) ?_
        rintro _ T41 L41 X41 ⟨rfl, Nq41, e41⟩
        have N_41 := Fr.app N_40 Nq41
        show Go _ _ _ _ _ _ _ T41 (mkF m 165 #[.val (.int p0), .val (.int p1), .val (.int p2), .val (.ref b1), .val (.ref b3), .val (.int (0 : Int32)), .val (.int (1 : Int32)), .val (.int (1 : Int32)), .val (.int p0), .val (.ref b35), .val (.ref b37), .val (.int (0 : Int32)), .val .null] [(.int (own_eqv b1 b1 p0 p0))])
        refine gIf X41 hx 182 (hb hby at_165) (by decide) (by decide) (fun q => absurd (o_eqT q) (own_qs _ _)) (fun _ => ?_)
        show Go _ _ _ _ _ _ _ T41 (mkF m 168 #[.val (.int p0), .val (.int p1), .val (.int p2), .val (.ref b1), .val (.ref b3), .val (.int (0 : Int32)), .val (.int (1 : Int32)), .val (.int (1 : Int32)), .val (.int p0), .val (.ref b35), .val (.ref b37), .val (.int (0 : Int32)), .val .null] [])
        refine gAload X41 hx (hb hby at_168) rfl rfl ?_
        refine gAload X41 hx (hb hby at_170) rfl rfl ?_
        refine gVirtual X41 hx hZ (y := (⟨"com/example/renkei/renkei/reader/JsonValue", "equals", "(Ljava/lang/Object;)Z"⟩ : MethodName)) (a := b35) hown (by decide) (tw hw 74 rfl) (tw hw 75 rfl) (tw hw 76 rfl) (tw hw 77 rfl) (tw hw 65 rfl) (tw hw 78 rfl) A35__38 (own_rm9N l Z a0 hw b35 T38.heap n0 Z_38 _ _ Q0_36__38 Q1_36__38) e41 (by rw [hml]; rfl) (argsL := [.null]) (rest := []) (W := 0) (lenOf own_pd4 rfl) rfl (Nat.le_of_eq rfl) (by decide) (by decide) (by decide) (by decide) (hb hby at_172) ?_
        rintro _ T42 L42 X42 ⟨rfl, Nq42, e42⟩
        have N_42 := Fr.app N_41 Nq42
        show Go _ _ _ _ _ _ _ T42 (mkF m 175 #[.val (.int p0), .val (.int p1), .val (.int p2), .val (.ref b1), .val (.ref b3), .val (.int (0 : Int32)), .val (.int (1 : Int32)), .val (.int (1 : Int32)), .val (.int p0), .val (.ref b35), .val (.ref b37), .val (.int (0 : Int32)), .val .null] [(.int (0 : Int32))])
        refine gIf X42 hx 182 (hb hby at_175) (by decide) (by decide) (fun q => absurd (by decide) (o_neT q)) (fun _ => ?_)
        show Go _ _ _ _ _ _ _ T42 (mkF m 178 #[.val (.int p0), .val (.int p1), .val (.int p2), .val (.ref b1), .val (.ref b3), .val (.int (0 : Int32)), .val (.int (1 : Int32)), .val (.int (1 : Int32)), .val (.int p0), .val (.ref b35), .val (.ref b37), .val (.int (0 : Int32)), .val .null] [])
        refine gIconst X42 hx (1 : Int32) (hb hby at_178) rfl ?_
        refine gGoto X42 hx 183 (hb hby at_179) (by decide) (by decide) ?_
        exact gRetZ X42 hx hlk hret (by simp) (hb hby at_183) (z' := (1 : Int32)) rfl (by decide) (by decide) ⟨rfl, N_42⟩
  · have hc5 := o_eqF hT
    show Go _ _ _ _ _ _ _ T4 (mkF m 23 #[.val (.int p0), .val (.int p1), .val (.int p2), .val (.ref b1), .val (.ref b3), .unset, .unset, .unset, .unset, .unset, .unset, .unset, .unset] [])
    refine gIconst X4 hx (1 : Int32) (hb hby at_23) rfl ?_
    refine gGoto X4 hx 28 (hb hby at_24) (by decide) (by decide) ?_
    refine gIstore X4 hx #[.val (.int p0), .val (.int p1), .val (.int p2), .val (.ref b1), .val (.ref b3), .val (.int (1 : Int32)), .unset, .unset, .unset, .unset, .unset, .unset, .unset] (hb hby at_28) rfl ?_
    refine gIloadN X4 hx (hb hby at_30) rfl ?_
    refine gIconst X4 hx (2 : Int32) (hb hby at_31) rfl ?_
    refine gIand X4 hx (hb hby at_32) ?_
    refine gIf X4 hx 40 (hb hby at_33) (by decide) (by decide) (fun hT => ?_) (fun hT => ?_)
    · have hc43 := o_eqT hT
      show Go _ _ _ _ _ _ _ T4 (mkF m 40 #[.val (.int p0), .val (.int p1), .val (.int p2), .val (.ref b1), .val (.ref b3), .val (.int (1 : Int32)), .unset, .unset, .unset, .unset, .unset, .unset, .unset] [])
      refine gIconst X4 hx (0 : Int32) (hb hby at_40) rfl ?_
      refine gIstore X4 hx #[.val (.int p0), .val (.int p1), .val (.int p2), .val (.ref b1), .val (.ref b3), .val (.int (1 : Int32)), .val (.int (0 : Int32)), .unset, .unset, .unset, .unset, .unset, .unset] (hb hby at_41) rfl ?_
      refine gIloadN X4 hx (hb hby at_43) rfl ?_
      refine gIconst X4 hx (4 : Int32) (hb hby at_44) rfl ?_
      refine gIand X4 hx (hb hby at_45) ?_
      refine gIf X4 hx 53 (hb hby at_46) (by decide) (by decide) (fun hT => ?_) (fun hT => ?_)
      · have hc44 := o_eqT hT
        show Go _ _ _ _ _ _ _ T4 (mkF m 53 #[.val (.int p0), .val (.int p1), .val (.int p2), .val (.ref b1), .val (.ref b3), .val (.int (1 : Int32)), .val (.int (0 : Int32)), .unset, .unset, .unset, .unset, .unset, .unset] [])
        refine gIconst X4 hx (0 : Int32) (hb hby at_53) rfl ?_
        refine gIstore X4 hx #[.val (.int p0), .val (.int p1), .val (.int p2), .val (.ref b1), .val (.ref b3), .val (.int (1 : Int32)), .val (.int (0 : Int32)), .val (.int (0 : Int32)), .unset, .unset, .unset, .unset, .unset] (hb hby at_54) rfl ?_
        refine gIload X4 hx (hb hby at_56) rfl ?_
        refine gIf X4 hx 65 (hb hby at_58) (by decide) (by decide) (fun _ => ?_) (fun q => absurd (by decide) (o_eqF q))
        show Go _ _ _ _ _ _ _ T4 (mkF m 65 #[.val (.int p0), .val (.int p1), .val (.int p2), .val (.ref b1), .val (.ref b3), .val (.int (1 : Int32)), .val (.int (0 : Int32)), .val (.int (0 : Int32)), .unset, .unset, .unset, .unset, .unset] [])
        refine gIloadN X4 hx (hb hby at_65) rfl ?_
        refine gIstore X4 hx #[.val (.int p0), .val (.int p1), .val (.int p2), .val (.ref b1), .val (.ref b3), .val (.int (1 : Int32)), .val (.int (0 : Int32)), .val (.int (0 : Int32)), .val (.int p1), .unset, .unset, .unset, .unset] (hb hby at_66) rfl ?_
        refine gNew X4 hx hZ hown (tw hw 63 rfl) (tw hw 64 rfl) (tw hw 65 rfl) rfl (hb hby at_68) (by decide) (by decide) ?_
        intro T45 h45 b45 X45 e45 E45 g45 A45 D45
        have lt_b1_b45 : b1 < b45 := by rw [g45]; exact A1__4.lt
        have lt_b3_b45 : b3 < b45 := by rw [g45]; exact A3__4.lt
        have g_b45 : n0 ≤ b45 := by rw [g45]; exact Z_4
        have A1__45 := A1__4.ext E45
        have F_texts_b1__45 := F_texts_b1__4.ext E45
        have F_ints_b1__45 := F_ints_b1__4.ext E45
        have F_typesAndSteps_b1__45 := F_typesAndSteps_b1__4.ext E45
        have F_keptLines_b1__45 := F_keptLines_b1__4.ext E45
        have F_farValues_b1__45 := F_farValues_b1__4.ext E45
        have F_farLines_b1__45 := F_farLines_b1__4.ext E45
        have A3__45 := A3__4.ext E45
        have F_texts_b3__45 := F_texts_b3__4.ext E45
        have F_ints_b3__45 := F_ints_b3__4.ext E45
        have F_typesAndSteps_b3__45 := F_typesAndSteps_b3__4.ext E45
        have F_keptLines_b3__45 := F_keptLines_b3__4.ext E45
        have F_farValues_b3__45 := F_farValues_b3__4.ext E45
        have F_farLines_b3__45 := F_farLines_b3__4.ext E45
        have Z_45 := Nat.le_trans Z_4 E45.1
        have O_45 := O_4.ext E45
        have F_values_b45 : Fld Z h45 b45 "com/example/renkei/renkei/reader/JsonValue" "values" "Lcom/example/renkei/renkei/reader/ValueStore;" .null := D45 (Or.inr (tw hw 71 rfl)) (ty := (.object "com/example/renkei/renkei/reader/ValueStore")) (by decide)
        have F_value_b45 : Fld Z h45 b45 "com/example/renkei/renkei/reader/JsonValue" "value" "I" (.int (0 : Int32)) := D45 (Or.inr (tw hw 73 rfl)) (ty := .int) (by decide)
        show Go _ _ _ _ _ _ _ T45 (mkF m 71 #[.val (.int p0), .val (.int p1), .val (.int p2), .val (.ref b1), .val (.ref b3), .val (.int (1 : Int32)), .val (.int (0 : Int32)), .val (.int (0 : Int32)), .val (.int p1), .unset, .unset, .unset, .unset] [(.ref b45)])
        refine gDup X45 hx (hb hby at_71) rfl ?_
        refine gAloadN X45 hx (hb hby at_72) rfl rfl ?_
        refine gIloadN X45 hx (hb hby at_73) rfl ?_
        refine gInit X45 hx hZ (y := (⟨"com/example/renkei/renkei/reader/JsonValue", "<init>", "(Lcom/example/renkei/renkei/reader/ValueStore;I)V"⟩ : MethodName)) (a := b45) hown rfl (by decide) (tw hw 66 rfl) (tw hw 67 rfl) (tw hw 65 rfl) (tw hw 68 rfl) (own_rm5 l Z a0 hw b45 b1 p0 h45 n0 Z_45 O_45 A45 g_b45 _ F_values_b45 _ F_value_b45) e45 (by rw [hml]; rfl) (argsL := [(.ref b1), (.int p0)]) (rest := [(.ref b45)]) (W := 1) (lenOf own_pd1 rfl) rfl (Nat.le_of_eq rfl) (by decide) (by decide) (by decide) (by decide) (hb hby at_74) ?_
        rintro _ T46 L46 X46 ⟨rfl, Nq46, Kq46, Q0_46, Q1_46⟩
        have N_46 := Fr.app N_4 Nq46
        have A1__46 := A1__45.keep Kq46
        have F_texts_b1__46 := F_texts_b1__45.keep Kq46 (ninS (Nat.ne_of_lt lt_b1_b45) nin0)
        have F_ints_b1__46 := F_ints_b1__45.keep Kq46 (ninS (Nat.ne_of_lt lt_b1_b45) nin0)
        have F_typesAndSteps_b1__46 := F_typesAndSteps_b1__45.keep Kq46 (ninS (Nat.ne_of_lt lt_b1_b45) nin0)
        have F_keptLines_b1__46 := F_keptLines_b1__45.keep Kq46 (ninS (Nat.ne_of_lt lt_b1_b45) nin0)
        have F_farValues_b1__46 := F_farValues_b1__45.keep Kq46 (ninS (Nat.ne_of_lt lt_b1_b45) nin0)
        have F_farLines_b1__46 := F_farLines_b1__45.keep Kq46 (ninS (Nat.ne_of_lt lt_b1_b45) nin0)
        have A3__46 := A3__45.keep Kq46
        have F_texts_b3__46 := F_texts_b3__45.keep Kq46 (ninS (Nat.ne_of_lt lt_b3_b45) nin0)
        have F_ints_b3__46 := F_ints_b3__45.keep Kq46 (ninS (Nat.ne_of_lt lt_b3_b45) nin0)
        have F_typesAndSteps_b3__46 := F_typesAndSteps_b3__45.keep Kq46 (ninS (Nat.ne_of_lt lt_b3_b45) nin0)
        have F_keptLines_b3__46 := F_keptLines_b3__45.keep Kq46 (ninS (Nat.ne_of_lt lt_b3_b45) nin0)
        have F_farValues_b3__46 := F_farValues_b3__45.keep Kq46 (ninS (Nat.ne_of_lt lt_b3_b45) nin0)
        have F_farLines_b3__46 := F_farLines_b3__45.keep Kq46 (ninS (Nat.ne_of_lt lt_b3_b45) nin0)
        have A45__46 := A45.keep Kq46
        have Z_46 := Nat.le_trans Z_45 Kq46.1
        have O_46 := O_45.keep Kq46 (allS g_b45 all0)
        show Go _ _ _ _ _ _ _ T46 (mkF m 77 #[.val (.int p0), .val (.int p1), .val (.int p2), .val (.ref b1), .val (.ref b3), .val (.int (1 : Int32)), .val (.int (0 : Int32)), .val (.int (0 : Int32)), .val (.int p1), .unset, .unset, .unset, .unset] [(.ref b45)])
        refine gAstore X46 hx #[.val (.int p0), .val (.int p1), .val (.int p2), .val (.ref b1), .val (.ref b3), .val (.int (1 : Int32)), .val (.int (0 : Int32)), .val (.int (0 : Int32)), .val (.int p1), .val (.ref b45), .unset, .unset, .unset] (hb hby at_77) rfl rfl ?_
        refine gNew X46 hx hZ hown (tw hw 63 rfl) (tw hw 64 rfl) (tw hw 65 rfl) rfl (hb hby at_79) (by decide) (by decide) ?_
        intro T47 h47 b47 X47 e47 E47 g47 A47 D47
        have lt_b1_b47 : b1 < b47 := by rw [g47]; exact A1__46.lt
        have lt_b3_b47 : b3 < b47 := by rw [g47]; exact A3__46.lt
        have lt_b45_b47 : b45 < b47 := by rw [g47]; exact A45__46.lt
        have g_b47 : n0 ≤ b47 := by rw [g47]; exact Z_46
        have A1__47 := A1__46.ext E47
        have F_texts_b1__47 := F_texts_b1__46.ext E47
        have F_ints_b1__47 := F_ints_b1__46.ext E47
        have F_typesAndSteps_b1__47 := F_typesAndSteps_b1__46.ext E47
        have F_keptLines_b1__47 := F_keptLines_b1__46.ext E47
        have F_farValues_b1__47 := F_farValues_b1__46.ext E47
        have F_farLines_b1__47 := F_farLines_b1__46.ext E47
        have A3__47 := A3__46.ext E47
        have F_texts_b3__47 := F_texts_b3__46.ext E47
        have F_ints_b3__47 := F_ints_b3__46.ext E47
        have F_typesAndSteps_b3__47 := F_typesAndSteps_b3__46.ext E47
        have F_keptLines_b3__47 := F_keptLines_b3__46.ext E47
        have F_farValues_b3__47 := F_farValues_b3__46.ext E47
        have F_farLines_b3__47 := F_farLines_b3__46.ext E47
        have A45__47 := A45__46.ext E47
        have Q0_46__47 := Q0_46.ext E47
        have Q1_46__47 := Q1_46.ext E47
        have Z_47 := Nat.le_trans Z_46 E47.1
        have O_47 := O_46.ext E47
        have F_values_b47 : Fld Z h47 b47 "com/example/renkei/renkei/reader/JsonValue" "values" "Lcom/example/renkei/renkei/reader/ValueStore;" .null := D47 (Or.inr (tw hw 71 rfl)) (ty := (.object "com/example/renkei/renkei/reader/ValueStore")) (by decide)
        have F_value_b47 : Fld Z h47 b47 "com/example/renkei/renkei/reader/JsonValue" "value" "I" (.int (0 : Int32)) := D47 (Or.inr (tw hw 73 rfl)) (ty := .int) (by decide)
        show Go _ _ _ _ _ _ _ T47 (mkF m 82 #[.val (.int p0), .val (.int p1), .val (.int p2), .val (.ref b1), .val (.ref b3), .val (.int (1 : Int32)), .val (.int (0 : Int32)), .val (.int (0 : Int32)), .val (.int p1), .val (.ref b45), .unset, .unset, .unset] [(.ref b47)])
        refine gDup X47 hx (hb hby at_82) rfl ?_
        refine gIload X47 hx (hb hby at_83) rfl ?_
        refine gIf X47 hx 92 (hb hby at_85) (by decide) (by decide) (fun q => absurd (o_eqT q) (by decide)) (fun _ => ?_)
        show Go _ _ _ _ _ _ _ T47 (mkF m 88 #[.val (.int p0), .val (.int p1), .val (.int p2), .val (.ref b1), .val (.ref b3), .val (.int (1 : Int32)), .val (.int (0 : Int32)), .val (.int (0 : Int32)), .val (.int p1), .val (.ref b45), .unset, .unset, .unset] [(.ref b47), (.ref b47)])
        refine gAloadN X47 hx (hb hby at_88) rfl rfl ?_
        refine gGoto X47 hx 94 (hb hby at_89) (by decide) (by decide) ?_
        refine gIload X47 hx (hb hby at_94) rfl ?_
        refine gInit X47 hx hZ (y := (⟨"com/example/renkei/renkei/reader/JsonValue", "<init>", "(Lcom/example/renkei/renkei/reader/ValueStore;I)V"⟩ : MethodName)) (a := b47) hown rfl (by decide) (tw hw 66 rfl) (tw hw 67 rfl) (tw hw 65 rfl) (tw hw 68 rfl) (own_rm5 l Z a0 hw b47 b1 p1 h47 n0 Z_47 O_47 A47 g_b47 _ F_values_b47 _ F_value_b47) e47 (by rw [hml]; rfl) (argsL := [(.ref b1), (.int p1)]) (rest := [(.ref b47)]) (W := 1) (lenOf own_pd1 rfl) rfl (Nat.le_of_eq rfl) (by decide) (by decide) (by decide) (by decide) (hb hby at_96) ?_
        rintro _ T48 L48 X48 ⟨rfl, Nq48, Kq48, Q0_48, Q1_48⟩
        have N_48 := Fr.app N_46 Nq48
        have A1__48 := A1__47.keep Kq48
        have F_texts_b1__48 := F_texts_b1__47.keep Kq48 (ninS (Nat.ne_of_lt lt_b1_b47) nin0)
        have F_ints_b1__48 := F_ints_b1__47.keep Kq48 (ninS (Nat.ne_of_lt lt_b1_b47) nin0)
        have F_typesAndSteps_b1__48 := F_typesAndSteps_b1__47.keep Kq48 (ninS (Nat.ne_of_lt lt_b1_b47) nin0)
        have F_keptLines_b1__48 := F_keptLines_b1__47.keep Kq48 (ninS (Nat.ne_of_lt lt_b1_b47) nin0)
        have F_farValues_b1__48 := F_farValues_b1__47.keep Kq48 (ninS (Nat.ne_of_lt lt_b1_b47) nin0)
        have F_farLines_b1__48 := F_farLines_b1__47.keep Kq48 (ninS (Nat.ne_of_lt lt_b1_b47) nin0)
        have A3__48 := A3__47.keep Kq48
        have F_texts_b3__48 := F_texts_b3__47.keep Kq48 (ninS (Nat.ne_of_lt lt_b3_b47) nin0)
        have F_ints_b3__48 := F_ints_b3__47.keep Kq48 (ninS (Nat.ne_of_lt lt_b3_b47) nin0)
        have F_typesAndSteps_b3__48 := F_typesAndSteps_b3__47.keep Kq48 (ninS (Nat.ne_of_lt lt_b3_b47) nin0)
        have F_keptLines_b3__48 := F_keptLines_b3__47.keep Kq48 (ninS (Nat.ne_of_lt lt_b3_b47) nin0)
        have F_farValues_b3__48 := F_farValues_b3__47.keep Kq48 (ninS (Nat.ne_of_lt lt_b3_b47) nin0)
        have F_farLines_b3__48 := F_farLines_b3__47.keep Kq48 (ninS (Nat.ne_of_lt lt_b3_b47) nin0)
        have A45__48 := A45__47.keep Kq48
        have Q0_46__48 := Q0_46__47.keep Kq48 (ninS (Nat.ne_of_lt lt_b45_b47) nin0)
        have Q1_46__48 := Q1_46__47.keep Kq48 (ninS (Nat.ne_of_lt lt_b45_b47) nin0)
        have A47__48 := A47.keep Kq48
        have Z_48 := Nat.le_trans Z_47 Kq48.1
        have O_48 := O_47.keep Kq48 (allS g_b47 all0)
        show Go _ _ _ _ _ _ _ T48 (mkF m 99 #[.val (.int p0), .val (.int p1), .val (.int p2), .val (.ref b1), .val (.ref b3), .val (.int (1 : Int32)), .val (.int (0 : Int32)), .val (.int (0 : Int32)), .val (.int p1), .val (.ref b45), .unset, .unset, .unset] [(.ref b47)])
        refine gAstore X48 hx #[.val (.int p0), .val (.int p1), .val (.int p2), .val (.ref b1), .val (.ref b3), .val (.int (1 : Int32)), .val (.int (0 : Int32)), .val (.int (0 : Int32)), .val (.int p1), .val (.ref b45), .val (.ref b47), .unset, .unset] (hb hby at_99) rfl rfl ?_
        refine gIload X48 hx (hb hby at_101) rfl ?_
        refine gIf X48 hx 116 (hb hby at_103) (by decide) (by decide) (fun q => absurd (o_eqT q) (by decide)) (fun _ => ?_)
        show Go _ _ _ _ _ _ _ T48 (mkF m 106 #[.val (.int p0), .val (.int p1), .val (.int p2), .val (.ref b1), .val (.ref b3), .val (.int (1 : Int32)), .val (.int (0 : Int32)), .val (.int (0 : Int32)), .val (.int p1), .val (.ref b45), .val (.ref b47), .unset, .unset] [])
        refine gIloadN X48 hx (hb hby at_106) rfl ?_
        refine gIload X48 hx (hb hby at_107) rfl ?_
        refine gIcmp X48 hx 116 (hb hby at_109) (by decide) (by decide) (fun hT => ?_) (fun hT => ?_)
        · have hc49 := o_neT hT
          show Go _ _ _ _ _ _ _ T48 (mkF m 116 #[.val (.int p0), .val (.int p1), .val (.int p2), .val (.ref b1), .val (.ref b3), .val (.int (1 : Int32)), .val (.int (0 : Int32)), .val (.int (0 : Int32)), .val (.int p1), .val (.ref b45), .val (.ref b47), .unset, .unset] [])
          refine gIconst X48 hx (0 : Int32) (hb hby at_116) rfl ?_
          refine gIstore X48 hx #[.val (.int p0), .val (.int p1), .val (.int p2), .val (.ref b1), .val (.ref b3), .val (.int (1 : Int32)), .val (.int (0 : Int32)), .val (.int (0 : Int32)), .val (.int p1), .val (.ref b45), .val (.ref b47), .val (.int (0 : Int32)), .unset] (hb hby at_117) rfl ?_
          refine gIload X48 hx (hb hby at_119) rfl ?_
          refine gIf X48 hx 128 (hb hby at_121) (by decide) (by decide) (fun _ => ?_) (fun q => absurd (by decide) (o_eqF q))
          show Go _ _ _ _ _ _ _ T48 (mkF m 128 #[.val (.int p0), .val (.int p1), .val (.int p2), .val (.ref b1), .val (.ref b3), .val (.int (1 : Int32)), .val (.int (0 : Int32)), .val (.int (0 : Int32)), .val (.int p1), .val (.ref b45), .val (.ref b47), .val (.int (0 : Int32)), .unset] [])
          refine gIloadN X48 hx (hb hby at_128) rfl ?_
          refine gStatic X48 hx hZ (y := (⟨"java/lang/Integer", "valueOf", "(I)Ljava/lang/Integer;"⟩ : MethodName)) hown (by decide) (tw hw 81 rfl) (tw hw 82 rfl) (tw hw 83 rfl) (tw hw 84 rfl) (own_rm8 l Z a0 hw p0 T48.heap n0 Z_48 O_48 SH cc SC cl val BX) rfl (by rw [hml]; rfl) (argsL := [(.int p0)]) (rest := []) (W := 0) (lenOf own_pd3 rfl) rfl (Nat.le_of_eq rfl) (by decide) (by decide) (by decide) (by decide) (hb hby at_129) ?_
          rintro _ T50 L50 X50 ⟨bq50, rfl, Nq50, Kq50, Aq50⟩
          have N_50 := Fr.app N_48 Nq50
          have A1__50 := A1__48.keep Kq50
          have F_texts_b1__50 := F_texts_b1__48.keep Kq50 nin0
          have F_ints_b1__50 := F_ints_b1__48.keep Kq50 nin0
          have F_typesAndSteps_b1__50 := F_typesAndSteps_b1__48.keep Kq50 nin0
          have F_keptLines_b1__50 := F_keptLines_b1__48.keep Kq50 nin0
          have F_farValues_b1__50 := F_farValues_b1__48.keep Kq50 nin0
          have F_farLines_b1__50 := F_farLines_b1__48.keep Kq50 nin0
          have A3__50 := A3__48.keep Kq50
          have F_texts_b3__50 := F_texts_b3__48.keep Kq50 nin0
          have F_ints_b3__50 := F_ints_b3__48.keep Kq50 nin0
          have F_typesAndSteps_b3__50 := F_typesAndSteps_b3__48.keep Kq50 nin0
          have F_keptLines_b3__50 := F_keptLines_b3__48.keep Kq50 nin0
          have F_farValues_b3__50 := F_farValues_b3__48.keep Kq50 nin0
          have F_farLines_b3__50 := F_farLines_b3__48.keep Kq50 nin0
          have A45__50 := A45__48.keep Kq50
          have Q0_46__50 := Q0_46__48.keep Kq50 nin0
          have Q1_46__50 := Q1_46__48.keep Kq50 nin0
          have A47__50 := A47__48.keep Kq50
          have Q0_48__50 := Q0_48.keep Kq50 nin0
          have Q1_48__50 := Q1_48.keep Kq50 nin0
          have Z_50 := Nat.le_trans Z_48 Kq50.1
          have O_50 := O_48.keep Kq50 all0
          show Go _ _ _ _ _ _ _ T50 (mkF m 132 #[.val (.int p0), .val (.int p1), .val (.int p2), .val (.ref b1), .val (.ref b3), .val (.int (1 : Int32)), .val (.int (0 : Int32)), .val (.int (0 : Int32)), .val (.int p1), .val (.ref b45), .val (.ref b47), .val (.int (0 : Int32)), .unset] [(.ref bq50)])
          refine gAstore X50 hx #[.val (.int p0), .val (.int p1), .val (.int p2), .val (.ref b1), .val (.ref b3), .val (.int (1 : Int32)), .val (.int (0 : Int32)), .val (.int (0 : Int32)), .val (.int p1), .val (.ref b45), .val (.ref b47), .val (.int (0 : Int32)), .val (.ref bq50)] (hb hby at_132) rfl rfl ?_
          refine gAload X50 hx (hb hby at_134) rfl rfl ?_
          refine gAload X50 hx (hb hby at_136) rfl rfl ?_
          refine gVirtual X50 hx hZ (y := (⟨"com/example/renkei/renkei/reader/JsonValue", "equals", "(Ljava/lang/Object;)Z"⟩ : MethodName)) (a := b45) hown (by decide) (tw hw 74 rfl) (tw hw 75 rfl) (tw hw 76 rfl) (tw hw 77 rfl) (tw hw 65 rfl) (tw hw 78 rfl) A45__50 (own_rm9J l Z a0 hw b45 b47 T50.heap n0 Z_50 _ _ _ _ Q0_46__50 Q1_46__50 A47__50 Q0_48__50 Q1_48__50) rfl (by rw [hml]; rfl) (argsL := [(.ref b47)]) (rest := []) (W := 0) (lenOf own_pd4 rfl) rfl (Nat.le_of_eq rfl) (by decide) (by decide) (by decide) (by decide) (hb hby at_138) ?_
          rintro _ T51 L51 X51 ⟨rfl, Nq51, e51⟩
          have N_51 := Fr.app N_50 Nq51
          show Go _ _ _ _ _ _ _ T51 (mkF m 141 #[.val (.int p0), .val (.int p1), .val (.int p2), .val (.ref b1), .val (.ref b3), .val (.int (1 : Int32)), .val (.int (0 : Int32)), .val (.int (0 : Int32)), .val (.int p1), .val (.ref b45), .val (.ref b47), .val (.int (0 : Int32)), .val (.ref bq50)] [(.int (own_eqv b1 b1 p1 p0))])
          refine gIload X51 hx (hb hby at_141) rfl ?_
          refine gIcmp X51 hx 182 (hb hby at_143) (by decide) (by decide) (fun q => absurd (own_q0 hc49) (o_neT q)) (fun _ => ?_)
          show Go _ _ _ _ _ _ _ T51 (mkF m 146 #[.val (.int p0), .val (.int p1), .val (.int p2), .val (.ref b1), .val (.ref b3), .val (.int (1 : Int32)), .val (.int (0 : Int32)), .val (.int (0 : Int32)), .val (.int p1), .val (.ref b45), .val (.ref b47), .val (.int (0 : Int32)), .val (.ref bq50)] [])
          refine gAload X51 hx (hb hby at_146) rfl rfl ?_
          refine gAload X51 hx (hb hby at_148) rfl rfl ?_
          refine gVirtual X51 hx hZ (y := (⟨"com/example/renkei/renkei/reader/JsonValue", "equals", "(Ljava/lang/Object;)Z"⟩ : MethodName)) (a := b47) hown (by decide) (tw hw 74 rfl) (tw hw 75 rfl) (tw hw 76 rfl) (tw hw 77 rfl) (tw hw 65 rfl) (tw hw 78 rfl) A47__50 (own_rm9J l Z a0 hw b47 b45 T50.heap n0 Z_50 _ _ _ _ Q0_48__50 Q1_48__50 A45__50 Q0_46__50 Q1_46__50) e51 (by rw [hml]; rfl) (argsL := [(.ref b45)]) (rest := []) (W := 0) (lenOf own_pd4 rfl) rfl (Nat.le_of_eq rfl) (by decide) (by decide) (by decide) (by decide) (hb hby at_150) ?_
          rintro _ T52 L52 X52 ⟨rfl, Nq52, e52⟩
          have N_52 := Fr.app N_51 Nq52
          show Go _ _ _ _ _ _ _ T52 (mkF m 153 #[.val (.int p0), .val (.int p1), .val (.int p2), .val (.ref b1), .val (.ref b3), .val (.int (1 : Int32)), .val (.int (0 : Int32)), .val (.int (0 : Int32)), .val (.int p1), .val (.ref b45), .val (.ref b47), .val (.int (0 : Int32)), .val (.ref bq50)] [(.int (own_eqv b1 b1 p0 p1))])
          refine gIload X52 hx (hb hby at_153) rfl ?_
          refine gIcmp X52 hx 182 (hb hby at_155) (by decide) (by decide) (fun q => absurd (own_q0 (fun q => hc49 q.symm)) (o_neT q)) (fun _ => ?_)
          show Go _ _ _ _ _ _ _ T52 (mkF m 158 #[.val (.int p0), .val (.int p1), .val (.int p2), .val (.ref b1), .val (.ref b3), .val (.int (1 : Int32)), .val (.int (0 : Int32)), .val (.int (0 : Int32)), .val (.int p1), .val (.ref b45), .val (.ref b47), .val (.int (0 : Int32)), .val (.ref bq50)] [])
          refine gAload X52 hx (hb hby at_158) rfl rfl ?_
          refine gAload X52 hx (hb hby at_160) rfl rfl ?_
          refine gVirtual X52 hx hZ (y := (⟨"com/example/renkei/renkei/reader/JsonValue", "equals", "(Ljava/lang/Object;)Z"⟩ : MethodName)) (a := b45) hown (by decide) (tw hw 74 rfl) (tw hw 75 rfl) (tw hw 76 rfl) (tw hw 77 rfl) (tw hw 65 rfl) (tw hw 78 rfl) A45__50 (own_rm9J l Z a0 hw b45 b45 T50.heap n0 Z_50 _ _ _ _ Q0_46__50 Q1_46__50 A45__50 Q0_46__50 Q1_46__50) e52 (by rw [hml]; rfl) (argsL := [(.ref b45)]) (rest := []) (W := 0) (lenOf own_pd4 rfl) rfl (Nat.le_of_eq rfl) (by decide) (by decide) (by decide) (by decide) (hb hby at_162) ?_
          rintro _ T53 L53 X53 ⟨rfl, Nq53, e53⟩
          have N_53 := Fr.app N_52 Nq53
          show Go _ _ _ _ _ _ _ T53 (mkF m 165 #[.val (.int p0), .val (.int p1), .val (.int p2), .val (.ref b1), .val (.ref b3), .val (.int (1 : Int32)), .val (.int (0 : Int32)), .val (.int (0 : Int32)), .val (.int p1), .val (.ref b45), .val (.ref b47), .val (.int (0 : Int32)), .val (.ref bq50)] [(.int (own_eqv b1 b1 p0 p0))])
          refine gIf X53 hx 182 (hb hby at_165) (by decide) (by decide) (fun q => absurd (o_eqT q) (own_qs _ _)) (fun _ => ?_)
          show Go _ _ _ _ _ _ _ T53 (mkF m 168 #[.val (.int p0), .val (.int p1), .val (.int p2), .val (.ref b1), .val (.ref b3), .val (.int (1 : Int32)), .val (.int (0 : Int32)), .val (.int (0 : Int32)), .val (.int p1), .val (.ref b45), .val (.ref b47), .val (.int (0 : Int32)), .val (.ref bq50)] [])
          refine gAload X53 hx (hb hby at_168) rfl rfl ?_
          refine gAload X53 hx (hb hby at_170) rfl rfl ?_
          refine gVirtual X53 hx hZ (y := (⟨"com/example/renkei/renkei/reader/JsonValue", "equals", "(Ljava/lang/Object;)Z"⟩ : MethodName)) (a := b45) hown (by decide) (tw hw 74 rfl) (tw hw 75 rfl) (tw hw 76 rfl) (tw hw 77 rfl) (tw hw 65 rfl) (tw hw 78 rfl) A45__50 (own_rm9I l Z a0 hw b45 bq50 T50.heap n0 Z_50 _ _ Q0_46__50 Q1_46__50 Aq50) e53 (by rw [hml]; rfl) (argsL := [(.ref bq50)]) (rest := []) (W := 0) (lenOf own_pd4 rfl) rfl (Nat.le_of_eq rfl) (by decide) (by decide) (by decide) (by decide) (hb hby at_172) ?_
          rintro _ T54 L54 X54 ⟨rfl, Nq54, e54⟩
          have N_54 := Fr.app N_53 Nq54
          show Go _ _ _ _ _ _ _ T54 (mkF m 175 #[.val (.int p0), .val (.int p1), .val (.int p2), .val (.ref b1), .val (.ref b3), .val (.int (1 : Int32)), .val (.int (0 : Int32)), .val (.int (0 : Int32)), .val (.int p1), .val (.ref b45), .val (.ref b47), .val (.int (0 : Int32)), .val (.ref bq50)] [(.int (0 : Int32))])
          refine gIf X54 hx 182 (hb hby at_175) (by decide) (by decide) (fun q => absurd (by decide) (o_neT q)) (fun _ => ?_)
          show Go _ _ _ _ _ _ _ T54 (mkF m 178 #[.val (.int p0), .val (.int p1), .val (.int p2), .val (.ref b1), .val (.ref b3), .val (.int (1 : Int32)), .val (.int (0 : Int32)), .val (.int (0 : Int32)), .val (.int p1), .val (.ref b45), .val (.ref b47), .val (.int (0 : Int32)), .val (.ref bq50)] [])
          refine gIconst X54 hx (1 : Int32) (hb hby at_178) rfl ?_
          refine gGoto X54 hx 183 (hb hby at_179) (by decide) (by decide) ?_
          exact gRetZ X54 hx hlk hret (by simp) (hb hby at_183) (z' := (1 : Int32)) rfl (by decide) (by decide) ⟨rfl, N_54⟩
        · have hc49 := o_neF hT
          show Go _ _ _ _ _ _ _ T48 (mkF m 112 #[.val (.int p0), .val (.int p1), .val (.int p2), .val (.ref b1), .val (.ref b3), .val (.int (1 : Int32)), .val (.int (0 : Int32)), .val (.int (0 : Int32)), .val (.int p1), .val (.ref b45), .val (.ref b47), .unset, .unset] [])
          refine gIconst X48 hx (1 : Int32) (hb hby at_112) rfl ?_
          refine gGoto X48 hx 117 (hb hby at_113) (by decide) (by decide) ?_
          refine gIstore X48 hx #[.val (.int p0), .val (.int p1), .val (.int p2), .val (.ref b1), .val (.ref b3), .val (.int (1 : Int32)), .val (.int (0 : Int32)), .val (.int (0 : Int32)), .val (.int p1), .val (.ref b45), .val (.ref b47), .val (.int (1 : Int32)), .unset] (hb hby at_117) rfl ?_
          refine gIload X48 hx (hb hby at_119) rfl ?_
          refine gIf X48 hx 128 (hb hby at_121) (by decide) (by decide) (fun _ => ?_) (fun q => absurd (by decide) (o_eqF q))
          show Go _ _ _ _ _ _ _ T48 (mkF m 128 #[.val (.int p0), .val (.int p1), .val (.int p2), .val (.ref b1), .val (.ref b3), .val (.int (1 : Int32)), .val (.int (0 : Int32)), .val (.int (0 : Int32)), .val (.int p1), .val (.ref b45), .val (.ref b47), .val (.int (1 : Int32)), .unset] [])
          refine gIloadN X48 hx (hb hby at_128) rfl ?_
          refine gStatic X48 hx hZ (y := (⟨"java/lang/Integer", "valueOf", "(I)Ljava/lang/Integer;"⟩ : MethodName)) hown (by decide) (tw hw 81 rfl) (tw hw 82 rfl) (tw hw 83 rfl) (tw hw 84 rfl) (own_rm8 l Z a0 hw p0 T48.heap n0 Z_48 O_48 SH cc SC cl val BX) rfl (by rw [hml]; rfl) (argsL := [(.int p0)]) (rest := []) (W := 0) (lenOf own_pd3 rfl) rfl (Nat.le_of_eq rfl) (by decide) (by decide) (by decide) (by decide) (hb hby at_129) ?_
          rintro _ T55 L55 X55 ⟨bq55, rfl, Nq55, Kq55, Aq55⟩
          have N_55 := Fr.app N_48 Nq55
          have A1__55 := A1__48.keep Kq55
          have F_texts_b1__55 := F_texts_b1__48.keep Kq55 nin0
          have F_ints_b1__55 := F_ints_b1__48.keep Kq55 nin0
          have F_typesAndSteps_b1__55 := F_typesAndSteps_b1__48.keep Kq55 nin0
          have F_keptLines_b1__55 := F_keptLines_b1__48.keep Kq55 nin0
          have F_farValues_b1__55 := F_farValues_b1__48.keep Kq55 nin0
          have F_farLines_b1__55 := F_farLines_b1__48.keep Kq55 nin0
          have A3__55 := A3__48.keep Kq55
          have F_texts_b3__55 := F_texts_b3__48.keep Kq55 nin0
          have F_ints_b3__55 := F_ints_b3__48.keep Kq55 nin0
          have F_typesAndSteps_b3__55 := F_typesAndSteps_b3__48.keep Kq55 nin0
          have F_keptLines_b3__55 := F_keptLines_b3__48.keep Kq55 nin0
          have F_farValues_b3__55 := F_farValues_b3__48.keep Kq55 nin0
          have F_farLines_b3__55 := F_farLines_b3__48.keep Kq55 nin0
          have A45__55 := A45__48.keep Kq55
          have Q0_46__55 := Q0_46__48.keep Kq55 nin0
          have Q1_46__55 := Q1_46__48.keep Kq55 nin0
          have A47__55 := A47__48.keep Kq55
          have Q0_48__55 := Q0_48.keep Kq55 nin0
          have Q1_48__55 := Q1_48.keep Kq55 nin0
          have Z_55 := Nat.le_trans Z_48 Kq55.1
          have O_55 := O_48.keep Kq55 all0
          show Go _ _ _ _ _ _ _ T55 (mkF m 132 #[.val (.int p0), .val (.int p1), .val (.int p2), .val (.ref b1), .val (.ref b3), .val (.int (1 : Int32)), .val (.int (0 : Int32)), .val (.int (0 : Int32)), .val (.int p1), .val (.ref b45), .val (.ref b47), .val (.int (1 : Int32)), .unset] [(.ref bq55)])
          refine gAstore X55 hx #[.val (.int p0), .val (.int p1), .val (.int p2), .val (.ref b1), .val (.ref b3), .val (.int (1 : Int32)), .val (.int (0 : Int32)), .val (.int (0 : Int32)), .val (.int p1), .val (.ref b45), .val (.ref b47), .val (.int (1 : Int32)), .val (.ref bq55)] (hb hby at_132) rfl rfl ?_
          refine gAload X55 hx (hb hby at_134) rfl rfl ?_
          refine gAload X55 hx (hb hby at_136) rfl rfl ?_
          refine gVirtual X55 hx hZ (y := (⟨"com/example/renkei/renkei/reader/JsonValue", "equals", "(Ljava/lang/Object;)Z"⟩ : MethodName)) (a := b45) hown (by decide) (tw hw 74 rfl) (tw hw 75 rfl) (tw hw 76 rfl) (tw hw 77 rfl) (tw hw 65 rfl) (tw hw 78 rfl) A45__55 (own_rm9J l Z a0 hw b45 b47 T55.heap n0 Z_55 _ _ _ _ Q0_46__55 Q1_46__55 A47__55 Q0_48__55 Q1_48__55) rfl (by rw [hml]; rfl) (argsL := [(.ref b47)]) (rest := []) (W := 0) (lenOf own_pd4 rfl) rfl (Nat.le_of_eq rfl) (by decide) (by decide) (by decide) (by decide) (hb hby at_138) ?_
          rintro _ T56 L56 X56 ⟨rfl, Nq56, e56⟩
          have N_56 := Fr.app N_55 Nq56
          show Go _ _ _ _ _ _ _ T56 (mkF m 141 #[.val (.int p0), .val (.int p1), .val (.int p2), .val (.ref b1), .val (.ref b3), .val (.int (1 : Int32)), .val (.int (0 : Int32)), .val (.int (0 : Int32)), .val (.int p1), .val (.ref b45), .val (.ref b47), .val (.int (1 : Int32)), .val (.ref bq55)] [(.int (own_eqv b1 b1 p1 p0))])
          refine gIload X56 hx (hb hby at_141) rfl ?_
          refine gIcmp X56 hx 182 (hb hby at_143) (by decide) (by decide) (fun q => absurd (own_q1 hc49) (o_neT q)) (fun _ => ?_)
          show Go _ _ _ _ _ _ _ T56 (mkF m 146 #[.val (.int p0), .val (.int p1), .val (.int p2), .val (.ref b1), .val (.ref b3), .val (.int (1 : Int32)), .val (.int (0 : Int32)), .val (.int (0 : Int32)), .val (.int p1), .val (.ref b45), .val (.ref b47), .val (.int (1 : Int32)), .val (.ref bq55)] [])
          refine gAload X56 hx (hb hby at_146) rfl rfl ?_
          refine gAload X56 hx (hb hby at_148) rfl rfl ?_
          refine gVirtual X56 hx hZ (y := (⟨"com/example/renkei/renkei/reader/JsonValue", "equals", "(Ljava/lang/Object;)Z"⟩ : MethodName)) (a := b47) hown (by decide) (tw hw 74 rfl) (tw hw 75 rfl) (tw hw 76 rfl) (tw hw 77 rfl) (tw hw 65 rfl) (tw hw 78 rfl) A47__55 (own_rm9J l Z a0 hw b47 b45 T55.heap n0 Z_55 _ _ _ _ Q0_48__55 Q1_48__55 A45__55 Q0_46__55 Q1_46__55) e56 (by rw [hml]; rfl) (argsL := [(.ref b45)]) (rest := []) (W := 0) (lenOf own_pd4 rfl) rfl (Nat.le_of_eq rfl) (by decide) (by decide) (by decide) (by decide) (hb hby at_150) ?_
          rintro _ T57 L57 X57 ⟨rfl, Nq57, e57⟩
          have N_57 := Fr.app N_56 Nq57
          show Go _ _ _ _ _ _ _ T57 (mkF m 153 #[.val (.int p0), .val (.int p1), .val (.int p2), .val (.ref b1), .val (.ref b3), .val (.int (1 : Int32)), .val (.int (0 : Int32)), .val (.int (0 : Int32)), .val (.int p1), .val (.ref b45), .val (.ref b47), .val (.int (1 : Int32)), .val (.ref bq55)] [(.int (own_eqv b1 b1 p0 p1))])
          refine gIload X57 hx (hb hby at_153) rfl ?_
          refine gIcmp X57 hx 182 (hb hby at_155) (by decide) (by decide) (fun q => absurd (own_q1 hc49.symm) (o_neT q)) (fun _ => ?_)
          show Go _ _ _ _ _ _ _ T57 (mkF m 158 #[.val (.int p0), .val (.int p1), .val (.int p2), .val (.ref b1), .val (.ref b3), .val (.int (1 : Int32)), .val (.int (0 : Int32)), .val (.int (0 : Int32)), .val (.int p1), .val (.ref b45), .val (.ref b47), .val (.int (1 : Int32)), .val (.ref bq55)] [])
          refine gAload X57 hx (hb hby at_158) rfl rfl ?_
          refine gAload X57 hx (hb hby at_160) rfl rfl ?_
          refine gVirtual X57 hx hZ (y := (⟨"com/example/renkei/renkei/reader/JsonValue", "equals", "(Ljava/lang/Object;)Z"⟩ : MethodName)) (a := b45) hown (by decide) (tw hw 74 rfl) (tw hw 75 rfl) (tw hw 76 rfl) (tw hw 77 rfl) (tw hw 65 rfl) (tw hw 78 rfl) A45__55 (own_rm9J l Z a0 hw b45 b45 T55.heap n0 Z_55 _ _ _ _ Q0_46__55 Q1_46__55 A45__55 Q0_46__55 Q1_46__55) e57 (by rw [hml]; rfl) (argsL := [(.ref b45)]) (rest := []) (W := 0) (lenOf own_pd4 rfl) rfl (Nat.le_of_eq rfl) (by decide) (by decide) (by decide) (by decide) (hb hby at_162) ?_
          rintro _ T58 L58 X58 ⟨rfl, Nq58, e58⟩
          have N_58 := Fr.app N_57 Nq58
          show Go _ _ _ _ _ _ _ T58 (mkF m 165 #[.val (.int p0), .val (.int p1), .val (.int p2), .val (.ref b1), .val (.ref b3), .val (.int (1 : Int32)), .val (.int (0 : Int32)), .val (.int (0 : Int32)), .val (.int p1), .val (.ref b45), .val (.ref b47), .val (.int (1 : Int32)), .val (.ref bq55)] [(.int (own_eqv b1 b1 p0 p0))])
          refine gIf X58 hx 182 (hb hby at_165) (by decide) (by decide) (fun q => absurd (o_eqT q) (own_qs _ _)) (fun _ => ?_)
          show Go _ _ _ _ _ _ _ T58 (mkF m 168 #[.val (.int p0), .val (.int p1), .val (.int p2), .val (.ref b1), .val (.ref b3), .val (.int (1 : Int32)), .val (.int (0 : Int32)), .val (.int (0 : Int32)), .val (.int p1), .val (.ref b45), .val (.ref b47), .val (.int (1 : Int32)), .val (.ref bq55)] [])
          refine gAload X58 hx (hb hby at_168) rfl rfl ?_
          refine gAload X58 hx (hb hby at_170) rfl rfl ?_
          refine gVirtual X58 hx hZ (y := (⟨"com/example/renkei/renkei/reader/JsonValue", "equals", "(Ljava/lang/Object;)Z"⟩ : MethodName)) (a := b45) hown (by decide) (tw hw 74 rfl) (tw hw 75 rfl) (tw hw 76 rfl) (tw hw 77 rfl) (tw hw 65 rfl) (tw hw 78 rfl) A45__55 (own_rm9I l Z a0 hw b45 bq55 T55.heap n0 Z_55 _ _ Q0_46__55 Q1_46__55 Aq55) e58 (by rw [hml]; rfl) (argsL := [(.ref bq55)]) (rest := []) (W := 0) (lenOf own_pd4 rfl) rfl (Nat.le_of_eq rfl) (by decide) (by decide) (by decide) (by decide) (hb hby at_172) ?_
          rintro _ T59 L59 X59 ⟨rfl, Nq59, e59⟩
          have N_59 := Fr.app N_58 Nq59
          show Go _ _ _ _ _ _ _ T59 (mkF m 175 #[.val (.int p0), .val (.int p1), .val (.int p2), .val (.ref b1), .val (.ref b3), .val (.int (1 : Int32)), .val (.int (0 : Int32)), .val (.int (0 : Int32)), .val (.int p1), .val (.ref b45), .val (.ref b47), .val (.int (1 : Int32)), .val (.ref bq55)] [(.int (0 : Int32))])
          refine gIf X59 hx 182 (hb hby at_175) (by decide) (by decide) (fun q => absurd (by decide) (o_neT q)) (fun _ => ?_)
          show Go _ _ _ _ _ _ _ T59 (mkF m 178 #[.val (.int p0), .val (.int p1), .val (.int p2), .val (.ref b1), .val (.ref b3), .val (.int (1 : Int32)), .val (.int (0 : Int32)), .val (.int (0 : Int32)), .val (.int p1), .val (.ref b45), .val (.ref b47), .val (.int (1 : Int32)), .val (.ref bq55)] [])
          refine gIconst X59 hx (1 : Int32) (hb hby at_178) rfl ?_
          refine gGoto X59 hx 183 (hb hby at_179) (by decide) (by decide) ?_
          exact gRetZ X59 hx hlk hret (by simp) (hb hby at_183) (z' := (1 : Int32)) rfl (by decide) (by decide) ⟨rfl, N_59⟩
      · have hc44 := o_eqF hT
        show Go _ _ _ _ _ _ _ T4 (mkF m 49 #[.val (.int p0), .val (.int p1), .val (.int p2), .val (.ref b1), .val (.ref b3), .val (.int (1 : Int32)), .val (.int (0 : Int32)), .unset, .unset, .unset, .unset, .unset, .unset] [])
        refine gIconst X4 hx (1 : Int32) (hb hby at_49) rfl ?_
        refine gGoto X4 hx 54 (hb hby at_50) (by decide) (by decide) ?_
        refine gIstore X4 hx #[.val (.int p0), .val (.int p1), .val (.int p2), .val (.ref b1), .val (.ref b3), .val (.int (1 : Int32)), .val (.int (0 : Int32)), .val (.int (1 : Int32)), .unset, .unset, .unset, .unset, .unset] (hb hby at_54) rfl ?_
        refine gIload X4 hx (hb hby at_56) rfl ?_
        refine gIf X4 hx 65 (hb hby at_58) (by decide) (by decide) (fun q => absurd (o_eqT q) (by decide)) (fun _ => ?_)
        show Go _ _ _ _ _ _ _ T4 (mkF m 61 #[.val (.int p0), .val (.int p1), .val (.int p2), .val (.ref b1), .val (.ref b3), .val (.int (1 : Int32)), .val (.int (0 : Int32)), .val (.int (1 : Int32)), .unset, .unset, .unset, .unset, .unset] [])
        refine gIloadN X4 hx (hb hby at_61) rfl ?_
        refine gGoto X4 hx 66 (hb hby at_62) (by decide) (by decide) ?_
        refine gIstore X4 hx #[.val (.int p0), .val (.int p1), .val (.int p2), .val (.ref b1), .val (.ref b3), .val (.int (1 : Int32)), .val (.int (0 : Int32)), .val (.int (1 : Int32)), .val (.int p0), .unset, .unset, .unset, .unset] (hb hby at_66) rfl ?_
        refine gNew X4 hx hZ hown (tw hw 63 rfl) (tw hw 64 rfl) (tw hw 65 rfl) rfl (hb hby at_68) (by decide) (by decide) ?_
        intro T60 h60 b60 X60 e60 E60 g60 A60 D60
        have lt_b1_b60 : b1 < b60 := by rw [g60]; exact A1__4.lt
        have lt_b3_b60 : b3 < b60 := by rw [g60]; exact A3__4.lt
        have g_b60 : n0 ≤ b60 := by rw [g60]; exact Z_4
        have A1__60 := A1__4.ext E60
        have F_texts_b1__60 := F_texts_b1__4.ext E60
        have F_ints_b1__60 := F_ints_b1__4.ext E60
        have F_typesAndSteps_b1__60 := F_typesAndSteps_b1__4.ext E60
        have F_keptLines_b1__60 := F_keptLines_b1__4.ext E60
        have F_farValues_b1__60 := F_farValues_b1__4.ext E60
        have F_farLines_b1__60 := F_farLines_b1__4.ext E60
        have A3__60 := A3__4.ext E60
        have F_texts_b3__60 := F_texts_b3__4.ext E60
        have F_ints_b3__60 := F_ints_b3__4.ext E60
        have F_typesAndSteps_b3__60 := F_typesAndSteps_b3__4.ext E60
        have F_keptLines_b3__60 := F_keptLines_b3__4.ext E60
        have F_farValues_b3__60 := F_farValues_b3__4.ext E60
        have F_farLines_b3__60 := F_farLines_b3__4.ext E60
        have Z_60 := Nat.le_trans Z_4 E60.1
        have O_60 := O_4.ext E60
        have F_values_b60 : Fld Z h60 b60 "com/example/renkei/renkei/reader/JsonValue" "values" "Lcom/example/renkei/renkei/reader/ValueStore;" .null := D60 (Or.inr (tw hw 71 rfl)) (ty := (.object "com/example/renkei/renkei/reader/ValueStore")) (by decide)
        have F_value_b60 : Fld Z h60 b60 "com/example/renkei/renkei/reader/JsonValue" "value" "I" (.int (0 : Int32)) := D60 (Or.inr (tw hw 73 rfl)) (ty := .int) (by decide)
        show Go _ _ _ _ _ _ _ T60 (mkF m 71 #[.val (.int p0), .val (.int p1), .val (.int p2), .val (.ref b1), .val (.ref b3), .val (.int (1 : Int32)), .val (.int (0 : Int32)), .val (.int (1 : Int32)), .val (.int p0), .unset, .unset, .unset, .unset] [(.ref b60)])
        refine gDup X60 hx (hb hby at_71) rfl ?_
        refine gAloadN X60 hx (hb hby at_72) rfl rfl ?_
        refine gIloadN X60 hx (hb hby at_73) rfl ?_
        refine gInit X60 hx hZ (y := (⟨"com/example/renkei/renkei/reader/JsonValue", "<init>", "(Lcom/example/renkei/renkei/reader/ValueStore;I)V"⟩ : MethodName)) (a := b60) hown rfl (by decide) (tw hw 66 rfl) (tw hw 67 rfl) (tw hw 65 rfl) (tw hw 68 rfl) (own_rm5 l Z a0 hw b60 b1 p0 h60 n0 Z_60 O_60 A60 g_b60 _ F_values_b60 _ F_value_b60) e60 (by rw [hml]; rfl) (argsL := [(.ref b1), (.int p0)]) (rest := [(.ref b60)]) (W := 1) (lenOf own_pd1 rfl) rfl (Nat.le_of_eq rfl) (by decide) (by decide) (by decide) (by decide) (hb hby at_74) ?_
        rintro _ T61 L61 X61 ⟨rfl, Nq61, Kq61, Q0_61, Q1_61⟩
        have N_61 := Fr.app N_4 Nq61
        have A1__61 := A1__60.keep Kq61
        have F_texts_b1__61 := F_texts_b1__60.keep Kq61 (ninS (Nat.ne_of_lt lt_b1_b60) nin0)
        have F_ints_b1__61 := F_ints_b1__60.keep Kq61 (ninS (Nat.ne_of_lt lt_b1_b60) nin0)
        have F_typesAndSteps_b1__61 := F_typesAndSteps_b1__60.keep Kq61 (ninS (Nat.ne_of_lt lt_b1_b60) nin0)
        have F_keptLines_b1__61 := F_keptLines_b1__60.keep Kq61 (ninS (Nat.ne_of_lt lt_b1_b60) nin0)
        have F_farValues_b1__61 := F_farValues_b1__60.keep Kq61 (ninS (Nat.ne_of_lt lt_b1_b60) nin0)
        have F_farLines_b1__61 := F_farLines_b1__60.keep Kq61 (ninS (Nat.ne_of_lt lt_b1_b60) nin0)
        have A3__61 := A3__60.keep Kq61
        have F_texts_b3__61 := F_texts_b3__60.keep Kq61 (ninS (Nat.ne_of_lt lt_b3_b60) nin0)
        have F_ints_b3__61 := F_ints_b3__60.keep Kq61 (ninS (Nat.ne_of_lt lt_b3_b60) nin0)
        have F_typesAndSteps_b3__61 := F_typesAndSteps_b3__60.keep Kq61 (ninS (Nat.ne_of_lt lt_b3_b60) nin0)
        have F_keptLines_b3__61 := F_keptLines_b3__60.keep Kq61 (ninS (Nat.ne_of_lt lt_b3_b60) nin0)
        have F_farValues_b3__61 := F_farValues_b3__60.keep Kq61 (ninS (Nat.ne_of_lt lt_b3_b60) nin0)
        have F_farLines_b3__61 := F_farLines_b3__60.keep Kq61 (ninS (Nat.ne_of_lt lt_b3_b60) nin0)
        have A60__61 := A60.keep Kq61
        have Z_61 := Nat.le_trans Z_60 Kq61.1
        have O_61 := O_60.keep Kq61 (allS g_b60 all0)
        show Go _ _ _ _ _ _ _ T61 (mkF m 77 #[.val (.int p0), .val (.int p1), .val (.int p2), .val (.ref b1), .val (.ref b3), .val (.int (1 : Int32)), .val (.int (0 : Int32)), .val (.int (1 : Int32)), .val (.int p0), .unset, .unset, .unset, .unset] [(.ref b60)])
        refine gAstore X61 hx #[.val (.int p0), .val (.int p1), .val (.int p2), .val (.ref b1), .val (.ref b3), .val (.int (1 : Int32)), .val (.int (0 : Int32)), .val (.int (1 : Int32)), .val (.int p0), .val (.ref b60), .unset, .unset, .unset] (hb hby at_77) rfl rfl ?_
        refine gNew X61 hx hZ hown (tw hw 63 rfl) (tw hw 64 rfl) (tw hw 65 rfl) rfl (hb hby at_79) (by decide) (by decide) ?_
        intro T62 h62 b62 X62 e62 E62 g62 A62 D62
        have lt_b1_b62 : b1 < b62 := by rw [g62]; exact A1__61.lt
        have lt_b3_b62 : b3 < b62 := by rw [g62]; exact A3__61.lt
        have lt_b60_b62 : b60 < b62 := by rw [g62]; exact A60__61.lt
        have g_b62 : n0 ≤ b62 := by rw [g62]; exact Z_61
        have A1__62 := A1__61.ext E62
        have F_texts_b1__62 := F_texts_b1__61.ext E62
        have F_ints_b1__62 := F_ints_b1__61.ext E62
        have F_typesAndSteps_b1__62 := F_typesAndSteps_b1__61.ext E62
        have F_keptLines_b1__62 := F_keptLines_b1__61.ext E62
        have F_farValues_b1__62 := F_farValues_b1__61.ext E62
        have F_farLines_b1__62 := F_farLines_b1__61.ext E62
        have A3__62 := A3__61.ext E62
        have F_texts_b3__62 := F_texts_b3__61.ext E62
        have F_ints_b3__62 := F_ints_b3__61.ext E62
        have F_typesAndSteps_b3__62 := F_typesAndSteps_b3__61.ext E62
        have F_keptLines_b3__62 := F_keptLines_b3__61.ext E62
        have F_farValues_b3__62 := F_farValues_b3__61.ext E62
        have F_farLines_b3__62 := F_farLines_b3__61.ext E62
        have A60__62 := A60__61.ext E62
        have Q0_61__62 := Q0_61.ext E62
        have Q1_61__62 := Q1_61.ext E62
        have Z_62 := Nat.le_trans Z_61 E62.1
        have O_62 := O_61.ext E62
        have F_values_b62 : Fld Z h62 b62 "com/example/renkei/renkei/reader/JsonValue" "values" "Lcom/example/renkei/renkei/reader/ValueStore;" .null := D62 (Or.inr (tw hw 71 rfl)) (ty := (.object "com/example/renkei/renkei/reader/ValueStore")) (by decide)
        have F_value_b62 : Fld Z h62 b62 "com/example/renkei/renkei/reader/JsonValue" "value" "I" (.int (0 : Int32)) := D62 (Or.inr (tw hw 73 rfl)) (ty := .int) (by decide)
        show Go _ _ _ _ _ _ _ T62 (mkF m 82 #[.val (.int p0), .val (.int p1), .val (.int p2), .val (.ref b1), .val (.ref b3), .val (.int (1 : Int32)), .val (.int (0 : Int32)), .val (.int (1 : Int32)), .val (.int p0), .val (.ref b60), .unset, .unset, .unset] [(.ref b62)])
        refine gDup X62 hx (hb hby at_82) rfl ?_
        refine gIload X62 hx (hb hby at_83) rfl ?_
        refine gIf X62 hx 92 (hb hby at_85) (by decide) (by decide) (fun q => absurd (o_eqT q) (by decide)) (fun _ => ?_)
        show Go _ _ _ _ _ _ _ T62 (mkF m 88 #[.val (.int p0), .val (.int p1), .val (.int p2), .val (.ref b1), .val (.ref b3), .val (.int (1 : Int32)), .val (.int (0 : Int32)), .val (.int (1 : Int32)), .val (.int p0), .val (.ref b60), .unset, .unset, .unset] [(.ref b62), (.ref b62)])
        refine gAloadN X62 hx (hb hby at_88) rfl rfl ?_
        refine gGoto X62 hx 94 (hb hby at_89) (by decide) (by decide) ?_
        refine gIload X62 hx (hb hby at_94) rfl ?_
        refine gInit X62 hx hZ (y := (⟨"com/example/renkei/renkei/reader/JsonValue", "<init>", "(Lcom/example/renkei/renkei/reader/ValueStore;I)V"⟩ : MethodName)) (a := b62) hown rfl (by decide) (tw hw 66 rfl) (tw hw 67 rfl) (tw hw 65 rfl) (tw hw 68 rfl) (own_rm5 l Z a0 hw b62 b1 p0 h62 n0 Z_62 O_62 A62 g_b62 _ F_values_b62 _ F_value_b62) e62 (by rw [hml]; rfl) (argsL := [(.ref b1), (.int p0)]) (rest := [(.ref b62)]) (W := 1) (lenOf own_pd1 rfl) rfl (Nat.le_of_eq rfl) (by decide) (by decide) (by decide) (by decide) (hb hby at_96) ?_
        rintro _ T63 L63 X63 ⟨rfl, Nq63, Kq63, Q0_63, Q1_63⟩
        have N_63 := Fr.app N_61 Nq63
        have A1__63 := A1__62.keep Kq63
        have F_texts_b1__63 := F_texts_b1__62.keep Kq63 (ninS (Nat.ne_of_lt lt_b1_b62) nin0)
        have F_ints_b1__63 := F_ints_b1__62.keep Kq63 (ninS (Nat.ne_of_lt lt_b1_b62) nin0)
        have F_typesAndSteps_b1__63 := F_typesAndSteps_b1__62.keep Kq63 (ninS (Nat.ne_of_lt lt_b1_b62) nin0)
        have F_keptLines_b1__63 := F_keptLines_b1__62.keep Kq63 (ninS (Nat.ne_of_lt lt_b1_b62) nin0)
        have F_farValues_b1__63 := F_farValues_b1__62.keep Kq63 (ninS (Nat.ne_of_lt lt_b1_b62) nin0)
        have F_farLines_b1__63 := F_farLines_b1__62.keep Kq63 (ninS (Nat.ne_of_lt lt_b1_b62) nin0)
        have A3__63 := A3__62.keep Kq63
        have F_texts_b3__63 := F_texts_b3__62.keep Kq63 (ninS (Nat.ne_of_lt lt_b3_b62) nin0)
        have F_ints_b3__63 := F_ints_b3__62.keep Kq63 (ninS (Nat.ne_of_lt lt_b3_b62) nin0)
        have F_typesAndSteps_b3__63 := F_typesAndSteps_b3__62.keep Kq63 (ninS (Nat.ne_of_lt lt_b3_b62) nin0)
        have F_keptLines_b3__63 := F_keptLines_b3__62.keep Kq63 (ninS (Nat.ne_of_lt lt_b3_b62) nin0)
        have F_farValues_b3__63 := F_farValues_b3__62.keep Kq63 (ninS (Nat.ne_of_lt lt_b3_b62) nin0)
        have F_farLines_b3__63 := F_farLines_b3__62.keep Kq63 (ninS (Nat.ne_of_lt lt_b3_b62) nin0)
        have A60__63 := A60__62.keep Kq63
        have Q0_61__63 := Q0_61__62.keep Kq63 (ninS (Nat.ne_of_lt lt_b60_b62) nin0)
        have Q1_61__63 := Q1_61__62.keep Kq63 (ninS (Nat.ne_of_lt lt_b60_b62) nin0)
        have A62__63 := A62.keep Kq63
        have Z_63 := Nat.le_trans Z_62 Kq63.1
        have O_63 := O_62.keep Kq63 (allS g_b62 all0)
        show Go _ _ _ _ _ _ _ T63 (mkF m 99 #[.val (.int p0), .val (.int p1), .val (.int p2), .val (.ref b1), .val (.ref b3), .val (.int (1 : Int32)), .val (.int (0 : Int32)), .val (.int (1 : Int32)), .val (.int p0), .val (.ref b60), .unset, .unset, .unset] [(.ref b62)])
        refine gAstore X63 hx #[.val (.int p0), .val (.int p1), .val (.int p2), .val (.ref b1), .val (.ref b3), .val (.int (1 : Int32)), .val (.int (0 : Int32)), .val (.int (1 : Int32)), .val (.int p0), .val (.ref b60), .val (.ref b62), .unset, .unset] (hb hby at_99) rfl rfl ?_
        refine gIload X63 hx (hb hby at_101) rfl ?_
        refine gIf X63 hx 116 (hb hby at_103) (by decide) (by decide) (fun q => absurd (o_eqT q) (by decide)) (fun _ => ?_)
        show Go _ _ _ _ _ _ _ T63 (mkF m 106 #[.val (.int p0), .val (.int p1), .val (.int p2), .val (.ref b1), .val (.ref b3), .val (.int (1 : Int32)), .val (.int (0 : Int32)), .val (.int (1 : Int32)), .val (.int p0), .val (.ref b60), .val (.ref b62), .unset, .unset] [])
        refine gIloadN X63 hx (hb hby at_106) rfl ?_
        refine gIload X63 hx (hb hby at_107) rfl ?_
        refine gIcmp X63 hx 116 (hb hby at_109) (by decide) (by decide) (fun q => absurd rfl (o_neT q)) (fun _ => ?_)
        show Go _ _ _ _ _ _ _ T63 (mkF m 112 #[.val (.int p0), .val (.int p1), .val (.int p2), .val (.ref b1), .val (.ref b3), .val (.int (1 : Int32)), .val (.int (0 : Int32)), .val (.int (1 : Int32)), .val (.int p0), .val (.ref b60), .val (.ref b62), .unset, .unset] [])
        refine gIconst X63 hx (1 : Int32) (hb hby at_112) rfl ?_
        refine gGoto X63 hx 117 (hb hby at_113) (by decide) (by decide) ?_
        refine gIstore X63 hx #[.val (.int p0), .val (.int p1), .val (.int p2), .val (.ref b1), .val (.ref b3), .val (.int (1 : Int32)), .val (.int (0 : Int32)), .val (.int (1 : Int32)), .val (.int p0), .val (.ref b60), .val (.ref b62), .val (.int (1 : Int32)), .unset] (hb hby at_117) rfl ?_
        refine gIload X63 hx (hb hby at_119) rfl ?_
        refine gIf X63 hx 128 (hb hby at_121) (by decide) (by decide) (fun _ => ?_) (fun q => absurd (by decide) (o_eqF q))
        show Go _ _ _ _ _ _ _ T63 (mkF m 128 #[.val (.int p0), .val (.int p1), .val (.int p2), .val (.ref b1), .val (.ref b3), .val (.int (1 : Int32)), .val (.int (0 : Int32)), .val (.int (1 : Int32)), .val (.int p0), .val (.ref b60), .val (.ref b62), .val (.int (1 : Int32)), .unset] [])
        refine gIloadN X63 hx (hb hby at_128) rfl ?_
        refine gStatic X63 hx hZ (y := (⟨"java/lang/Integer", "valueOf", "(I)Ljava/lang/Integer;"⟩ : MethodName)) hown (by decide) (tw hw 81 rfl) (tw hw 82 rfl) (tw hw 83 rfl) (tw hw 84 rfl) (own_rm8 l Z a0 hw p0 T63.heap n0 Z_63 O_63 SH cc SC cl val BX) rfl (by rw [hml]; rfl) (argsL := [(.int p0)]) (rest := []) (W := 0) (lenOf own_pd3 rfl) rfl (Nat.le_of_eq rfl) (by decide) (by decide) (by decide) (by decide) (hb hby at_129) ?_
        rintro _ T64 L64 X64 ⟨bq64, rfl, Nq64, Kq64, Aq64⟩
        have N_64 := Fr.app N_63 Nq64
        have A1__64 := A1__63.keep Kq64
        have F_texts_b1__64 := F_texts_b1__63.keep Kq64 nin0
        have F_ints_b1__64 := F_ints_b1__63.keep Kq64 nin0
        have F_typesAndSteps_b1__64 := F_typesAndSteps_b1__63.keep Kq64 nin0
        have F_keptLines_b1__64 := F_keptLines_b1__63.keep Kq64 nin0
        have F_farValues_b1__64 := F_farValues_b1__63.keep Kq64 nin0
        have F_farLines_b1__64 := F_farLines_b1__63.keep Kq64 nin0
        have A3__64 := A3__63.keep Kq64
        have F_texts_b3__64 := F_texts_b3__63.keep Kq64 nin0
        have F_ints_b3__64 := F_ints_b3__63.keep Kq64 nin0
        have F_typesAndSteps_b3__64 := F_typesAndSteps_b3__63.keep Kq64 nin0
        have F_keptLines_b3__64 := F_keptLines_b3__63.keep Kq64 nin0
        have F_farValues_b3__64 := F_farValues_b3__63.keep Kq64 nin0
        have F_farLines_b3__64 := F_farLines_b3__63.keep Kq64 nin0
        have A60__64 := A60__63.keep Kq64
        have Q0_61__64 := Q0_61__63.keep Kq64 nin0
        have Q1_61__64 := Q1_61__63.keep Kq64 nin0
        have A62__64 := A62__63.keep Kq64
        have Q0_63__64 := Q0_63.keep Kq64 nin0
        have Q1_63__64 := Q1_63.keep Kq64 nin0
        have Z_64 := Nat.le_trans Z_63 Kq64.1
        have O_64 := O_63.keep Kq64 all0
        show Go _ _ _ _ _ _ _ T64 (mkF m 132 #[.val (.int p0), .val (.int p1), .val (.int p2), .val (.ref b1), .val (.ref b3), .val (.int (1 : Int32)), .val (.int (0 : Int32)), .val (.int (1 : Int32)), .val (.int p0), .val (.ref b60), .val (.ref b62), .val (.int (1 : Int32)), .unset] [(.ref bq64)])
        refine gAstore X64 hx #[.val (.int p0), .val (.int p1), .val (.int p2), .val (.ref b1), .val (.ref b3), .val (.int (1 : Int32)), .val (.int (0 : Int32)), .val (.int (1 : Int32)), .val (.int p0), .val (.ref b60), .val (.ref b62), .val (.int (1 : Int32)), .val (.ref bq64)] (hb hby at_132) rfl rfl ?_
        refine gAload X64 hx (hb hby at_134) rfl rfl ?_
        refine gAload X64 hx (hb hby at_136) rfl rfl ?_
        refine gVirtual X64 hx hZ (y := (⟨"com/example/renkei/renkei/reader/JsonValue", "equals", "(Ljava/lang/Object;)Z"⟩ : MethodName)) (a := b60) hown (by decide) (tw hw 74 rfl) (tw hw 75 rfl) (tw hw 76 rfl) (tw hw 77 rfl) (tw hw 65 rfl) (tw hw 78 rfl) A60__64 (own_rm9J l Z a0 hw b60 b62 T64.heap n0 Z_64 _ _ _ _ Q0_61__64 Q1_61__64 A62__64 Q0_63__64 Q1_63__64) rfl (by rw [hml]; rfl) (argsL := [(.ref b62)]) (rest := []) (W := 0) (lenOf own_pd4 rfl) rfl (Nat.le_of_eq rfl) (by decide) (by decide) (by decide) (by decide) (hb hby at_138) ?_
        rintro _ T65 L65 X65 ⟨rfl, Nq65, e65⟩
        have N_65 := Fr.app N_64 Nq65
        show Go _ _ _ _ _ _ _ T65 (mkF m 141 #[.val (.int p0), .val (.int p1), .val (.int p2), .val (.ref b1), .val (.ref b3), .val (.int (1 : Int32)), .val (.int (0 : Int32)), .val (.int (1 : Int32)), .val (.int p0), .val (.ref b60), .val (.ref b62), .val (.int (1 : Int32)), .val (.ref bq64)] [(.int (own_eqv b1 b1 p0 p0))])
        refine gIload X65 hx (hb hby at_141) rfl ?_
        refine gIcmp X65 hx 182 (hb hby at_143) (by decide) (by decide) (fun q => absurd (own_q1 rfl) (o_neT q)) (fun _ => ?_)
        show Go _ _ _ _ _ _ _ T65 (mkF m 146 #[.val (.int p0), .val (.int p1), .val (.int p2), .val (.ref b1), .val (.ref b3), .val (.int (1 : Int32)), .val (.int (0 : Int32)), .val (.int (1 : Int32)), .val (.int p0), .val (.ref b60), .val (.ref b62), .val (.int (1 : Int32)), .val (.ref bq64)] [])
        refine gAload X65 hx (hb hby at_146) rfl rfl ?_
        refine gAload X65 hx (hb hby at_148) rfl rfl ?_
        refine gVirtual X65 hx hZ (y := (⟨"com/example/renkei/renkei/reader/JsonValue", "equals", "(Ljava/lang/Object;)Z"⟩ : MethodName)) (a := b62) hown (by decide) (tw hw 74 rfl) (tw hw 75 rfl) (tw hw 76 rfl) (tw hw 77 rfl) (tw hw 65 rfl) (tw hw 78 rfl) A62__64 (own_rm9J l Z a0 hw b62 b60 T64.heap n0 Z_64 _ _ _ _ Q0_63__64 Q1_63__64 A60__64 Q0_61__64 Q1_61__64) e65 (by rw [hml]; rfl) (argsL := [(.ref b60)]) (rest := []) (W := 0) (lenOf own_pd4 rfl) rfl (Nat.le_of_eq rfl) (by decide) (by decide) (by decide) (by decide) (hb hby at_150) ?_
        rintro _ T66 L66 X66 ⟨rfl, Nq66, e66⟩
        have N_66 := Fr.app N_65 Nq66
        show Go _ _ _ _ _ _ _ T66 (mkF m 153 #[.val (.int p0), .val (.int p1), .val (.int p2), .val (.ref b1), .val (.ref b3), .val (.int (1 : Int32)), .val (.int (0 : Int32)), .val (.int (1 : Int32)), .val (.int p0), .val (.ref b60), .val (.ref b62), .val (.int (1 : Int32)), .val (.ref bq64)] [(.int (own_eqv b1 b1 p0 p0))])
        refine gIload X66 hx (hb hby at_153) rfl ?_
        refine gIcmp X66 hx 182 (hb hby at_155) (by decide) (by decide) (fun q => absurd (own_q1 rfl) (o_neT q)) (fun _ => ?_)
        show Go _ _ _ _ _ _ _ T66 (mkF m 158 #[.val (.int p0), .val (.int p1), .val (.int p2), .val (.ref b1), .val (.ref b3), .val (.int (1 : Int32)), .val (.int (0 : Int32)), .val (.int (1 : Int32)), .val (.int p0), .val (.ref b60), .val (.ref b62), .val (.int (1 : Int32)), .val (.ref bq64)] [])
        refine gAload X66 hx (hb hby at_158) rfl rfl ?_
        refine gAload X66 hx (hb hby at_160) rfl rfl ?_
        refine gVirtual X66 hx hZ (y := (⟨"com/example/renkei/renkei/reader/JsonValue", "equals", "(Ljava/lang/Object;)Z"⟩ : MethodName)) (a := b60) hown (by decide) (tw hw 74 rfl) (tw hw 75 rfl) (tw hw 76 rfl) (tw hw 77 rfl) (tw hw 65 rfl) (tw hw 78 rfl) A60__64 (own_rm9J l Z a0 hw b60 b60 T64.heap n0 Z_64 _ _ _ _ Q0_61__64 Q1_61__64 A60__64 Q0_61__64 Q1_61__64) e66 (by rw [hml]; rfl) (argsL := [(.ref b60)]) (rest := []) (W := 0) (lenOf own_pd4 rfl) rfl (Nat.le_of_eq rfl) (by decide) (by decide) (by decide) (by decide) (hb hby at_162) ?_
        rintro _ T67 L67 X67 ⟨rfl, Nq67, e67⟩
        have N_67 := Fr.app N_66 Nq67
        show Go _ _ _ _ _ _ _ T67 (mkF m 165 #[.val (.int p0), .val (.int p1), .val (.int p2), .val (.ref b1), .val (.ref b3), .val (.int (1 : Int32)), .val (.int (0 : Int32)), .val (.int (1 : Int32)), .val (.int p0), .val (.ref b60), .val (.ref b62), .val (.int (1 : Int32)), .val (.ref bq64)] [(.int (own_eqv b1 b1 p0 p0))])
        refine gIf X67 hx 182 (hb hby at_165) (by decide) (by decide) (fun q => absurd (o_eqT q) (own_qs _ _)) (fun _ => ?_)
        show Go _ _ _ _ _ _ _ T67 (mkF m 168 #[.val (.int p0), .val (.int p1), .val (.int p2), .val (.ref b1), .val (.ref b3), .val (.int (1 : Int32)), .val (.int (0 : Int32)), .val (.int (1 : Int32)), .val (.int p0), .val (.ref b60), .val (.ref b62), .val (.int (1 : Int32)), .val (.ref bq64)] [])
        refine gAload X67 hx (hb hby at_168) rfl rfl ?_
        refine gAload X67 hx (hb hby at_170) rfl rfl ?_
        refine gVirtual X67 hx hZ (y := (⟨"com/example/renkei/renkei/reader/JsonValue", "equals", "(Ljava/lang/Object;)Z"⟩ : MethodName)) (a := b60) hown (by decide) (tw hw 74 rfl) (tw hw 75 rfl) (tw hw 76 rfl) (tw hw 77 rfl) (tw hw 65 rfl) (tw hw 78 rfl) A60__64 (own_rm9I l Z a0 hw b60 bq64 T64.heap n0 Z_64 _ _ Q0_61__64 Q1_61__64 Aq64) e67 (by rw [hml]; rfl) (argsL := [(.ref bq64)]) (rest := []) (W := 0) (lenOf own_pd4 rfl) rfl (Nat.le_of_eq rfl) (by decide) (by decide) (by decide) (by decide) (hb hby at_172) ?_
        rintro _ T68 L68 X68 ⟨rfl, Nq68, e68⟩
        have N_68 := Fr.app N_67 Nq68
        show Go _ _ _ _ _ _ _ T68 (mkF m 175 #[.val (.int p0), .val (.int p1), .val (.int p2), .val (.ref b1), .val (.ref b3), .val (.int (1 : Int32)), .val (.int (0 : Int32)), .val (.int (1 : Int32)), .val (.int p0), .val (.ref b60), .val (.ref b62), .val (.int (1 : Int32)), .val (.ref bq64)] [(.int (0 : Int32))])
        refine gIf X68 hx 182 (hb hby at_175) (by decide) (by decide) (fun q => absurd (by decide) (o_neT q)) (fun _ => ?_)
        show Go _ _ _ _ _ _ _ T68 (mkF m 178 #[.val (.int p0), .val (.int p1), .val (.int p2), .val (.ref b1), .val (.ref b3), .val (.int (1 : Int32)), .val (.int (0 : Int32)), .val (.int (1 : Int32)), .val (.int p0), .val (.ref b60), .val (.ref b62), .val (.int (1 : Int32)), .val (.ref bq64)] [])
        refine gIconst X68 hx (1 : Int32) (hb hby at_178) rfl ?_
        refine gGoto X68 hx 183 (hb hby at_179) (by decide) (by decide) ?_
        exact gRetZ X68 hx hlk hret (by simp) (hb hby at_183) (z' := (1 : Int32)) rfl (by decide) (by decide) ⟨rfl, N_68⟩
    · have hc43 := o_eqF hT
      show Go _ _ _ _ _ _ _ T4 (mkF m 36 #[.val (.int p0), .val (.int p1), .val (.int p2), .val (.ref b1), .val (.ref b3), .val (.int (1 : Int32)), .unset, .unset, .unset, .unset, .unset, .unset, .unset] [])
      refine gIconst X4 hx (1 : Int32) (hb hby at_36) rfl ?_
      refine gGoto X4 hx 41 (hb hby at_37) (by decide) (by decide) ?_
      refine gIstore X4 hx #[.val (.int p0), .val (.int p1), .val (.int p2), .val (.ref b1), .val (.ref b3), .val (.int (1 : Int32)), .val (.int (1 : Int32)), .unset, .unset, .unset, .unset, .unset, .unset] (hb hby at_41) rfl ?_
      refine gIloadN X4 hx (hb hby at_43) rfl ?_
      refine gIconst X4 hx (4 : Int32) (hb hby at_44) rfl ?_
      refine gIand X4 hx (hb hby at_45) ?_
      refine gIf X4 hx 53 (hb hby at_46) (by decide) (by decide) (fun hT => ?_) (fun hT => ?_)
      · have hc69 := o_eqT hT
        show Go _ _ _ _ _ _ _ T4 (mkF m 53 #[.val (.int p0), .val (.int p1), .val (.int p2), .val (.ref b1), .val (.ref b3), .val (.int (1 : Int32)), .val (.int (1 : Int32)), .unset, .unset, .unset, .unset, .unset, .unset] [])
        refine gIconst X4 hx (0 : Int32) (hb hby at_53) rfl ?_
        refine gIstore X4 hx #[.val (.int p0), .val (.int p1), .val (.int p2), .val (.ref b1), .val (.ref b3), .val (.int (1 : Int32)), .val (.int (1 : Int32)), .val (.int (0 : Int32)), .unset, .unset, .unset, .unset, .unset] (hb hby at_54) rfl ?_
        refine gIload X4 hx (hb hby at_56) rfl ?_
        refine gIf X4 hx 65 (hb hby at_58) (by decide) (by decide) (fun _ => ?_) (fun q => absurd (by decide) (o_eqF q))
        show Go _ _ _ _ _ _ _ T4 (mkF m 65 #[.val (.int p0), .val (.int p1), .val (.int p2), .val (.ref b1), .val (.ref b3), .val (.int (1 : Int32)), .val (.int (1 : Int32)), .val (.int (0 : Int32)), .unset, .unset, .unset, .unset, .unset] [])
        refine gIloadN X4 hx (hb hby at_65) rfl ?_
        refine gIstore X4 hx #[.val (.int p0), .val (.int p1), .val (.int p2), .val (.ref b1), .val (.ref b3), .val (.int (1 : Int32)), .val (.int (1 : Int32)), .val (.int (0 : Int32)), .val (.int p1), .unset, .unset, .unset, .unset] (hb hby at_66) rfl ?_
        refine gNew X4 hx hZ hown (tw hw 63 rfl) (tw hw 64 rfl) (tw hw 65 rfl) rfl (hb hby at_68) (by decide) (by decide) ?_
        intro T70 h70 b70 X70 e70 E70 g70 A70 D70
        have lt_b1_b70 : b1 < b70 := by rw [g70]; exact A1__4.lt
        have lt_b3_b70 : b3 < b70 := by rw [g70]; exact A3__4.lt
        have g_b70 : n0 ≤ b70 := by rw [g70]; exact Z_4
        have A1__70 := A1__4.ext E70
        have F_texts_b1__70 := F_texts_b1__4.ext E70
        have F_ints_b1__70 := F_ints_b1__4.ext E70
        have F_typesAndSteps_b1__70 := F_typesAndSteps_b1__4.ext E70
        have F_keptLines_b1__70 := F_keptLines_b1__4.ext E70
        have F_farValues_b1__70 := F_farValues_b1__4.ext E70
        have F_farLines_b1__70 := F_farLines_b1__4.ext E70
        have A3__70 := A3__4.ext E70
        have F_texts_b3__70 := F_texts_b3__4.ext E70
        have F_ints_b3__70 := F_ints_b3__4.ext E70
        have F_typesAndSteps_b3__70 := F_typesAndSteps_b3__4.ext E70
        have F_keptLines_b3__70 := F_keptLines_b3__4.ext E70
        have F_farValues_b3__70 := F_farValues_b3__4.ext E70
        have F_farLines_b3__70 := F_farLines_b3__4.ext E70
        have Z_70 := Nat.le_trans Z_4 E70.1
        have O_70 := O_4.ext E70
        have F_values_b70 : Fld Z h70 b70 "com/example/renkei/renkei/reader/JsonValue" "values" "Lcom/example/renkei/renkei/reader/ValueStore;" .null := D70 (Or.inr (tw hw 71 rfl)) (ty := (.object "com/example/renkei/renkei/reader/ValueStore")) (by decide)
        have F_value_b70 : Fld Z h70 b70 "com/example/renkei/renkei/reader/JsonValue" "value" "I" (.int (0 : Int32)) := D70 (Or.inr (tw hw 73 rfl)) (ty := .int) (by decide)
        show Go _ _ _ _ _ _ _ T70 (mkF m 71 #[.val (.int p0), .val (.int p1), .val (.int p2), .val (.ref b1), .val (.ref b3), .val (.int (1 : Int32)), .val (.int (1 : Int32)), .val (.int (0 : Int32)), .val (.int p1), .unset, .unset, .unset, .unset] [(.ref b70)])
        refine gDup X70 hx (hb hby at_71) rfl ?_
        refine gAloadN X70 hx (hb hby at_72) rfl rfl ?_
        refine gIloadN X70 hx (hb hby at_73) rfl ?_
        refine gInit X70 hx hZ (y := (⟨"com/example/renkei/renkei/reader/JsonValue", "<init>", "(Lcom/example/renkei/renkei/reader/ValueStore;I)V"⟩ : MethodName)) (a := b70) hown rfl (by decide) (tw hw 66 rfl) (tw hw 67 rfl) (tw hw 65 rfl) (tw hw 68 rfl) (own_rm5 l Z a0 hw b70 b1 p0 h70 n0 Z_70 O_70 A70 g_b70 _ F_values_b70 _ F_value_b70) e70 (by rw [hml]; rfl) (argsL := [(.ref b1), (.int p0)]) (rest := [(.ref b70)]) (W := 1) (lenOf own_pd1 rfl) rfl (Nat.le_of_eq rfl) (by decide) (by decide) (by decide) (by decide) (hb hby at_74) ?_
        rintro _ T71 L71 X71 ⟨rfl, Nq71, Kq71, Q0_71, Q1_71⟩
        have N_71 := Fr.app N_4 Nq71
        have A1__71 := A1__70.keep Kq71
        have F_texts_b1__71 := F_texts_b1__70.keep Kq71 (ninS (Nat.ne_of_lt lt_b1_b70) nin0)
        have F_ints_b1__71 := F_ints_b1__70.keep Kq71 (ninS (Nat.ne_of_lt lt_b1_b70) nin0)
        have F_typesAndSteps_b1__71 := F_typesAndSteps_b1__70.keep Kq71 (ninS (Nat.ne_of_lt lt_b1_b70) nin0)
        have F_keptLines_b1__71 := F_keptLines_b1__70.keep Kq71 (ninS (Nat.ne_of_lt lt_b1_b70) nin0)
        have F_farValues_b1__71 := F_farValues_b1__70.keep Kq71 (ninS (Nat.ne_of_lt lt_b1_b70) nin0)
        have F_farLines_b1__71 := F_farLines_b1__70.keep Kq71 (ninS (Nat.ne_of_lt lt_b1_b70) nin0)
        have A3__71 := A3__70.keep Kq71
        have F_texts_b3__71 := F_texts_b3__70.keep Kq71 (ninS (Nat.ne_of_lt lt_b3_b70) nin0)
        have F_ints_b3__71 := F_ints_b3__70.keep Kq71 (ninS (Nat.ne_of_lt lt_b3_b70) nin0)
        have F_typesAndSteps_b3__71 := F_typesAndSteps_b3__70.keep Kq71 (ninS (Nat.ne_of_lt lt_b3_b70) nin0)
        have F_keptLines_b3__71 := F_keptLines_b3__70.keep Kq71 (ninS (Nat.ne_of_lt lt_b3_b70) nin0)
        have F_farValues_b3__71 := F_farValues_b3__70.keep Kq71 (ninS (Nat.ne_of_lt lt_b3_b70) nin0)
        have F_farLines_b3__71 := F_farLines_b3__70.keep Kq71 (ninS (Nat.ne_of_lt lt_b3_b70) nin0)
        have A70__71 := A70.keep Kq71
        have Z_71 := Nat.le_trans Z_70 Kq71.1
        have O_71 := O_70.keep Kq71 (allS g_b70 all0)
        show Go _ _ _ _ _ _ _ T71 (mkF m 77 #[.val (.int p0), .val (.int p1), .val (.int p2), .val (.ref b1), .val (.ref b3), .val (.int (1 : Int32)), .val (.int (1 : Int32)), .val (.int (0 : Int32)), .val (.int p1), .unset, .unset, .unset, .unset] [(.ref b70)])
        refine gAstore X71 hx #[.val (.int p0), .val (.int p1), .val (.int p2), .val (.ref b1), .val (.ref b3), .val (.int (1 : Int32)), .val (.int (1 : Int32)), .val (.int (0 : Int32)), .val (.int p1), .val (.ref b70), .unset, .unset, .unset] (hb hby at_77) rfl rfl ?_
        refine gNew X71 hx hZ hown (tw hw 63 rfl) (tw hw 64 rfl) (tw hw 65 rfl) rfl (hb hby at_79) (by decide) (by decide) ?_
        intro T72 h72 b72 X72 e72 E72 g72 A72 D72
        have lt_b1_b72 : b1 < b72 := by rw [g72]; exact A1__71.lt
        have lt_b3_b72 : b3 < b72 := by rw [g72]; exact A3__71.lt
        have lt_b70_b72 : b70 < b72 := by rw [g72]; exact A70__71.lt
        have g_b72 : n0 ≤ b72 := by rw [g72]; exact Z_71
        have A1__72 := A1__71.ext E72
        have F_texts_b1__72 := F_texts_b1__71.ext E72
        have F_ints_b1__72 := F_ints_b1__71.ext E72
        have F_typesAndSteps_b1__72 := F_typesAndSteps_b1__71.ext E72
        have F_keptLines_b1__72 := F_keptLines_b1__71.ext E72
        have F_farValues_b1__72 := F_farValues_b1__71.ext E72
        have F_farLines_b1__72 := F_farLines_b1__71.ext E72
        have A3__72 := A3__71.ext E72
        have F_texts_b3__72 := F_texts_b3__71.ext E72
        have F_ints_b3__72 := F_ints_b3__71.ext E72
        have F_typesAndSteps_b3__72 := F_typesAndSteps_b3__71.ext E72
        have F_keptLines_b3__72 := F_keptLines_b3__71.ext E72
        have F_farValues_b3__72 := F_farValues_b3__71.ext E72
        have F_farLines_b3__72 := F_farLines_b3__71.ext E72
        have A70__72 := A70__71.ext E72
        have Q0_71__72 := Q0_71.ext E72
        have Q1_71__72 := Q1_71.ext E72
        have Z_72 := Nat.le_trans Z_71 E72.1
        have O_72 := O_71.ext E72
        have F_values_b72 : Fld Z h72 b72 "com/example/renkei/renkei/reader/JsonValue" "values" "Lcom/example/renkei/renkei/reader/ValueStore;" .null := D72 (Or.inr (tw hw 71 rfl)) (ty := (.object "com/example/renkei/renkei/reader/ValueStore")) (by decide)
        have F_value_b72 : Fld Z h72 b72 "com/example/renkei/renkei/reader/JsonValue" "value" "I" (.int (0 : Int32)) := D72 (Or.inr (tw hw 73 rfl)) (ty := .int) (by decide)
        show Go _ _ _ _ _ _ _ T72 (mkF m 82 #[.val (.int p0), .val (.int p1), .val (.int p2), .val (.ref b1), .val (.ref b3), .val (.int (1 : Int32)), .val (.int (1 : Int32)), .val (.int (0 : Int32)), .val (.int p1), .val (.ref b70), .unset, .unset, .unset] [(.ref b72)])
        refine gDup X72 hx (hb hby at_82) rfl ?_
        refine gIload X72 hx (hb hby at_83) rfl ?_
        refine gIf X72 hx 92 (hb hby at_85) (by decide) (by decide) (fun q => absurd (o_eqT q) (by decide)) (fun _ => ?_)
        show Go _ _ _ _ _ _ _ T72 (mkF m 88 #[.val (.int p0), .val (.int p1), .val (.int p2), .val (.ref b1), .val (.ref b3), .val (.int (1 : Int32)), .val (.int (1 : Int32)), .val (.int (0 : Int32)), .val (.int p1), .val (.ref b70), .unset, .unset, .unset] [(.ref b72), (.ref b72)])
        refine gAloadN X72 hx (hb hby at_88) rfl rfl ?_
        refine gGoto X72 hx 94 (hb hby at_89) (by decide) (by decide) ?_
        refine gIload X72 hx (hb hby at_94) rfl ?_
        refine gInit X72 hx hZ (y := (⟨"com/example/renkei/renkei/reader/JsonValue", "<init>", "(Lcom/example/renkei/renkei/reader/ValueStore;I)V"⟩ : MethodName)) (a := b72) hown rfl (by decide) (tw hw 66 rfl) (tw hw 67 rfl) (tw hw 65 rfl) (tw hw 68 rfl) (own_rm5 l Z a0 hw b72 b1 p1 h72 n0 Z_72 O_72 A72 g_b72 _ F_values_b72 _ F_value_b72) e72 (by rw [hml]; rfl) (argsL := [(.ref b1), (.int p1)]) (rest := [(.ref b72)]) (W := 1) (lenOf own_pd1 rfl) rfl (Nat.le_of_eq rfl) (by decide) (by decide) (by decide) (by decide) (hb hby at_96) ?_
        rintro _ T73 L73 X73 ⟨rfl, Nq73, Kq73, Q0_73, Q1_73⟩
        have N_73 := Fr.app N_71 Nq73
        have A1__73 := A1__72.keep Kq73
        have F_texts_b1__73 := F_texts_b1__72.keep Kq73 (ninS (Nat.ne_of_lt lt_b1_b72) nin0)
        have F_ints_b1__73 := F_ints_b1__72.keep Kq73 (ninS (Nat.ne_of_lt lt_b1_b72) nin0)
        have F_typesAndSteps_b1__73 := F_typesAndSteps_b1__72.keep Kq73 (ninS (Nat.ne_of_lt lt_b1_b72) nin0)
        have F_keptLines_b1__73 := F_keptLines_b1__72.keep Kq73 (ninS (Nat.ne_of_lt lt_b1_b72) nin0)
        have F_farValues_b1__73 := F_farValues_b1__72.keep Kq73 (ninS (Nat.ne_of_lt lt_b1_b72) nin0)
        have F_farLines_b1__73 := F_farLines_b1__72.keep Kq73 (ninS (Nat.ne_of_lt lt_b1_b72) nin0)
        have A3__73 := A3__72.keep Kq73
        have F_texts_b3__73 := F_texts_b3__72.keep Kq73 (ninS (Nat.ne_of_lt lt_b3_b72) nin0)
        have F_ints_b3__73 := F_ints_b3__72.keep Kq73 (ninS (Nat.ne_of_lt lt_b3_b72) nin0)
        have F_typesAndSteps_b3__73 := F_typesAndSteps_b3__72.keep Kq73 (ninS (Nat.ne_of_lt lt_b3_b72) nin0)
        have F_keptLines_b3__73 := F_keptLines_b3__72.keep Kq73 (ninS (Nat.ne_of_lt lt_b3_b72) nin0)
        have F_farValues_b3__73 := F_farValues_b3__72.keep Kq73 (ninS (Nat.ne_of_lt lt_b3_b72) nin0)
        have F_farLines_b3__73 := F_farLines_b3__72.keep Kq73 (ninS (Nat.ne_of_lt lt_b3_b72) nin0)
        have A70__73 := A70__72.keep Kq73
        have Q0_71__73 := Q0_71__72.keep Kq73 (ninS (Nat.ne_of_lt lt_b70_b72) nin0)
        have Q1_71__73 := Q1_71__72.keep Kq73 (ninS (Nat.ne_of_lt lt_b70_b72) nin0)
        have A72__73 := A72.keep Kq73
        have Z_73 := Nat.le_trans Z_72 Kq73.1
        have O_73 := O_72.keep Kq73 (allS g_b72 all0)
        show Go _ _ _ _ _ _ _ T73 (mkF m 99 #[.val (.int p0), .val (.int p1), .val (.int p2), .val (.ref b1), .val (.ref b3), .val (.int (1 : Int32)), .val (.int (1 : Int32)), .val (.int (0 : Int32)), .val (.int p1), .val (.ref b70), .unset, .unset, .unset] [(.ref b72)])
        refine gAstore X73 hx #[.val (.int p0), .val (.int p1), .val (.int p2), .val (.ref b1), .val (.ref b3), .val (.int (1 : Int32)), .val (.int (1 : Int32)), .val (.int (0 : Int32)), .val (.int p1), .val (.ref b70), .val (.ref b72), .unset, .unset] (hb hby at_99) rfl rfl ?_
        refine gIload X73 hx (hb hby at_101) rfl ?_
        refine gIf X73 hx 116 (hb hby at_103) (by decide) (by decide) (fun q => absurd (o_eqT q) (by decide)) (fun _ => ?_)
        show Go _ _ _ _ _ _ _ T73 (mkF m 106 #[.val (.int p0), .val (.int p1), .val (.int p2), .val (.ref b1), .val (.ref b3), .val (.int (1 : Int32)), .val (.int (1 : Int32)), .val (.int (0 : Int32)), .val (.int p1), .val (.ref b70), .val (.ref b72), .unset, .unset] [])
        refine gIloadN X73 hx (hb hby at_106) rfl ?_
        refine gIload X73 hx (hb hby at_107) rfl ?_
        refine gIcmp X73 hx 116 (hb hby at_109) (by decide) (by decide) (fun hT => ?_) (fun hT => ?_)
        · have hc74 := o_neT hT
          show Go _ _ _ _ _ _ _ T73 (mkF m 116 #[.val (.int p0), .val (.int p1), .val (.int p2), .val (.ref b1), .val (.ref b3), .val (.int (1 : Int32)), .val (.int (1 : Int32)), .val (.int (0 : Int32)), .val (.int p1), .val (.ref b70), .val (.ref b72), .unset, .unset] [])
          refine gIconst X73 hx (0 : Int32) (hb hby at_116) rfl ?_
          refine gIstore X73 hx #[.val (.int p0), .val (.int p1), .val (.int p2), .val (.ref b1), .val (.ref b3), .val (.int (1 : Int32)), .val (.int (1 : Int32)), .val (.int (0 : Int32)), .val (.int p1), .val (.ref b70), .val (.ref b72), .val (.int (0 : Int32)), .unset] (hb hby at_117) rfl ?_
          refine gIload X73 hx (hb hby at_119) rfl ?_
          refine gIf X73 hx 128 (hb hby at_121) (by decide) (by decide) (fun q => absurd (o_eqT q) (by decide)) (fun _ => ?_)
          show Go _ _ _ _ _ _ _ T73 (mkF m 124 #[.val (.int p0), .val (.int p1), .val (.int p2), .val (.ref b1), .val (.ref b3), .val (.int (1 : Int32)), .val (.int (1 : Int32)), .val (.int (0 : Int32)), .val (.int p1), .val (.ref b70), .val (.ref b72), .val (.int (0 : Int32)), .unset] [])
          refine gNull X73 hx (hb hby at_124) ?_
          refine gGoto X73 hx 132 (hb hby at_125) (by decide) (by decide) ?_
          refine gAstore X73 hx #[.val (.int p0), .val (.int p1), .val (.int p2), .val (.ref b1), .val (.ref b3), .val (.int (1 : Int32)), .val (.int (1 : Int32)), .val (.int (0 : Int32)), .val (.int p1), .val (.ref b70), .val (.ref b72), .val (.int (0 : Int32)), .val .null] (hb hby at_132) rfl rfl ?_
          refine gAload X73 hx (hb hby at_134) rfl rfl ?_
          refine gAload X73 hx (hb hby at_136) rfl rfl ?_
          refine gVirtual X73 hx hZ (y := (⟨"com/example/renkei/renkei/reader/JsonValue", "equals", "(Ljava/lang/Object;)Z"⟩ : MethodName)) (a := b70) hown (by decide) (tw hw 74 rfl) (tw hw 75 rfl) (tw hw 76 rfl) (tw hw 77 rfl) (tw hw 65 rfl) (tw hw 78 rfl) A70__73 (own_rm9J l Z a0 hw b70 b72 T73.heap n0 Z_73 _ _ _ _ Q0_71__73 Q1_71__73 A72__73 Q0_73 Q1_73) rfl (by rw [hml]; rfl) (argsL := [(.ref b72)]) (rest := []) (W := 0) (lenOf own_pd4 rfl) rfl (Nat.le_of_eq rfl) (by decide) (by decide) (by decide) (by decide) (hb hby at_138) ?_
          rintro _ T75 L75 X75 ⟨rfl, Nq75, e75⟩
          have N_75 := Fr.app N_73 Nq75
          show Go _ _ _ _ _ _ _ T75 (mkF m 141 #[.val (.int p0), .val (.int p1), .val (.int p2), .val (.ref b1), .val (.ref b3), .val (.int (1 : Int32)), .val (.int (1 : Int32)), .val (.int (0 : Int32)), .val (.int p1), .val (.ref b70), .val (.ref b72), .val (.int (0 : Int32)), .val .null] [(.int (own_eqv b1 b1 p1 p0))])
          refine gIload X75 hx (hb hby at_141) rfl ?_
          refine gIcmp X75 hx 182 (hb hby at_143) (by decide) (by decide) (fun q => absurd (own_q0 hc74) (o_neT q)) (fun _ => ?_)
          show Go _ _ _ _ _ _ _ T75 (mkF m 146 #[.val (.int p0), .val (.int p1), .val (.int p2), .val (.ref b1), .val (.ref b3), .val (.int (1 : Int32)), .val (.int (1 : Int32)), .val (.int (0 : Int32)), .val (.int p1), .val (.ref b70), .val (.ref b72), .val (.int (0 : Int32)), .val .null] [])
          refine gAload X75 hx (hb hby at_146) rfl rfl ?_
          refine gAload X75 hx (hb hby at_148) rfl rfl ?_
          refine gVirtual X75 hx hZ (y := (⟨"com/example/renkei/renkei/reader/JsonValue", "equals", "(Ljava/lang/Object;)Z"⟩ : MethodName)) (a := b72) hown (by decide) (tw hw 74 rfl) (tw hw 75 rfl) (tw hw 76 rfl) (tw hw 77 rfl) (tw hw 65 rfl) (tw hw 78 rfl) A72__73 (own_rm9J l Z a0 hw b72 b70 T73.heap n0 Z_73 _ _ _ _ Q0_73 Q1_73 A70__73 Q0_71__73 Q1_71__73) e75 (by rw [hml]; rfl) (argsL := [(.ref b70)]) (rest := []) (W := 0) (lenOf own_pd4 rfl) rfl (Nat.le_of_eq rfl) (by decide) (by decide) (by decide) (by decide) (hb hby at_150) ?_
          rintro _ T76 L76 X76 ⟨rfl, Nq76, e76⟩
          have N_76 := Fr.app N_75 Nq76
          show Go _ _ _ _ _ _ _ T76 (mkF m 153 #[.val (.int p0), .val (.int p1), .val (.int p2), .val (.ref b1), .val (.ref b3), .val (.int (1 : Int32)), .val (.int (1 : Int32)), .val (.int (0 : Int32)), .val (.int p1), .val (.ref b70), .val (.ref b72), .val (.int (0 : Int32)), .val .null] [(.int (own_eqv b1 b1 p0 p1))])
          refine gIload X76 hx (hb hby at_153) rfl ?_
          refine gIcmp X76 hx 182 (hb hby at_155) (by decide) (by decide) (fun q => absurd (own_q0 (fun q => hc74 q.symm)) (o_neT q)) (fun _ => ?_)
          show Go _ _ _ _ _ _ _ T76 (mkF m 158 #[.val (.int p0), .val (.int p1), .val (.int p2), .val (.ref b1), .val (.ref b3), .val (.int (1 : Int32)), .val (.int (1 : Int32)), .val (.int (0 : Int32)), .val (.int p1), .val (.ref b70), .val (.ref b72), .val (.int (0 : Int32)), .val .null] [])
          refine gAload X76 hx (hb hby at_158) rfl rfl ?_
          refine gAload X76 hx (hb hby at_160) rfl rfl ?_
          refine gVirtual X76 hx hZ (y := (⟨"com/example/renkei/renkei/reader/JsonValue", "equals", "(Ljava/lang/Object;)Z"⟩ : MethodName)) (a := b70) hown (by decide) (tw hw 74 rfl) (tw hw 75 rfl) (tw hw 76 rfl) (tw hw 77 rfl) (tw hw 65 rfl) (tw hw 78 rfl) A70__73 (own_rm9J l Z a0 hw b70 b70 T73.heap n0 Z_73 _ _ _ _ Q0_71__73 Q1_71__73 A70__73 Q0_71__73 Q1_71__73) e76 (by rw [hml]; rfl) (argsL := [(.ref b70)]) (rest := []) (W := 0) (lenOf own_pd4 rfl) rfl (Nat.le_of_eq rfl) (by decide) (by decide) (by decide) (by decide) (hb hby at_162) ?_
          rintro _ T77 L77 X77 ⟨rfl, Nq77, e77⟩
          have N_77 := Fr.app N_76 Nq77
          show Go _ _ _ _ _ _ _ T77 (mkF m 165 #[.val (.int p0), .val (.int p1), .val (.int p2), .val (.ref b1), .val (.ref b3), .val (.int (1 : Int32)), .val (.int (1 : Int32)), .val (.int (0 : Int32)), .val (.int p1), .val (.ref b70), .val (.ref b72), .val (.int (0 : Int32)), .val .null] [(.int (own_eqv b1 b1 p0 p0))])
          refine gIf X77 hx 182 (hb hby at_165) (by decide) (by decide) (fun q => absurd (o_eqT q) (own_qs _ _)) (fun _ => ?_)
          show Go _ _ _ _ _ _ _ T77 (mkF m 168 #[.val (.int p0), .val (.int p1), .val (.int p2), .val (.ref b1), .val (.ref b3), .val (.int (1 : Int32)), .val (.int (1 : Int32)), .val (.int (0 : Int32)), .val (.int p1), .val (.ref b70), .val (.ref b72), .val (.int (0 : Int32)), .val .null] [])
          refine gAload X77 hx (hb hby at_168) rfl rfl ?_
          refine gAload X77 hx (hb hby at_170) rfl rfl ?_
          refine gVirtual X77 hx hZ (y := (⟨"com/example/renkei/renkei/reader/JsonValue", "equals", "(Ljava/lang/Object;)Z"⟩ : MethodName)) (a := b70) hown (by decide) (tw hw 74 rfl) (tw hw 75 rfl) (tw hw 76 rfl) (tw hw 77 rfl) (tw hw 65 rfl) (tw hw 78 rfl) A70__73 (own_rm9N l Z a0 hw b70 T73.heap n0 Z_73 _ _ Q0_71__73 Q1_71__73) e77 (by rw [hml]; rfl) (argsL := [.null]) (rest := []) (W := 0) (lenOf own_pd4 rfl) rfl (Nat.le_of_eq rfl) (by decide) (by decide) (by decide) (by decide) (hb hby at_172) ?_
          rintro _ T78 L78 X78 ⟨rfl, Nq78, e78⟩
          have N_78 := Fr.app N_77 Nq78
          show Go _ _ _ _ _ _ _ T78 (mkF m 175 #[.val (.int p0), .val (.int p1), .val (.int p2), .val (.ref b1), .val (.ref b3), .val (.int (1 : Int32)), .val (.int (1 : Int32)), .val (.int (0 : Int32)), .val (.int p1), .val (.ref b70), .val (.ref b72), .val (.int (0 : Int32)), .val .null] [(.int (0 : Int32))])
          refine gIf X78 hx 182 (hb hby at_175) (by decide) (by decide) (fun q => absurd (by decide) (o_neT q)) (fun _ => ?_)
          show Go _ _ _ _ _ _ _ T78 (mkF m 178 #[.val (.int p0), .val (.int p1), .val (.int p2), .val (.ref b1), .val (.ref b3), .val (.int (1 : Int32)), .val (.int (1 : Int32)), .val (.int (0 : Int32)), .val (.int p1), .val (.ref b70), .val (.ref b72), .val (.int (0 : Int32)), .val .null] [])
          refine gIconst X78 hx (1 : Int32) (hb hby at_178) rfl ?_
          refine gGoto X78 hx 183 (hb hby at_179) (by decide) (by decide) ?_
          exact gRetZ X78 hx hlk hret (by simp) (hb hby at_183) (z' := (1 : Int32)) rfl (by decide) (by decide) ⟨rfl, N_78⟩
        · have hc74 := o_neF hT
          show Go _ _ _ _ _ _ _ T73 (mkF m 112 #[.val (.int p0), .val (.int p1), .val (.int p2), .val (.ref b1), .val (.ref b3), .val (.int (1 : Int32)), .val (.int (1 : Int32)), .val (.int (0 : Int32)), .val (.int p1), .val (.ref b70), .val (.ref b72), .unset, .unset] [])
          refine gIconst X73 hx (1 : Int32) (hb hby at_112) rfl ?_
          refine gGoto X73 hx 117 (hb hby at_113) (by decide) (by decide) ?_
          refine gIstore X73 hx #[.val (.int p0), .val (.int p1), .val (.int p2), .val (.ref b1), .val (.ref b3), .val (.int (1 : Int32)), .val (.int (1 : Int32)), .val (.int (0 : Int32)), .val (.int p1), .val (.ref b70), .val (.ref b72), .val (.int (1 : Int32)), .unset] (hb hby at_117) rfl ?_
          refine gIload X73 hx (hb hby at_119) rfl ?_
          refine gIf X73 hx 128 (hb hby at_121) (by decide) (by decide) (fun q => absurd (o_eqT q) (by decide)) (fun _ => ?_)
          show Go _ _ _ _ _ _ _ T73 (mkF m 124 #[.val (.int p0), .val (.int p1), .val (.int p2), .val (.ref b1), .val (.ref b3), .val (.int (1 : Int32)), .val (.int (1 : Int32)), .val (.int (0 : Int32)), .val (.int p1), .val (.ref b70), .val (.ref b72), .val (.int (1 : Int32)), .unset] [])
          refine gNull X73 hx (hb hby at_124) ?_
          refine gGoto X73 hx 132 (hb hby at_125) (by decide) (by decide) ?_
          refine gAstore X73 hx #[.val (.int p0), .val (.int p1), .val (.int p2), .val (.ref b1), .val (.ref b3), .val (.int (1 : Int32)), .val (.int (1 : Int32)), .val (.int (0 : Int32)), .val (.int p1), .val (.ref b70), .val (.ref b72), .val (.int (1 : Int32)), .val .null] (hb hby at_132) rfl rfl ?_
          refine gAload X73 hx (hb hby at_134) rfl rfl ?_
          refine gAload X73 hx (hb hby at_136) rfl rfl ?_
          refine gVirtual X73 hx hZ (y := (⟨"com/example/renkei/renkei/reader/JsonValue", "equals", "(Ljava/lang/Object;)Z"⟩ : MethodName)) (a := b70) hown (by decide) (tw hw 74 rfl) (tw hw 75 rfl) (tw hw 76 rfl) (tw hw 77 rfl) (tw hw 65 rfl) (tw hw 78 rfl) A70__73 (own_rm9J l Z a0 hw b70 b72 T73.heap n0 Z_73 _ _ _ _ Q0_71__73 Q1_71__73 A72__73 Q0_73 Q1_73) rfl (by rw [hml]; rfl) (argsL := [(.ref b72)]) (rest := []) (W := 0) (lenOf own_pd4 rfl) rfl (Nat.le_of_eq rfl) (by decide) (by decide) (by decide) (by decide) (hb hby at_138) ?_
          rintro _ T79 L79 X79 ⟨rfl, Nq79, e79⟩
          have N_79 := Fr.app N_73 Nq79
          show Go _ _ _ _ _ _ _ T79 (mkF m 141 #[.val (.int p0), .val (.int p1), .val (.int p2), .val (.ref b1), .val (.ref b3), .val (.int (1 : Int32)), .val (.int (1 : Int32)), .val (.int (0 : Int32)), .val (.int p1), .val (.ref b70), .val (.ref b72), .val (.int (1 : Int32)), .val .null] [(.int (own_eqv b1 b1 p1 p0))])
          refine gIload X79 hx (hb hby at_141) rfl ?_
          refine gIcmp X79 hx 182 (hb hby at_143) (by decide) (by decide) (fun q => absurd (own_q1 hc74) (o_neT q)) (fun _ => ?_)
          show Go _ _ _ _ _ _ _ T79 (mkF m 146 #[.val (.int p0), .val (.int p1), .val (.int p2), .val (.ref b1), .val (.ref b3), .val (.int (1 : Int32)), .val (.int (1 : Int32)), .val (.int (0 : Int32)), .val (.int p1), .val (.ref b70), .val (.ref b72), .val (.int (1 : Int32)), .val .null] [])
          refine gAload X79 hx (hb hby at_146) rfl rfl ?_
          refine gAload X79 hx (hb hby at_148) rfl rfl ?_
          refine gVirtual X79 hx hZ (y := (⟨"com/example/renkei/renkei/reader/JsonValue", "equals", "(Ljava/lang/Object;)Z"⟩ : MethodName)) (a := b72) hown (by decide) (tw hw 74 rfl) (tw hw 75 rfl) (tw hw 76 rfl) (tw hw 77 rfl) (tw hw 65 rfl) (tw hw 78 rfl) A72__73 (own_rm9J l Z a0 hw b72 b70 T73.heap n0 Z_73 _ _ _ _ Q0_73 Q1_73 A70__73 Q0_71__73 Q1_71__73) e79 (by rw [hml]; rfl) (argsL := [(.ref b70)]) (rest := []) (W := 0) (lenOf own_pd4 rfl) rfl (Nat.le_of_eq rfl) (by decide) (by decide) (by decide) (by decide) (hb hby at_150) ?_
          rintro _ T80 L80 X80 ⟨rfl, Nq80, e80⟩
          have N_80 := Fr.app N_79 Nq80
          show Go _ _ _ _ _ _ _ T80 (mkF m 153 #[.val (.int p0), .val (.int p1), .val (.int p2), .val (.ref b1), .val (.ref b3), .val (.int (1 : Int32)), .val (.int (1 : Int32)), .val (.int (0 : Int32)), .val (.int p1), .val (.ref b70), .val (.ref b72), .val (.int (1 : Int32)), .val .null] [(.int (own_eqv b1 b1 p0 p1))])
          refine gIload X80 hx (hb hby at_153) rfl ?_
          refine gIcmp X80 hx 182 (hb hby at_155) (by decide) (by decide) (fun q => absurd (own_q1 hc74.symm) (o_neT q)) (fun _ => ?_)
          show Go _ _ _ _ _ _ _ T80 (mkF m 158 #[.val (.int p0), .val (.int p1), .val (.int p2), .val (.ref b1), .val (.ref b3), .val (.int (1 : Int32)), .val (.int (1 : Int32)), .val (.int (0 : Int32)), .val (.int p1), .val (.ref b70), .val (.ref b72), .val (.int (1 : Int32)), .val .null] [])
          refine gAload X80 hx (hb hby at_158) rfl rfl ?_
          refine gAload X80 hx (hb hby at_160) rfl rfl ?_
          refine gVirtual X80 hx hZ (y := (⟨"com/example/renkei/renkei/reader/JsonValue", "equals", "(Ljava/lang/Object;)Z"⟩ : MethodName)) (a := b70) hown (by decide) (tw hw 74 rfl) (tw hw 75 rfl) (tw hw 76 rfl) (tw hw 77 rfl) (tw hw 65 rfl) (tw hw 78 rfl) A70__73 (own_rm9J l Z a0 hw b70 b70 T73.heap n0 Z_73 _ _ _ _ Q0_71__73 Q1_71__73 A70__73 Q0_71__73 Q1_71__73) e80 (by rw [hml]; rfl) (argsL := [(.ref b70)]) (rest := []) (W := 0) (lenOf own_pd4 rfl) rfl (Nat.le_of_eq rfl) (by decide) (by decide) (by decide) (by decide) (hb hby at_162) ?_
          rintro _ T81 L81 X81 ⟨rfl, Nq81, e81⟩
          have N_81 := Fr.app N_80 Nq81
          show Go _ _ _ _ _ _ _ T81 (mkF m 165 #[.val (.int p0), .val (.int p1), .val (.int p2), .val (.ref b1), .val (.ref b3), .val (.int (1 : Int32)), .val (.int (1 : Int32)), .val (.int (0 : Int32)), .val (.int p1), .val (.ref b70), .val (.ref b72), .val (.int (1 : Int32)), .val .null] [(.int (own_eqv b1 b1 p0 p0))])
          refine gIf X81 hx 182 (hb hby at_165) (by decide) (by decide) (fun q => absurd (o_eqT q) (own_qs _ _)) (fun _ => ?_)
          show Go _ _ _ _ _ _ _ T81 (mkF m 168 #[.val (.int p0), .val (.int p1), .val (.int p2), .val (.ref b1), .val (.ref b3), .val (.int (1 : Int32)), .val (.int (1 : Int32)), .val (.int (0 : Int32)), .val (.int p1), .val (.ref b70), .val (.ref b72), .val (.int (1 : Int32)), .val .null] [])
          refine gAload X81 hx (hb hby at_168) rfl rfl ?_
          refine gAload X81 hx (hb hby at_170) rfl rfl ?_
          refine gVirtual X81 hx hZ (y := (⟨"com/example/renkei/renkei/reader/JsonValue", "equals", "(Ljava/lang/Object;)Z"⟩ : MethodName)) (a := b70) hown (by decide) (tw hw 74 rfl) (tw hw 75 rfl) (tw hw 76 rfl) (tw hw 77 rfl) (tw hw 65 rfl) (tw hw 78 rfl) A70__73 (own_rm9N l Z a0 hw b70 T73.heap n0 Z_73 _ _ Q0_71__73 Q1_71__73) e81 (by rw [hml]; rfl) (argsL := [.null]) (rest := []) (W := 0) (lenOf own_pd4 rfl) rfl (Nat.le_of_eq rfl) (by decide) (by decide) (by decide) (by decide) (hb hby at_172) ?_
          rintro _ T82 L82 X82 ⟨rfl, Nq82, e82⟩
          have N_82 := Fr.app N_81 Nq82
          show Go _ _ _ _ _ _ _ T82 (mkF m 175 #[.val (.int p0), .val (.int p1), .val (.int p2), .val (.ref b1), .val (.ref b3), .val (.int (1 : Int32)), .val (.int (1 : Int32)), .val (.int (0 : Int32)), .val (.int p1), .val (.ref b70), .val (.ref b72), .val (.int (1 : Int32)), .val .null] [(.int (0 : Int32))])
          refine gIf X82 hx 182 (hb hby at_175) (by decide) (by decide) (fun q => absurd (by decide) (o_neT q)) (fun _ => ?_)
          show Go _ _ _ _ _ _ _ T82 (mkF m 178 #[.val (.int p0), .val (.int p1), .val (.int p2), .val (.ref b1), .val (.ref b3), .val (.int (1 : Int32)), .val (.int (1 : Int32)), .val (.int (0 : Int32)), .val (.int p1), .val (.ref b70), .val (.ref b72), .val (.int (1 : Int32)), .val .null] [])
          refine gIconst X82 hx (1 : Int32) (hb hby at_178) rfl ?_
          refine gGoto X82 hx 183 (hb hby at_179) (by decide) (by decide) ?_
          exact gRetZ X82 hx hlk hret (by simp) (hb hby at_183) (z' := (1 : Int32)) rfl (by decide) (by decide) ⟨rfl, N_82⟩
      · have hc69 := o_eqF hT
        show Go _ _ _ _ _ _ _ T4 (mkF m 49 #[.val (.int p0), .val (.int p1), .val (.int p2), .val (.ref b1), .val (.ref b3), .val (.int (1 : Int32)), .val (.int (1 : Int32)), .unset, .unset, .unset, .unset, .unset, .unset] [])
        refine gIconst X4 hx (1 : Int32) (hb hby at_49) rfl ?_
        refine gGoto X4 hx 54 (hb hby at_50) (by decide) (by decide) ?_
        refine gIstore X4 hx #[.val (.int p0), .val (.int p1), .val (.int p2), .val (.ref b1), .val (.ref b3), .val (.int (1 : Int32)), .val (.int (1 : Int32)), .val (.int (1 : Int32)), .unset, .unset, .unset, .unset, .unset] (hb hby at_54) rfl ?_
        refine gIload X4 hx (hb hby at_56) rfl ?_
        refine gIf X4 hx 65 (hb hby at_58) (by decide) (by decide) (fun q => absurd (o_eqT q) (by decide)) (fun _ => ?_)
        show Go _ _ _ _ _ _ _ T4 (mkF m 61 #[.val (.int p0), .val (.int p1), .val (.int p2), .val (.ref b1), .val (.ref b3), .val (.int (1 : Int32)), .val (.int (1 : Int32)), .val (.int (1 : Int32)), .unset, .unset, .unset, .unset, .unset] [])
        refine gIloadN X4 hx (hb hby at_61) rfl ?_
        refine gGoto X4 hx 66 (hb hby at_62) (by decide) (by decide) ?_
        refine gIstore X4 hx #[.val (.int p0), .val (.int p1), .val (.int p2), .val (.ref b1), .val (.ref b3), .val (.int (1 : Int32)), .val (.int (1 : Int32)), .val (.int (1 : Int32)), .val (.int p0), .unset, .unset, .unset, .unset] (hb hby at_66) rfl ?_
        refine gNew X4 hx hZ hown (tw hw 63 rfl) (tw hw 64 rfl) (tw hw 65 rfl) rfl (hb hby at_68) (by decide) (by decide) ?_
        intro T83 h83 b83 X83 e83 E83 g83 A83 D83
        have lt_b1_b83 : b1 < b83 := by rw [g83]; exact A1__4.lt
        have lt_b3_b83 : b3 < b83 := by rw [g83]; exact A3__4.lt
        have g_b83 : n0 ≤ b83 := by rw [g83]; exact Z_4
        have A1__83 := A1__4.ext E83
        have F_texts_b1__83 := F_texts_b1__4.ext E83
        have F_ints_b1__83 := F_ints_b1__4.ext E83
        have F_typesAndSteps_b1__83 := F_typesAndSteps_b1__4.ext E83
        have F_keptLines_b1__83 := F_keptLines_b1__4.ext E83
        have F_farValues_b1__83 := F_farValues_b1__4.ext E83
        have F_farLines_b1__83 := F_farLines_b1__4.ext E83
        have A3__83 := A3__4.ext E83
        have F_texts_b3__83 := F_texts_b3__4.ext E83
        have F_ints_b3__83 := F_ints_b3__4.ext E83
        have F_typesAndSteps_b3__83 := F_typesAndSteps_b3__4.ext E83
        have F_keptLines_b3__83 := F_keptLines_b3__4.ext E83
        have F_farValues_b3__83 := F_farValues_b3__4.ext E83
        have F_farLines_b3__83 := F_farLines_b3__4.ext E83
        have Z_83 := Nat.le_trans Z_4 E83.1
        have O_83 := O_4.ext E83
        have F_values_b83 : Fld Z h83 b83 "com/example/renkei/renkei/reader/JsonValue" "values" "Lcom/example/renkei/renkei/reader/ValueStore;" .null := D83 (Or.inr (tw hw 71 rfl)) (ty := (.object "com/example/renkei/renkei/reader/ValueStore")) (by decide)
        have F_value_b83 : Fld Z h83 b83 "com/example/renkei/renkei/reader/JsonValue" "value" "I" (.int (0 : Int32)) := D83 (Or.inr (tw hw 73 rfl)) (ty := .int) (by decide)
        show Go _ _ _ _ _ _ _ T83 (mkF m 71 #[.val (.int p0), .val (.int p1), .val (.int p2), .val (.ref b1), .val (.ref b3), .val (.int (1 : Int32)), .val (.int (1 : Int32)), .val (.int (1 : Int32)), .val (.int p0), .unset, .unset, .unset, .unset] [(.ref b83)])
        refine gDup X83 hx (hb hby at_71) rfl ?_
        refine gAloadN X83 hx (hb hby at_72) rfl rfl ?_
        refine gIloadN X83 hx (hb hby at_73) rfl ?_
        refine gInit X83 hx hZ (y := (⟨"com/example/renkei/renkei/reader/JsonValue", "<init>", "(Lcom/example/renkei/renkei/reader/ValueStore;I)V"⟩ : MethodName)) (a := b83) hown rfl (by decide) (tw hw 66 rfl) (tw hw 67 rfl) (tw hw 65 rfl) (tw hw 68 rfl) (own_rm5 l Z a0 hw b83 b1 p0 h83 n0 Z_83 O_83 A83 g_b83 _ F_values_b83 _ F_value_b83) e83 (by rw [hml]; rfl) (argsL := [(.ref b1), (.int p0)]) (rest := [(.ref b83)]) (W := 1) (lenOf own_pd1 rfl) rfl (Nat.le_of_eq rfl) (by decide) (by decide) (by decide) (by decide) (hb hby at_74) ?_
        rintro _ T84 L84 X84 ⟨rfl, Nq84, Kq84, Q0_84, Q1_84⟩
        have N_84 := Fr.app N_4 Nq84
        have A1__84 := A1__83.keep Kq84
        have F_texts_b1__84 := F_texts_b1__83.keep Kq84 (ninS (Nat.ne_of_lt lt_b1_b83) nin0)
        have F_ints_b1__84 := F_ints_b1__83.keep Kq84 (ninS (Nat.ne_of_lt lt_b1_b83) nin0)
        have F_typesAndSteps_b1__84 := F_typesAndSteps_b1__83.keep Kq84 (ninS (Nat.ne_of_lt lt_b1_b83) nin0)
        have F_keptLines_b1__84 := F_keptLines_b1__83.keep Kq84 (ninS (Nat.ne_of_lt lt_b1_b83) nin0)
        have F_farValues_b1__84 := F_farValues_b1__83.keep Kq84 (ninS (Nat.ne_of_lt lt_b1_b83) nin0)
        have F_farLines_b1__84 := F_farLines_b1__83.keep Kq84 (ninS (Nat.ne_of_lt lt_b1_b83) nin0)
        have A3__84 := A3__83.keep Kq84
        have F_texts_b3__84 := F_texts_b3__83.keep Kq84 (ninS (Nat.ne_of_lt lt_b3_b83) nin0)
        have F_ints_b3__84 := F_ints_b3__83.keep Kq84 (ninS (Nat.ne_of_lt lt_b3_b83) nin0)
        have F_typesAndSteps_b3__84 := F_typesAndSteps_b3__83.keep Kq84 (ninS (Nat.ne_of_lt lt_b3_b83) nin0)
        have F_keptLines_b3__84 := F_keptLines_b3__83.keep Kq84 (ninS (Nat.ne_of_lt lt_b3_b83) nin0)
        have F_farValues_b3__84 := F_farValues_b3__83.keep Kq84 (ninS (Nat.ne_of_lt lt_b3_b83) nin0)
        have F_farLines_b3__84 := F_farLines_b3__83.keep Kq84 (ninS (Nat.ne_of_lt lt_b3_b83) nin0)
        have A83__84 := A83.keep Kq84
        have Z_84 := Nat.le_trans Z_83 Kq84.1
        have O_84 := O_83.keep Kq84 (allS g_b83 all0)
        show Go _ _ _ _ _ _ _ T84 (mkF m 77 #[.val (.int p0), .val (.int p1), .val (.int p2), .val (.ref b1), .val (.ref b3), .val (.int (1 : Int32)), .val (.int (1 : Int32)), .val (.int (1 : Int32)), .val (.int p0), .unset, .unset, .unset, .unset] [(.ref b83)])
        refine gAstore X84 hx #[.val (.int p0), .val (.int p1), .val (.int p2), .val (.ref b1), .val (.ref b3), .val (.int (1 : Int32)), .val (.int (1 : Int32)), .val (.int (1 : Int32)), .val (.int p0), .val (.ref b83), .unset, .unset, .unset] (hb hby at_77) rfl rfl ?_
        refine gNew X84 hx hZ hown (tw hw 63 rfl) (tw hw 64 rfl) (tw hw 65 rfl) rfl (hb hby at_79) (by decide) (by decide) ?_
        intro T85 h85 b85 X85 e85 E85 g85 A85 D85
        have lt_b1_b85 : b1 < b85 := by rw [g85]; exact A1__84.lt
        have lt_b3_b85 : b3 < b85 := by rw [g85]; exact A3__84.lt
        have lt_b83_b85 : b83 < b85 := by rw [g85]; exact A83__84.lt
        have g_b85 : n0 ≤ b85 := by rw [g85]; exact Z_84
        have A1__85 := A1__84.ext E85
        have F_texts_b1__85 := F_texts_b1__84.ext E85
        have F_ints_b1__85 := F_ints_b1__84.ext E85
        have F_typesAndSteps_b1__85 := F_typesAndSteps_b1__84.ext E85
        have F_keptLines_b1__85 := F_keptLines_b1__84.ext E85
        have F_farValues_b1__85 := F_farValues_b1__84.ext E85
        have F_farLines_b1__85 := F_farLines_b1__84.ext E85
        have A3__85 := A3__84.ext E85
        have F_texts_b3__85 := F_texts_b3__84.ext E85
        have F_ints_b3__85 := F_ints_b3__84.ext E85
        have F_typesAndSteps_b3__85 := F_typesAndSteps_b3__84.ext E85
        have F_keptLines_b3__85 := F_keptLines_b3__84.ext E85
        have F_farValues_b3__85 := F_farValues_b3__84.ext E85
        have F_farLines_b3__85 := F_farLines_b3__84.ext E85
        have A83__85 := A83__84.ext E85
        have Q0_84__85 := Q0_84.ext E85
        have Q1_84__85 := Q1_84.ext E85
        have Z_85 := Nat.le_trans Z_84 E85.1
        have O_85 := O_84.ext E85
        have F_values_b85 : Fld Z h85 b85 "com/example/renkei/renkei/reader/JsonValue" "values" "Lcom/example/renkei/renkei/reader/ValueStore;" .null := D85 (Or.inr (tw hw 71 rfl)) (ty := (.object "com/example/renkei/renkei/reader/ValueStore")) (by decide)
        have F_value_b85 : Fld Z h85 b85 "com/example/renkei/renkei/reader/JsonValue" "value" "I" (.int (0 : Int32)) := D85 (Or.inr (tw hw 73 rfl)) (ty := .int) (by decide)
        show Go _ _ _ _ _ _ _ T85 (mkF m 82 #[.val (.int p0), .val (.int p1), .val (.int p2), .val (.ref b1), .val (.ref b3), .val (.int (1 : Int32)), .val (.int (1 : Int32)), .val (.int (1 : Int32)), .val (.int p0), .val (.ref b83), .unset, .unset, .unset] [(.ref b85)])
        refine gDup X85 hx (hb hby at_82) rfl ?_
        refine gIload X85 hx (hb hby at_83) rfl ?_
        refine gIf X85 hx 92 (hb hby at_85) (by decide) (by decide) (fun q => absurd (o_eqT q) (by decide)) (fun _ => ?_)
        show Go _ _ _ _ _ _ _ T85 (mkF m 88 #[.val (.int p0), .val (.int p1), .val (.int p2), .val (.ref b1), .val (.ref b3), .val (.int (1 : Int32)), .val (.int (1 : Int32)), .val (.int (1 : Int32)), .val (.int p0), .val (.ref b83), .unset, .unset, .unset] [(.ref b85), (.ref b85)])
        refine gAloadN X85 hx (hb hby at_88) rfl rfl ?_
        refine gGoto X85 hx 94 (hb hby at_89) (by decide) (by decide) ?_
        refine gIload X85 hx (hb hby at_94) rfl ?_
        refine gInit X85 hx hZ (y := (⟨"com/example/renkei/renkei/reader/JsonValue", "<init>", "(Lcom/example/renkei/renkei/reader/ValueStore;I)V"⟩ : MethodName)) (a := b85) hown rfl (by decide) (tw hw 66 rfl) (tw hw 67 rfl) (tw hw 65 rfl) (tw hw 68 rfl) (own_rm5 l Z a0 hw b85 b1 p0 h85 n0 Z_85 O_85 A85 g_b85 _ F_values_b85 _ F_value_b85) e85 (by rw [hml]; rfl) (argsL := [(.ref b1), (.int p0)]) (rest := [(.ref b85)]) (W := 1) (lenOf own_pd1 rfl) rfl (Nat.le_of_eq rfl) (by decide) (by decide) (by decide) (by decide) (hb hby at_96) ?_
        rintro _ T86 L86 X86 ⟨rfl, Nq86, Kq86, Q0_86, Q1_86⟩
        have N_86 := Fr.app N_84 Nq86
        have A1__86 := A1__85.keep Kq86
        have F_texts_b1__86 := F_texts_b1__85.keep Kq86 (ninS (Nat.ne_of_lt lt_b1_b85) nin0)
        have F_ints_b1__86 := F_ints_b1__85.keep Kq86 (ninS (Nat.ne_of_lt lt_b1_b85) nin0)
        have F_typesAndSteps_b1__86 := F_typesAndSteps_b1__85.keep Kq86 (ninS (Nat.ne_of_lt lt_b1_b85) nin0)
        have F_keptLines_b1__86 := F_keptLines_b1__85.keep Kq86 (ninS (Nat.ne_of_lt lt_b1_b85) nin0)
        have F_farValues_b1__86 := F_farValues_b1__85.keep Kq86 (ninS (Nat.ne_of_lt lt_b1_b85) nin0)
        have F_farLines_b1__86 := F_farLines_b1__85.keep Kq86 (ninS (Nat.ne_of_lt lt_b1_b85) nin0)
        have A3__86 := A3__85.keep Kq86
        have F_texts_b3__86 := F_texts_b3__85.keep Kq86 (ninS (Nat.ne_of_lt lt_b3_b85) nin0)
        have F_ints_b3__86 := F_ints_b3__85.keep Kq86 (ninS (Nat.ne_of_lt lt_b3_b85) nin0)
        have F_typesAndSteps_b3__86 := F_typesAndSteps_b3__85.keep Kq86 (ninS (Nat.ne_of_lt lt_b3_b85) nin0)
        have F_keptLines_b3__86 := F_keptLines_b3__85.keep Kq86 (ninS (Nat.ne_of_lt lt_b3_b85) nin0)
        have F_farValues_b3__86 := F_farValues_b3__85.keep Kq86 (ninS (Nat.ne_of_lt lt_b3_b85) nin0)
        have F_farLines_b3__86 := F_farLines_b3__85.keep Kq86 (ninS (Nat.ne_of_lt lt_b3_b85) nin0)
        have A83__86 := A83__85.keep Kq86
        have Q0_84__86 := Q0_84__85.keep Kq86 (ninS (Nat.ne_of_lt lt_b83_b85) nin0)
        have Q1_84__86 := Q1_84__85.keep Kq86 (ninS (Nat.ne_of_lt lt_b83_b85) nin0)
        have A85__86 := A85.keep Kq86
        have Z_86 := Nat.le_trans Z_85 Kq86.1
        have O_86 := O_85.keep Kq86 (allS g_b85 all0)
        show Go _ _ _ _ _ _ _ T86 (mkF m 99 #[.val (.int p0), .val (.int p1), .val (.int p2), .val (.ref b1), .val (.ref b3), .val (.int (1 : Int32)), .val (.int (1 : Int32)), .val (.int (1 : Int32)), .val (.int p0), .val (.ref b83), .unset, .unset, .unset] [(.ref b85)])
        refine gAstore X86 hx #[.val (.int p0), .val (.int p1), .val (.int p2), .val (.ref b1), .val (.ref b3), .val (.int (1 : Int32)), .val (.int (1 : Int32)), .val (.int (1 : Int32)), .val (.int p0), .val (.ref b83), .val (.ref b85), .unset, .unset] (hb hby at_99) rfl rfl ?_
        refine gIload X86 hx (hb hby at_101) rfl ?_
        refine gIf X86 hx 116 (hb hby at_103) (by decide) (by decide) (fun q => absurd (o_eqT q) (by decide)) (fun _ => ?_)
        show Go _ _ _ _ _ _ _ T86 (mkF m 106 #[.val (.int p0), .val (.int p1), .val (.int p2), .val (.ref b1), .val (.ref b3), .val (.int (1 : Int32)), .val (.int (1 : Int32)), .val (.int (1 : Int32)), .val (.int p0), .val (.ref b83), .val (.ref b85), .unset, .unset] [])
        refine gIloadN X86 hx (hb hby at_106) rfl ?_
        refine gIload X86 hx (hb hby at_107) rfl ?_
        refine gIcmp X86 hx 116 (hb hby at_109) (by decide) (by decide) (fun q => absurd rfl (o_neT q)) (fun _ => ?_)
        show Go _ _ _ _ _ _ _ T86 (mkF m 112 #[.val (.int p0), .val (.int p1), .val (.int p2), .val (.ref b1), .val (.ref b3), .val (.int (1 : Int32)), .val (.int (1 : Int32)), .val (.int (1 : Int32)), .val (.int p0), .val (.ref b83), .val (.ref b85), .unset, .unset] [])
        refine gIconst X86 hx (1 : Int32) (hb hby at_112) rfl ?_
        refine gGoto X86 hx 117 (hb hby at_113) (by decide) (by decide) ?_
        refine gIstore X86 hx #[.val (.int p0), .val (.int p1), .val (.int p2), .val (.ref b1), .val (.ref b3), .val (.int (1 : Int32)), .val (.int (1 : Int32)), .val (.int (1 : Int32)), .val (.int p0), .val (.ref b83), .val (.ref b85), .val (.int (1 : Int32)), .unset] (hb hby at_117) rfl ?_
        refine gIload X86 hx (hb hby at_119) rfl ?_
        refine gIf X86 hx 128 (hb hby at_121) (by decide) (by decide) (fun q => absurd (o_eqT q) (by decide)) (fun _ => ?_)
        show Go _ _ _ _ _ _ _ T86 (mkF m 124 #[.val (.int p0), .val (.int p1), .val (.int p2), .val (.ref b1), .val (.ref b3), .val (.int (1 : Int32)), .val (.int (1 : Int32)), .val (.int (1 : Int32)), .val (.int p0), .val (.ref b83), .val (.ref b85), .val (.int (1 : Int32)), .unset] [])
        refine gNull X86 hx (hb hby at_124) ?_
        refine gGoto X86 hx 132 (hb hby at_125) (by decide) (by decide) ?_
        refine gAstore X86 hx #[.val (.int p0), .val (.int p1), .val (.int p2), .val (.ref b1), .val (.ref b3), .val (.int (1 : Int32)), .val (.int (1 : Int32)), .val (.int (1 : Int32)), .val (.int p0), .val (.ref b83), .val (.ref b85), .val (.int (1 : Int32)), .val .null] (hb hby at_132) rfl rfl ?_
        refine gAload X86 hx (hb hby at_134) rfl rfl ?_
        refine gAload X86 hx (hb hby at_136) rfl rfl ?_
        refine gVirtual X86 hx hZ (y := (⟨"com/example/renkei/renkei/reader/JsonValue", "equals", "(Ljava/lang/Object;)Z"⟩ : MethodName)) (a := b83) hown (by decide) (tw hw 74 rfl) (tw hw 75 rfl) (tw hw 76 rfl) (tw hw 77 rfl) (tw hw 65 rfl) (tw hw 78 rfl) A83__86 (own_rm9J l Z a0 hw b83 b85 T86.heap n0 Z_86 _ _ _ _ Q0_84__86 Q1_84__86 A85__86 Q0_86 Q1_86) rfl (by rw [hml]; rfl) (argsL := [(.ref b85)]) (rest := []) (W := 0) (lenOf own_pd4 rfl) rfl (Nat.le_of_eq rfl) (by decide) (by decide) (by decide) (by decide) (hb hby at_138) ?_
        rintro _ T87 L87 X87 ⟨rfl, Nq87, e87⟩
        have N_87 := Fr.app N_86 Nq87
        show Go _ _ _ _ _ _ _ T87 (mkF m 141 #[.val (.int p0), .val (.int p1), .val (.int p2), .val (.ref b1), .val (.ref b3), .val (.int (1 : Int32)), .val (.int (1 : Int32)), .val (.int (1 : Int32)), .val (.int p0), .val (.ref b83), .val (.ref b85), .val (.int (1 : Int32)), .val .null] [(.int (own_eqv b1 b1 p0 p0))])
        refine gIload X87 hx (hb hby at_141) rfl ?_
        refine gIcmp X87 hx 182 (hb hby at_143) (by decide) (by decide) (fun q => absurd (own_q1 rfl) (o_neT q)) (fun _ => ?_)
        show Go _ _ _ _ _ _ _ T87 (mkF m 146 #[.val (.int p0), .val (.int p1), .val (.int p2), .val (.ref b1), .val (.ref b3), .val (.int (1 : Int32)), .val (.int (1 : Int32)), .val (.int (1 : Int32)), .val (.int p0), .val (.ref b83), .val (.ref b85), .val (.int (1 : Int32)), .val .null] [])
        refine gAload X87 hx (hb hby at_146) rfl rfl ?_
        refine gAload X87 hx (hb hby at_148) rfl rfl ?_
        refine gVirtual X87 hx hZ (y := (⟨"com/example/renkei/renkei/reader/JsonValue", "equals", "(Ljava/lang/Object;)Z"⟩ : MethodName)) (a := b85) hown (by decide) (tw hw 74 rfl) (tw hw 75 rfl) (tw hw 76 rfl) (tw hw 77 rfl) (tw hw 65 rfl) (tw hw 78 rfl) A85__86 (own_rm9J l Z a0 hw b85 b83 T86.heap n0 Z_86 _ _ _ _ Q0_86 Q1_86 A83__86 Q0_84__86 Q1_84__86) e87 (by rw [hml]; rfl) (argsL := [(.ref b83)]) (rest := []) (W := 0) (lenOf own_pd4 rfl) rfl (Nat.le_of_eq rfl) (by decide) (by decide) (by decide) (by decide) (hb hby at_150) ?_
        rintro _ T88 L88 X88 ⟨rfl, Nq88, e88⟩
        have N_88 := Fr.app N_87 Nq88
        show Go _ _ _ _ _ _ _ T88 (mkF m 153 #[.val (.int p0), .val (.int p1), .val (.int p2), .val (.ref b1), .val (.ref b3), .val (.int (1 : Int32)), .val (.int (1 : Int32)), .val (.int (1 : Int32)), .val (.int p0), .val (.ref b83), .val (.ref b85), .val (.int (1 : Int32)), .val .null] [(.int (own_eqv b1 b1 p0 p0))])
        refine gIload X88 hx (hb hby at_153) rfl ?_
        refine gIcmp X88 hx 182 (hb hby at_155) (by decide) (by decide) (fun q => absurd (own_q1 rfl) (o_neT q)) (fun _ => ?_)
        show Go _ _ _ _ _ _ _ T88 (mkF m 158 #[.val (.int p0), .val (.int p1), .val (.int p2), .val (.ref b1), .val (.ref b3), .val (.int (1 : Int32)), .val (.int (1 : Int32)), .val (.int (1 : Int32)), .val (.int p0), .val (.ref b83), .val (.ref b85), .val (.int (1 : Int32)), .val .null] [])
        refine gAload X88 hx (hb hby at_158) rfl rfl ?_
        refine gAload X88 hx (hb hby at_160) rfl rfl ?_
        refine gVirtual X88 hx hZ (y := (⟨"com/example/renkei/renkei/reader/JsonValue", "equals", "(Ljava/lang/Object;)Z"⟩ : MethodName)) (a := b83) hown (by decide) (tw hw 74 rfl) (tw hw 75 rfl) (tw hw 76 rfl) (tw hw 77 rfl) (tw hw 65 rfl) (tw hw 78 rfl) A83__86 (own_rm9J l Z a0 hw b83 b83 T86.heap n0 Z_86 _ _ _ _ Q0_84__86 Q1_84__86 A83__86 Q0_84__86 Q1_84__86) e88 (by rw [hml]; rfl) (argsL := [(.ref b83)]) (rest := []) (W := 0) (lenOf own_pd4 rfl) rfl (Nat.le_of_eq rfl) (by decide) (by decide) (by decide) (by decide) (hb hby at_162) ?_
        rintro _ T89 L89 X89 ⟨rfl, Nq89, e89⟩
        have N_89 := Fr.app N_88 Nq89
        show Go _ _ _ _ _ _ _ T89 (mkF m 165 #[.val (.int p0), .val (.int p1), .val (.int p2), .val (.ref b1), .val (.ref b3), .val (.int (1 : Int32)), .val (.int (1 : Int32)), .val (.int (1 : Int32)), .val (.int p0), .val (.ref b83), .val (.ref b85), .val (.int (1 : Int32)), .val .null] [(.int (own_eqv b1 b1 p0 p0))])
        refine gIf X89 hx 182 (hb hby at_165) (by decide) (by decide) (fun q => absurd (o_eqT q) (own_qs _ _)) (fun _ => ?_)
        show Go _ _ _ _ _ _ _ T89 (mkF m 168 #[.val (.int p0), .val (.int p1), .val (.int p2), .val (.ref b1), .val (.ref b3), .val (.int (1 : Int32)), .val (.int (1 : Int32)), .val (.int (1 : Int32)), .val (.int p0), .val (.ref b83), .val (.ref b85), .val (.int (1 : Int32)), .val .null] [])
        refine gAload X89 hx (hb hby at_168) rfl rfl ?_
        refine gAload X89 hx (hb hby at_170) rfl rfl ?_
        refine gVirtual X89 hx hZ (y := (⟨"com/example/renkei/renkei/reader/JsonValue", "equals", "(Ljava/lang/Object;)Z"⟩ : MethodName)) (a := b83) hown (by decide) (tw hw 74 rfl) (tw hw 75 rfl) (tw hw 76 rfl) (tw hw 77 rfl) (tw hw 65 rfl) (tw hw 78 rfl) A83__86 (own_rm9N l Z a0 hw b83 T86.heap n0 Z_86 _ _ Q0_84__86 Q1_84__86) e89 (by rw [hml]; rfl) (argsL := [.null]) (rest := []) (W := 0) (lenOf own_pd4 rfl) rfl (Nat.le_of_eq rfl) (by decide) (by decide) (by decide) (by decide) (hb hby at_172) ?_
        rintro _ T90 L90 X90 ⟨rfl, Nq90, e90⟩
        have N_90 := Fr.app N_89 Nq90
        show Go _ _ _ _ _ _ _ T90 (mkF m 175 #[.val (.int p0), .val (.int p1), .val (.int p2), .val (.ref b1), .val (.ref b3), .val (.int (1 : Int32)), .val (.int (1 : Int32)), .val (.int (1 : Int32)), .val (.int p0), .val (.ref b83), .val (.ref b85), .val (.int (1 : Int32)), .val .null] [(.int (0 : Int32))])
        refine gIf X90 hx 182 (hb hby at_175) (by decide) (by decide) (fun q => absurd (by decide) (o_neT q)) (fun _ => ?_)
        show Go _ _ _ _ _ _ _ T90 (mkF m 178 #[.val (.int p0), .val (.int p1), .val (.int p2), .val (.ref b1), .val (.ref b3), .val (.int (1 : Int32)), .val (.int (1 : Int32)), .val (.int (1 : Int32)), .val (.int p0), .val (.ref b83), .val (.ref b85), .val (.int (1 : Int32)), .val .null] [])
        refine gIconst X90 hx (1 : Int32) (hb hby at_178) rfl ?_
        refine gGoto X90 hx 183 (hb hby at_179) (by decide) (by decide) ?_
        exact gRetZ X90 hx hlk hret (by simp) (hb hby at_183) (z' := (1 : Int32)) rfl (by decide) (by decide) ⟨rfl, N_90⟩
set_option maxRecDepth 65536 in
set_option maxHeartbeats 40000000 in
theorem comes_1 {Post : Tables → Env → Array Value → State → Outcome → State → Prop} (hpost : ∀ tb e args s v u, (limb_1_1.after args s (.returned v) u = true ∧ limb_1_2.after args s (.returned v) u = true ∧ True) → FrameEnd s (.returned v) u (Jvm.fieldLocs frame_1_writes args s ++ Jvm.arrayLocs frame_1_arrays args s ++ Jvm.staticLocs frame_1_statics s) 56 4480 → Post tb e args s (.returned v) u) :
    ArmFor flags0 classFile x code maxLocals ret World_1 tables_1 room_1 Calls_1 rest_1 Pre_1 Post := by
  intro l hfl _ _ p e ha hc hk s m args below hf hA hF happ hP
  obtain ⟨hcalls, hrest, hpre⟩ := hP
  obtain ⟨-, -, -, hnamed, -, -, -, hat⟩ := (Spec.applies_iff hf).mp happ
  obtain ⟨hg, hn⟩ := and_e (Cond.before_iff.mp (show (Jvm.Cond.and given_1 narrow_1).before args s = true from hpre))
  obtain ⟨h1, hr0⟩ := and_e hg
  obtain ⟨hv0, hr1⟩ := and_e hr0
  obtain ⟨hv1, hr2⟩ := and_e hr1
  have hv2 := hr2
  obtain ⟨w0, w1, w2, rfl⟩ : ∃ w0 w1 w2 : Value, args = #[w0, w1, w2] := by
    have hs : args.size = 3 := by simpa [Cond.value, given_1] using h1
    obtain ⟨L⟩ := args
    match L, hs with
    | [w0, w1, w2], _ => exact ⟨w0, w1, w2, rfl⟩
  have hw := fun d (hd : d ∈ tables_1) => atoms_spec (ws := Jvm.Cond.code x code maxLocals ret :: tables_1) hat d (List.mem_cons_of_mem _ hd)
  obtain ⟨i0, ei0⟩ := is_v hv0
  obtain rfl : w0 = (.int i0) := Option.some.inj ei0
  obtain ⟨i1, ei1⟩ := is_v hv1
  obtain rfl : w1 = (.int i1) := Option.some.inj ei1
  obtain ⟨i2, ei2⟩ := is_v hv2
  obtain rfl : w2 = (.int i2) := Option.some.inj ei2
  have hfit : Fit s := fun {y c} hc i hi => by
    obtain ⟨ha, rfl⟩ := Array.getElem?_eq_some_iff.mp hc
    have q := List.all_eq_true.mp ((Array.all_eq_true_iff_forall_mem.mp hF) _ (Array.getElem_mem ha)) i (List.mem_range.mpr hi)
    simpa [Array.getElem?_eq_getElem hi] using q
  obtain ⟨hsets, hown0⟩ := atoms_of _ (rest_1_c_eq ▸ (show rest_1_c.before _ s = true from hrest))
  have s7 := Cond.before_iff.mp (hsets _ (List.mem_of_getElem? (i := 7) rfl))
  obtain ⟨dd, edd⟩ := exa_v s7
  have S0 : Sta s s.heap "java/util/ArrayList" "DEFAULTCAPACITY_EMPTY_ELEMENTDATA" "[Ljava/lang/Object;" (.ref dd) := Sta.start edd (Or.inr ⟨hw _ (List.mem_of_getElem? (i := 18) rfl), hsets _ (List.mem_of_getElem? (i := 2) rfl)⟩)
  have s12 := Cond.before_iff.mp (hsets _ (List.mem_of_getElem? (i := 12) rfl))
  have SH : Sta s s.heap "java/lang/Integer$IntegerCache" "high" "I" (.int (127 : Int32)) := Sta.start (eqv_i (Term.int_eval (127)) s12) (Or.inl (hsets _ (List.mem_of_getElem? (i := 10) rfl)))
  have s14 := Cond.before_iff.mp (hsets _ (List.mem_of_getElem? (i := 14) rfl))
  obtain ⟨cc, ecc⟩ := exa_v s14
  have SC : Sta s s.heap "java/lang/Integer$IntegerCache" "cache" "[Ljava/lang/Integer;" (.ref cc) := Sta.start ecc (Or.inr ⟨hw _ (List.mem_of_getElem? (i := 86) rfl), hsets _ (List.mem_of_getElem? (i := 11) rfl)⟩)
  obtain ⟨cl, Acl⟩ := Arr.start ecc (Cond.before_iff.mp (hsets _ (List.mem_of_getElem? (i := 13) rfl)))
  have s15 := eqv_i (Term.int_eval (256)) (Cond.before_iff.mp (hsets _ (List.mem_of_getElem? (i := 15) rfl)))
  obtain ⟨hsm, hsz⟩ := own_small ecc (Acl.fin (Vm.Alike.refl _)) s15
  have BX := Bxs.start (z := (256 : Int32)) (val := fun j => .int (j - (128 : Int32))) (fun _ => ecc) Acl hsm hsz (by decide) (Cond.before_iff.mp (hsets _ (List.mem_of_getElem? (i := 16) rfl))) (fun X j nn q => eqv_i (own_sub (idx_at nn)) q)
  obtain ⟨n, o, h1, h2, h3, _, L, rfl, ⟨rfl, N⟩, hq⟩ := own_rm10 l s _ hw i0 i1 i2 s.heap s.heap.size (Nat.le_refl _) (Old.start s) dd S0 SH cc SC cl _ BX p e ha hc hk s m _ below hf ((Spec.applies_iff_loose hf).mp happ).1 ⟨rfl, State.Warmed39.refl s, rfl⟩ trivial
  refine ⟨n, _, h1, h2, h3, hpost _ _ _ _ _ _ ⟨Cond.after_iff.mpr rfl, Cond.after_iff.mpr (eq_i res_at (Term.int_eval (1)) rfl), trivial⟩ ⟨hq.1, hq.2.1, (hq.2.2.sift fun y hy => Or.inr (N y hy)).mono (by decide) (by decide)⟩⟩
theorem main_1_1 : Claimed_1_1 := comes_1 fun _ _ _ _ _ _ h hF => ⟨h.1, hF⟩
theorem main_1_2 : Claimed_1_2 := comes_1 fun _ _ _ _ _ _ h hF => ⟨h.2.1, hF⟩
end Jvm.Pilot.@@N@@
namespace Jvm.Pilot.@@N@@
open Jvm Jvm.ClassFile Sem Op Lib Jvm.Free Jvm.Stand Jvm.Pilot.@@N@@.Jvm.D
/-! MADE BY PROGRAM (witnessworld.py) out of the Statement's table words and the real class files: 29 classes; the members and pool entries that the words name. The judged class is class 1, her method 1. -/
namespace start1
open Jvm.ClassFile
def u (s : String) : CpInfo := .utf8 (stringToUtf16 s)
/-- a pool by its gaps: so many unusable entries, then the entry; so many at the end -/
def gap : Nat → List CpInfo → List CpInfo
  | 0, r => r
  | n + 1, r => .unusable :: gap n r
def poolList (es : List (Nat × CpInfo)) (last : Nat) : List CpInfo := es.foldr (fun e r => gap e.1 (e.2 :: r)) (gap last [])
def pool (es : List (Nat × CpInfo)) (last : Nat) : Array CpInfo := ⟨poolList es last⟩
def fileOf (pool : Array CpInfo) (this : Nat) (attrs : Array Attribute := #[]) (ms : Array MethodInfo := #[]) (fl : Nat := 33) (sup : Nat := 0) (ifs : Array Nat := #[]) (fds : Array FieldInfo := #[]) : ClassFile where
  minorVersion := 0
  majorVersion := 65
  constantPool := pool
  accessFlags := fl
  thisClass := this
  superClass := sup
  interfaces := ifs
  fields := fds
  methods := ms
  attributes := attrs
def plain (name : String) (sup : Option ClassId) : Class where
  name := name
  kind := .ordinary
  loader := none
  accessFlags := 33
  super := sup
  interfaces := #[]
  cf := none
  fields := #[]
  methods := #[]
  instanceTypes := #[]
  staticTypes := #[]
  resolved := #[]
  callSites := []
  init := .initialized
  statics := none
  mirror := none

def pool0 : Array CpInfo := pool [(5, u "<init>"), (0, u "()V"), (1, .class_ 10), (1, u "java/lang/Object")] 113

def k0c0 : Code := { maxStack := 0, maxLocals := 1, code := object_method_1_code, exceptionTable := #[], attributes := #[] }
def k0m0 : Method := { name := "<init>", desc := "()V", sig := { parameters := [], returnType := none }, accessFlags := 1, code := some k0c0 }
/-- java/lang/Object -/
def k0 : Class := { plain "java/lang/Object" none with
  accessFlags := 33
  interfaces := #[]
  cf := some (fileOf pool0 8 #[] #[{ accessFlags := 1, nameIndex := 5, descriptorIndex := 6, attributes := #[] }] 33 0 #[] #[])
  fields := #[]
  methods := #[k0m0]
  instanceTypes := #[]
  staticTypes := #[]
  resolved := Array.replicate 124 none
  statics := none }

def pool1 : Array CpInfo := pool [(2, .class_ 4), (0, .nameAndType 5 6), (0, u "java/lang/Object"), (0, u "<init>"), (0, u "()V"), (0, .class_ 8), (0, u "com/example/renkei/renkei/reader/ValueStore"), (0, .methodref 7 3), (0, .class_ 11), (0, u "com/example/renkei/renkei/reader/JsonValue"), (0, .methodref 10 13), (0, .nameAndType 5 14), (0, u "(Lcom/example/renkei/renkei/reader/ValueStore;I)V"), (0, .methodref 16 17), (0, .class_ 18), (0, .nameAndType 19 20), (0, u "java/lang/Integer"), (0, u "valueOf"), (0, u "(I)Ljava/lang/Integer;"), (0, .methodref 10 22), (0, .nameAndType 23 24), (0, u "equals"), (0, u "(Ljava/lang/Object;)Z"), (0, .class_ 26), (0, u "com/example/renkei/renkei/reader/JsonValueEqualsPinLaw"), (2, u "law"), (0, u "(III)Z")] 3

def k1m0 : Method := { name := "<init>", desc := "()V", sig := { parameters := [], returnType := none }, accessFlags := 1, code := none }
def k1c1 : Code := { maxStack := 4, maxLocals := 13, code := code, exceptionTable := #[], attributes := #[] }
def k1m1 : Method := { name := "law", desc := "(III)Z", sig := { parameters := [.int, .int, .int], returnType := some .boolean }, accessFlags := 9, code := some k1c1 }
/-- com/example/renkei/renkei/reader/JsonValueEqualsPinLaw -/
def k1 : Class := { plain "com/example/renkei/renkei/reader/JsonValueEqualsPinLaw" (some 0) with
  accessFlags := 49
  interfaces := #[]
  cf := some (fileOf pool1 25 #[] #[{ accessFlags := 1, nameIndex := 5, descriptorIndex := 6, attributes := #[] }, { accessFlags := 9, nameIndex := 29, descriptorIndex := 30, attributes := #[] }] 49 2 #[] #[])
  fields := #[]
  methods := #[k1m0, k1m1]
  instanceTypes := #[]
  staticTypes := #[]
  resolved := Array.replicate 34 none
  statics := none }

def pool2 : Array CpInfo := pool [(1, .class_ 2), (0, u "com/example/renkei/renkei/reader/ValueStore"), (2, .methodref 6 7), (0, .class_ 8), (0, .nameAndType 9 10), (0, u "java/lang/Object"), (0, u "<init>"), (0, u "()V"), (0, .class_ 12), (0, u "com/example/renkei/renkei/reader/TextStore"), (0, .methodref 11 7), (0, .fieldref 1 15), (0, .nameAndType 16 17), (0, u "texts"), (0, u "Lcom/example/renkei/renkei/reader/TextStore;"), (0, .class_ 19), (0, u "[I"), (0, .fieldref 1 21), (0, .nameAndType 22 23), (0, u "ints"), (0, u "[[I"), (0, .class_ 25), (0, u "[B"), (0, .fieldref 1 27), (0, .nameAndType 28 29), (0, u "typesAndSteps"), (0, u "[[B"), (0, .fieldref 1 31), (0, .nameAndType 32 19), (0, u "keptLines"), (0, .fieldref 1 34), (0, .nameAndType 35 19), (0, u "farValues"), (0, .fieldref 1 37), (0, .nameAndType 38 19), (0, u "farLines"), (2, u "size"), (0, u "I"), (10, u "lastLine"), (6, u "far"), (12, u "TYPES"), (0, u "[Lcom/example/renkei/renkei/reader/JsonValue$Type;"), (25, .class_ 102), (1, u "com/example/renkei/renkei/reader/ValueStore$1"), (35, u "BLOCK_BITS"), (2, u "BLOCK_VALUES"), (1, u "PARENT"), (1, u "NAME_OR_INDEX"), (1, u "END_OR_TEXT"), (1, u "INTS"), (1, u "TYPE_BITS"), (0, u "FAR"), (1, u "LINE_KEPT_EVERY")] 26

def k2c0 : Code := { maxStack := 3, maxLocals := 1, code := prog_109_method_1_code, exceptionTable := #[], attributes := #[] }
def k2m0 : Method := { name := "<init>", desc := "()V", sig := { parameters := [], returnType := none }, accessFlags := 0, code := some k2c0 }
/-- com/example/renkei/renkei/reader/ValueStore -/
def k2 : Class := { plain "com/example/renkei/renkei/reader/ValueStore" (some 0) with
  accessFlags := 48
  interfaces := #[]
  cf := some (fileOf pool2 1 #[.nestMembers #[100]] #[{ accessFlags := 0, nameIndex := 9, descriptorIndex := 10, attributes := #[] }] 48 6 #[] #[{ accessFlags := 26, nameIndex := 138, descriptorIndex := 42, attributes := #[] }, { accessFlags := 26, nameIndex := 141, descriptorIndex := 42, attributes := #[] }, { accessFlags := 26, nameIndex := 143, descriptorIndex := 42, attributes := #[] }, { accessFlags := 26, nameIndex := 145, descriptorIndex := 42, attributes := #[] }, { accessFlags := 26, nameIndex := 147, descriptorIndex := 42, attributes := #[] }, { accessFlags := 26, nameIndex := 149, descriptorIndex := 42, attributes := #[] }, { accessFlags := 26, nameIndex := 151, descriptorIndex := 42, attributes := #[] }, { accessFlags := 26, nameIndex := 152, descriptorIndex := 42, attributes := #[] }, { accessFlags := 26, nameIndex := 154, descriptorIndex := 42, attributes := #[] }, { accessFlags := 26, nameIndex := 73, descriptorIndex := 74, attributes := #[] }, { accessFlags := 18, nameIndex := 16, descriptorIndex := 17, attributes := #[] }, { accessFlags := 2, nameIndex := 22, descriptorIndex := 23, attributes := #[] }, { accessFlags := 2, nameIndex := 28, descriptorIndex := 29, attributes := #[] }, { accessFlags := 2, nameIndex := 32, descriptorIndex := 19, attributes := #[] }, { accessFlags := 2, nameIndex := 35, descriptorIndex := 19, attributes := #[] }, { accessFlags := 2, nameIndex := 38, descriptorIndex := 19, attributes := #[] }, { accessFlags := 2, nameIndex := 60, descriptorIndex := 42, attributes := #[] }, { accessFlags := 2, nameIndex := 41, descriptorIndex := 42, attributes := #[] }, { accessFlags := 2, nameIndex := 53, descriptorIndex := 42, attributes := #[] }])
  fields := #[{ name := "BLOCK_BITS", type := .int, accessFlags := 26, slot := 0, constantValue := 0 }, { name := "BLOCK_VALUES", type := .int, accessFlags := 26, slot := 1, constantValue := 0 }, { name := "PARENT", type := .int, accessFlags := 26, slot := 2, constantValue := 0 }, { name := "NAME_OR_INDEX", type := .int, accessFlags := 26, slot := 3, constantValue := 0 }, { name := "END_OR_TEXT", type := .int, accessFlags := 26, slot := 4, constantValue := 0 }, { name := "INTS", type := .int, accessFlags := 26, slot := 5, constantValue := 0 }, { name := "TYPE_BITS", type := .int, accessFlags := 26, slot := 6, constantValue := 0 }, { name := "FAR", type := .int, accessFlags := 26, slot := 7, constantValue := 0 }, { name := "LINE_KEPT_EVERY", type := .int, accessFlags := 26, slot := 8, constantValue := 0 }, { name := "TYPES", type := (.array (.object "com/example/renkei/renkei/reader/JsonValue$Type")), accessFlags := 26, slot := 9, constantValue := 0 }, { name := "texts", type := (.object "com/example/renkei/renkei/reader/TextStore"), accessFlags := 18, slot := 0, constantValue := 0 }, { name := "ints", type := (.array (.array .int)), accessFlags := 2, slot := 1, constantValue := 0 }, { name := "typesAndSteps", type := (.array (.array .byte)), accessFlags := 2, slot := 2, constantValue := 0 }, { name := "keptLines", type := (.array .int), accessFlags := 2, slot := 3, constantValue := 0 }, { name := "farValues", type := (.array .int), accessFlags := 2, slot := 4, constantValue := 0 }, { name := "farLines", type := (.array .int), accessFlags := 2, slot := 5, constantValue := 0 }, { name := "far", type := .int, accessFlags := 2, slot := 6, constantValue := 0 }, { name := "size", type := .int, accessFlags := 2, slot := 7, constantValue := 0 }, { name := "lastLine", type := .int, accessFlags := 2, slot := 8, constantValue := 0 }]
  methods := #[k2m0]
  instanceTypes := #[(.object "com/example/renkei/renkei/reader/TextStore"), (.array (.array .int)), (.array (.array .byte)), (.array .int), (.array .int), (.array .int), .int, .int, .int]
  staticTypes := #[.int, .int, .int, .int, .int, .int, .int, .int, .int, (.array (.object "com/example/renkei/renkei/reader/JsonValue$Type"))]
  resolved := Array.replicate 181 none
  statics := none }

def pool3 : Array CpInfo := pool [(1, .class_ 2), (0, u "com/example/renkei/renkei/reader/TextStore"), (2, .methodref 6 7), (0, .class_ 8), (0, .nameAndType 9 10), (0, u "java/lang/Object"), (0, u "<init>"), (0, u "()V"), (0, .class_ 12), (0, u "java/util/ArrayList"), (0, .methodref 11 7), (0, .fieldref 1 15), (0, .nameAndType 16 17), (0, u "blocks"), (0, u "Ljava/util/List;"), (0, .fieldref 1 19), (0, .nameAndType 20 17), (0, u "kept"), (0, .fieldref 1 22), (0, .nameAndType 23 24), (0, u "remembered"), (0, u "[I"), (94, u "taken"), (0, u "I"), (10, u "LONGEST_STORED"), (2, u "LONGEST_SHARED"), (1, u "OFFSET_BITS"), (1, u "LARGEST_BLOCK"), (0, u "FIRST_BLOCK"), (0, u "MOST_BLOCKS"), (1, u "REMEMBERED"), (1, u "WIDE")] 13

def k3c0 : Code := { maxStack := 3, maxLocals := 1, code := prog_103_method_1_code, exceptionTable := #[], attributes := #[] }
def k3m0 : Method := { name := "<init>", desc := "()V", sig := { parameters := [], returnType := none }, accessFlags := 1, code := some k3c0 }
/-- com/example/renkei/renkei/reader/TextStore -/
def k3 : Class := { plain "com/example/renkei/renkei/reader/TextStore" (some 0) with
  accessFlags := 49
  interfaces := #[]
  cf := some (fileOf pool3 1 #[] #[{ accessFlags := 1, nameIndex := 9, descriptorIndex := 10, attributes := #[] }] 49 6 #[] #[{ accessFlags := 25, nameIndex := 131, descriptorIndex := 120, attributes := #[] }, { accessFlags := 26, nameIndex := 134, descriptorIndex := 120, attributes := #[] }, { accessFlags := 26, nameIndex := 136, descriptorIndex := 120, attributes := #[] }, { accessFlags := 26, nameIndex := 138, descriptorIndex := 120, attributes := #[] }, { accessFlags := 26, nameIndex := 139, descriptorIndex := 120, attributes := #[] }, { accessFlags := 26, nameIndex := 140, descriptorIndex := 120, attributes := #[] }, { accessFlags := 26, nameIndex := 142, descriptorIndex := 120, attributes := #[] }, { accessFlags := 26, nameIndex := 144, descriptorIndex := 120, attributes := #[] }, { accessFlags := 18, nameIndex := 16, descriptorIndex := 17, attributes := #[] }, { accessFlags := 2, nameIndex := 119, descriptorIndex := 120, attributes := #[] }, { accessFlags := 18, nameIndex := 20, descriptorIndex := 17, attributes := #[] }, { accessFlags := 18, nameIndex := 23, descriptorIndex := 24, attributes := #[] }])
  fields := #[{ name := "LONGEST_STORED", type := .int, accessFlags := 25, slot := 0, constantValue := 0 }, { name := "LONGEST_SHARED", type := .int, accessFlags := 26, slot := 1, constantValue := 0 }, { name := "OFFSET_BITS", type := .int, accessFlags := 26, slot := 2, constantValue := 0 }, { name := "LARGEST_BLOCK", type := .int, accessFlags := 26, slot := 3, constantValue := 0 }, { name := "FIRST_BLOCK", type := .int, accessFlags := 26, slot := 4, constantValue := 0 }, { name := "MOST_BLOCKS", type := .int, accessFlags := 26, slot := 5, constantValue := 0 }, { name := "REMEMBERED", type := .int, accessFlags := 26, slot := 6, constantValue := 0 }, { name := "WIDE", type := .int, accessFlags := 26, slot := 7, constantValue := 0 }, { name := "blocks", type := (.object "java/util/List"), accessFlags := 18, slot := 0, constantValue := 0 }, { name := "taken", type := .int, accessFlags := 2, slot := 1, constantValue := 0 }, { name := "kept", type := (.object "java/util/List"), accessFlags := 18, slot := 2, constantValue := 0 }, { name := "remembered", type := (.array .int), accessFlags := 18, slot := 3, constantValue := 0 }]
  methods := #[k3m0]
  instanceTypes := #[(.object "java/util/List"), .int, (.object "java/util/List"), (.array .int)]
  staticTypes := #[.int, .int, .int, .int, .int, .int, .int, .int]
  resolved := Array.replicate 158 none
  statics := none }

def pool4 : Array CpInfo := pool [(8, .class_ 10), (1, u "java/lang/Iterable"), (24, .class_ 36), (0, u "java/lang/Object")] 25

/-- java/lang/Iterable -/
def k4 : Class := { plain "java/lang/Iterable" (some 0) with
  accessFlags := 1537
  interfaces := #[]
  cf := some (fileOf pool4 8 #[] #[] 1537 35 #[] #[])
  fields := #[]
  methods := #[]
  instanceTypes := #[]
  staticTypes := #[]
  resolved := Array.replicate 62 none
  statics := none }

def pool5 : Array CpInfo := pool [(10, .class_ 12), (1, u "java/util/Collection"), (47, .class_ 61), (0, u "java/lang/Object"), (0, .class_ 63), (0, u "java/lang/Iterable")] 51

/-- java/util/Collection -/
def k5 : Class := { plain "java/util/Collection" (some 0) with
  accessFlags := 1537
  interfaces := #[4]
  cf := some (fileOf pool5 10 #[] #[] 1537 60 #[62] #[])
  fields := #[]
  methods := #[]
  instanceTypes := #[]
  staticTypes := #[]
  resolved := Array.replicate 115 none
  statics := none }

def pool6 : Array CpInfo := pool [(1, .methodref 2 3), (0, .class_ 4), (0, .nameAndType 5 6), (0, u "java/lang/Object"), (0, u "<init>"), (0, u "()V"), (1, .class_ 10), (1, u "java/util/AbstractCollection"), (66, .class_ 78), (0, u "java/util/Collection")] 81

def k6c0 : Code := { maxStack := 1, maxLocals := 1, code := jdk_22_method_1_code, exceptionTable := #[], attributes := #[] }
def k6m0 : Method := { name := "<init>", desc := "()V", sig := { parameters := [], returnType := none }, accessFlags := 4, code := some k6c0 }
/-- java/util/AbstractCollection -/
def k6 : Class := { plain "java/util/AbstractCollection" (some 0) with
  accessFlags := 1057
  interfaces := #[5]
  cf := some (fileOf pool6 8 #[] #[{ accessFlags := 4, nameIndex := 5, descriptorIndex := 6, attributes := #[] }] 1057 2 #[77] #[])
  fields := #[]
  methods := #[k6m0]
  instanceTypes := #[]
  staticTypes := #[]
  resolved := Array.replicate 160 none
  statics := none }

def pool7 : Array CpInfo := pool [(8, .class_ 10), (1, u "java/util/SequencedCollection"), (15, .class_ 27), (0, u "java/lang/Object"), (0, .class_ 29), (0, u "java/util/Collection")] 27

/-- java/util/SequencedCollection -/
def k7 : Class := { plain "java/util/SequencedCollection" (some 0) with
  accessFlags := 1537
  interfaces := #[5]
  cf := some (fileOf pool7 8 #[] #[] 1537 26 #[28] #[])
  fields := #[]
  methods := #[]
  instanceTypes := #[]
  staticTypes := #[]
  resolved := Array.replicate 57 none
  statics := none }

def pool8 : Array CpInfo := pool [(8, .class_ 10), (1, u "java/util/List"), (92, .class_ 104), (0, u "java/lang/Object"), (15, .class_ 121), (0, u "java/util/SequencedCollection")] 129

/-- java/util/List -/
def k8 : Class := { plain "java/util/List" (some 0) with
  accessFlags := 1537
  interfaces := #[7]
  cf := some (fileOf pool8 8 #[] #[] 1537 103 #[120] #[])
  fields := #[]
  methods := #[]
  instanceTypes := #[]
  staticTypes := #[]
  resolved := Array.replicate 251 none
  statics := none }

def pool9 : Array CpInfo := pool [(1, .methodref 2 3), (0, .class_ 4), (0, .nameAndType 5 6), (0, u "java/util/AbstractCollection"), (0, u "<init>"), (0, u "()V"), (0, .fieldref 8 9), (0, .class_ 10), (0, .nameAndType 11 12), (0, u "java/util/AbstractList"), (0, u "modCount"), (0, u "I"), (64, .class_ 78), (0, u "java/util/AbstractList$Itr"), (3, .class_ 83), (0, u "java/util/AbstractList$ListItr"), (9, .class_ 94), (0, u "java/util/AbstractList$RandomAccessSubList"), (3, .class_ 99), (0, u "java/util/AbstractList$SubList"), (33, .class_ 134), (0, u "java/util/List"), (73, .class_ 209), (0, u "java/util/AbstractList$SubList$1"), (0, .class_ 211), (0, u "java/util/AbstractList$RandomAccessSpliterator")] 6

def k9c0 : Code := { maxStack := 2, maxLocals := 1, code := jdk_39_method_1_code, exceptionTable := #[], attributes := #[] }
def k9m0 : Method := { name := "<init>", desc := "()V", sig := { parameters := [], returnType := none }, accessFlags := 4, code := some k9c0 }
/-- java/util/AbstractList -/
def k9 : Class := { plain "java/util/AbstractList" (some 6) with
  accessFlags := 1057
  interfaces := #[8]
  cf := some (fileOf pool9 8 #[.nestMembers #[93, 98, 208, 210, 82, 77]] #[{ accessFlags := 4, nameIndex := 5, descriptorIndex := 6, attributes := #[] }] 1057 2 #[133] #[{ accessFlags := 132, nameIndex := 11, descriptorIndex := 12, attributes := #[] }])
  fields := #[{ name := "modCount", type := .int, accessFlags := 132, slot := 0, constantValue := 0 }]
  methods := #[k9m0]
  instanceTypes := #[.int]
  staticTypes := #[]
  resolved := Array.replicate 218 none
  statics := none }

def pool10 : Array CpInfo := pool [(1, .class_ 2), (0, u "java/util/RandomAccess"), (0, .class_ 4), (0, u "java/lang/Object")] 2

/-- java/util/RandomAccess -/
def k10 : Class := { plain "java/util/RandomAccess" (some 0) with
  accessFlags := 1537
  interfaces := #[]
  cf := some (fileOf pool10 1 #[] #[] 1537 3 #[] #[])
  fields := #[]
  methods := #[]
  instanceTypes := #[]
  staticTypes := #[]
  resolved := Array.replicate 7 none
  statics := none }

def pool11 : Array CpInfo := pool [(1, .class_ 2), (0, u "java/lang/Cloneable"), (0, .class_ 4), (0, u "java/lang/Object")] 2

/-- java/lang/Cloneable -/
def k11 : Class := { plain "java/lang/Cloneable" (some 0) with
  accessFlags := 1537
  interfaces := #[]
  cf := some (fileOf pool11 1 #[] #[] 1537 3 #[] #[])
  fields := #[]
  methods := #[]
  instanceTypes := #[]
  staticTypes := #[]
  resolved := Array.replicate 7 none
  statics := none }

def pool12 : Array CpInfo := pool [(1, .class_ 2), (0, u "java/io/Serializable"), (0, .class_ 4), (0, u "java/lang/Object")] 2

/-- java/io/Serializable -/
def k12 : Class := { plain "java/io/Serializable" (some 0) with
  accessFlags := 1537
  interfaces := #[]
  cf := some (fileOf pool12 1 #[] #[] 1537 3 #[] #[])
  fields := #[]
  methods := #[]
  instanceTypes := #[]
  staticTypes := #[]
  resolved := Array.replicate 7 none
  statics := none }

def pool13 : Array CpInfo := pool [(1, .methodref 2 3), (0, .class_ 4), (0, .nameAndType 5 6), (0, u "java/util/AbstractList"), (0, u "<init>"), (0, u "()V"), (2, .fieldref 10 11), (0, .class_ 12), (0, .nameAndType 13 14), (0, u "java/util/ArrayList"), (0, u "elementData"), (0, u "[Ljava/lang/Object;"), (2, u "EMPTY_ELEMENTDATA"), (21, .fieldref 10 40), (0, .nameAndType 41 14), (0, u "DEFAULTCAPACITY_EMPTY_ELEMENTDATA"), (8, u "size"), (0, u "I"), (96, .class_ 149), (0, u "java/util/List"), (112, .class_ 263), (0, u "java/util/ArrayList$ListItr"), (3, .class_ 268), (0, u "java/util/ArrayList$Itr"), (7, .class_ 277), (0, u "java/util/ArrayList$SubList"), (12, .class_ 291), (0, u "java/util/ArrayList$ArrayListSpliterator"), (37, .class_ 330), (0, u "java/util/RandomAccess"), (0, .class_ 332), (0, u "java/lang/Cloneable"), (0, .class_ 334), (0, u "java/io/Serializable"), (0, u "serialVersionUID"), (0, u "J"), (3, u "DEFAULT_CAPACITY"), (159, .class_ 501), (0, u "java/util/ArrayList$SubList$2"), (0, .class_ 503), (0, u "java/util/ArrayList$SubList$1")] 5

def k13c0 : Code := { maxStack := 2, maxLocals := 1, code := jdk_38_method_2_code, exceptionTable := #[], attributes := #[] }
def k13m0 : Method := { name := "<init>", desc := "()V", sig := { parameters := [], returnType := none }, accessFlags := 1, code := some k13c0 }
/-- java/util/ArrayList -/
def k13 : Class := { plain "java/util/ArrayList" (some 9) with
  accessFlags := 33
  interfaces := #[8, 10, 11, 12]
  cf := some (fileOf pool13 10 #[.nestMembers #[290, 276, 500, 502, 262, 267]] #[{ accessFlags := 1, nameIndex := 5, descriptorIndex := 6, attributes := #[] }] 33 2 #[148, 329, 331, 333] #[{ accessFlags := 26, nameIndex := 335, descriptorIndex := 336, attributes := #[] }, { accessFlags := 26, nameIndex := 340, descriptorIndex := 51, attributes := #[] }, { accessFlags := 26, nameIndex := 17, descriptorIndex := 14, attributes := #[] }, { accessFlags := 26, nameIndex := 41, descriptorIndex := 14, attributes := #[] }, { accessFlags := 128, nameIndex := 13, descriptorIndex := 14, attributes := #[] }, { accessFlags := 2, nameIndex := 50, descriptorIndex := 51, attributes := #[] }])
  fields := #[{ name := "serialVersionUID", type := .long, accessFlags := 26, slot := 0, constantValue := 0 }, { name := "DEFAULT_CAPACITY", type := .int, accessFlags := 26, slot := 1, constantValue := 0 }, { name := "EMPTY_ELEMENTDATA", type := (.array (.object "java/lang/Object")), accessFlags := 26, slot := 2, constantValue := 0 }, { name := "DEFAULTCAPACITY_EMPTY_ELEMENTDATA", type := (.array (.object "java/lang/Object")), accessFlags := 26, slot := 3, constantValue := 0 }, { name := "elementData", type := (.array (.object "java/lang/Object")), accessFlags := 128, slot := 1, constantValue := 0 }, { name := "size", type := .int, accessFlags := 2, slot := 2, constantValue := 0 }]
  methods := #[k13m0]
  instanceTypes := #[.int, (.array (.object "java/lang/Object")), .int]
  staticTypes := #[.long, .int, (.array (.object "java/lang/Object")), (.array (.object "java/lang/Object"))]
  resolved := Array.replicate 509 none
  statics := some 0 }

def pool14 : Array CpInfo := pool [(1, .methodref 2 3), (0, .class_ 4), (0, .nameAndType 5 6), (0, u "java/lang/Object"), (0, u "<init>"), (0, u "()V"), (0, .fieldref 8 9), (0, .class_ 10), (0, .nameAndType 11 12), (0, u "com/example/renkei/renkei/reader/JsonValue"), (0, u "values"), (0, u "Lcom/example/renkei/renkei/reader/ValueStore;"), (0, .fieldref 8 14), (0, .nameAndType 15 16), (0, u "value"), (0, u "I"), (15, u "(Lcom/example/renkei/renkei/reader/ValueStore;I)V"), (8, .class_ 43), (1, u "com/example/renkei/renkei/reader/JsonValue$Type"), (18, .class_ 63), (0, u "com/example/renkei/renkei/reader/JsonValue$Children"), (27, u "(Ljava/lang/Object;)Z"), (67, u "equals"), (4, .class_ 165), (0, u "com/example/renkei/renkei/reader/JsonValue$Children$1")] 3

def k14c0 : Code := { maxStack := 2, maxLocals := 3, code := prog_79_method_1_code, exceptionTable := #[], attributes := #[] }
def k14m0 : Method := { name := "<init>", desc := "(Lcom/example/renkei/renkei/reader/ValueStore;I)V", sig := { parameters := [(.object "com/example/renkei/renkei/reader/ValueStore"), .int], returnType := none }, accessFlags := 0, code := some k14c0 }
def k14c1 : Code := { maxStack := 2, maxLocals := 3, code := prog_79_method_12_code, exceptionTable := #[], attributes := #[] }
def k14m1 : Method := { name := "equals", desc := "(Ljava/lang/Object;)Z", sig := { parameters := [(.object "java/lang/Object")], returnType := some .boolean }, accessFlags := 1, code := some k14c1 }
/-- com/example/renkei/renkei/reader/JsonValue -/
def k14 : Class := { plain "com/example/renkei/renkei/reader/JsonValue" (some 0) with
  accessFlags := 49
  interfaces := #[]
  cf := some (fileOf pool14 8 #[.nestMembers #[62, 164, 41]] #[{ accessFlags := 0, nameIndex := 5, descriptorIndex := 32, attributes := #[] }, { accessFlags := 1, nameIndex := 159, descriptorIndex := 91, attributes := #[] }] 49 2 #[] #[{ accessFlags := 18, nameIndex := 11, descriptorIndex := 12, attributes := #[] }, { accessFlags := 18, nameIndex := 15, descriptorIndex := 16, attributes := #[] }])
  fields := #[{ name := "values", type := (.object "com/example/renkei/renkei/reader/ValueStore"), accessFlags := 18, slot := 0, constantValue := 0 }, { name := "value", type := .int, accessFlags := 18, slot := 1, constantValue := 0 }]
  methods := #[k14m0, k14m1]
  instanceTypes := #[(.object "com/example/renkei/renkei/reader/ValueStore"), .int]
  staticTypes := #[]
  resolved := Array.replicate 169 none
  statics := none }

def pool15 : Array CpInfo := pool [(1, .methodref 2 3), (0, .class_ 4), (0, .nameAndType 5 6), (0, u "java/lang/Object"), (0, u "<init>"), (0, u "()V"), (1, .class_ 10), (1, u "java/lang/Number"), (2, .class_ 14), (0, u "java/io/Serializable"), (0, u "serialVersionUID"), (0, u "J")] 20

def k15c0 : Code := { maxStack := 1, maxLocals := 1, code := jdk_18_method_1_code, exceptionTable := #[], attributes := #[] }
def k15m0 : Method := { name := "<init>", desc := "()V", sig := { parameters := [], returnType := none }, accessFlags := 1, code := some k15c0 }
/-- java/lang/Number -/
def k15 : Class := { plain "java/lang/Number" (some 0) with
  accessFlags := 1057
  interfaces := #[12]
  cf := some (fileOf pool15 8 #[] #[{ accessFlags := 1, nameIndex := 5, descriptorIndex := 6, attributes := #[] }] 1057 2 #[13] #[{ accessFlags := 26, nameIndex := 15, descriptorIndex := 16, attributes := #[] }])
  fields := #[{ name := "serialVersionUID", type := .long, accessFlags := 26, slot := 0, constantValue := 0 }]
  methods := #[k15m0]
  instanceTypes := #[]
  staticTypes := #[.long]
  resolved := Array.replicate 37 none
  statics := none }

def pool16 : Array CpInfo := pool [(1, .class_ 2), (0, u "java/lang/Comparable"), (0, .class_ 4), (0, u "java/lang/Object")] 7

/-- java/lang/Comparable -/
def k16 : Class := { plain "java/lang/Comparable" (some 0) with
  accessFlags := 1537
  interfaces := #[]
  cf := some (fileOf pool16 1 #[] #[] 1537 3 #[] #[])
  fields := #[]
  methods := #[]
  instanceTypes := #[]
  staticTypes := #[]
  resolved := Array.replicate 12 none
  statics := none }

def pool17 : Array CpInfo := pool [(1, .class_ 2), (0, u "java/lang/constant/Constable"), (0, .class_ 4), (0, u "java/lang/Object")] 6

/-- java/lang/constant/Constable -/
def k17 : Class := { plain "java/lang/constant/Constable" (some 0) with
  accessFlags := 1537
  interfaces := #[]
  cf := some (fileOf pool17 1 #[] #[] 1537 3 #[] #[])
  fields := #[]
  methods := #[]
  instanceTypes := #[]
  staticTypes := #[]
  resolved := Array.replicate 11 none
  statics := none }

def pool18 : Array CpInfo := pool [(1, .class_ 2), (0, u "java/lang/constant/ConstantDesc"), (0, .class_ 4), (0, u "java/lang/Object")] 32

/-- java/lang/constant/ConstantDesc -/
def k18 : Class := { plain "java/lang/constant/ConstantDesc" (some 0) with
  accessFlags := 1537
  interfaces := #[]
  cf := some (fileOf pool18 1 #[] #[] 1537 3 #[] #[])
  fields := #[]
  methods := #[]
  instanceTypes := #[]
  staticTypes := #[]
  resolved := Array.replicate 37 none
  statics := none }

def pool19 : Array CpInfo := pool [(1, .class_ 2), (0, u "java/lang/Integer"), (16, u "digits"), (0, u "[C"), (46, u "<init>"), (17, u "DigitOnes"), (0, u "[B"), (2, u "DigitTens"), (10, .nameAndType 67 101), (0, u "()V"), (85, u "valueOf"), (0, u "(I)Ljava/lang/Integer;"), (0, .class_ 190), (0, u "java/lang/Integer$IntegerCache"), (0, .fieldref 189 192), (0, .nameAndType 193 194), (0, u "high"), (0, u "I"), (0, .fieldref 189 196), (0, .nameAndType 197 198), (0, u "cache"), (0, u "[Ljava/lang/Integer;"), (0, .methodref 1 200), (0, .nameAndType 67 201), (0, u "(I)V"), (0, .methodref 203 100), (0, .class_ 204), (0, u "java/lang/Number"), (0, .fieldref 1 206), (0, .nameAndType 207 194), (0, u "value"), (94, u "TYPE"), (0, u "Ljava/lang/Class;"), (0, .class_ 305), (0, u "java/lang/Comparable"), (0, .class_ 307), (0, u "java/lang/constant/Constable"), (0, .class_ 309), (0, u "java/lang/constant/ConstantDesc"), (0, u "MIN_VALUE"), (1, u "MAX_VALUE"), (3, u "SIZE"), (1, u "BYTES"), (1, u "serialVersionUID"), (0, u "J")] 131

def k19c0 : Code := { maxStack := 3, maxLocals := 1, code := jdk_33_method_22_code, exceptionTable := #[], attributes := #[] }
def k19m0 : Method := { name := "valueOf", desc := "(I)Ljava/lang/Integer;", sig := { parameters := [.int], returnType := some (.object "java/lang/Integer") }, accessFlags := 9, code := some k19c0 }
def k19c1 : Code := { maxStack := 2, maxLocals := 2, code := jdk_33_method_23_code, exceptionTable := #[], attributes := #[] }
def k19m1 : Method := { name := "<init>", desc := "(I)V", sig := { parameters := [.int], returnType := none }, accessFlags := 1, code := some k19c1 }
/-- java/lang/Integer -/
def k19 : Class := { plain "java/lang/Integer" (some 15) with
  accessFlags := 49
  interfaces := #[16, 17, 18]
  cf := some (fileOf pool19 1 #[.nestMembers #[189]] #[{ accessFlags := 9, nameIndex := 187, descriptorIndex := 188, attributes := #[] }, { accessFlags := 1, nameIndex := 67, descriptorIndex := 201, attributes := #[] }] 49 203 #[304, 306, 308] #[{ accessFlags := 25, nameIndex := 310, descriptorIndex := 194, attributes := #[] }, { accessFlags := 25, nameIndex := 312, descriptorIndex := 194, attributes := #[] }, { accessFlags := 25, nameIndex := 302, descriptorIndex := 303, attributes := #[] }, { accessFlags := 24, nameIndex := 19, descriptorIndex := 20, attributes := #[] }, { accessFlags := 24, nameIndex := 89, descriptorIndex := 86, attributes := #[] }, { accessFlags := 24, nameIndex := 85, descriptorIndex := 86, attributes := #[] }, { accessFlags := 18, nameIndex := 207, descriptorIndex := 194, attributes := #[] }, { accessFlags := 25, nameIndex := 316, descriptorIndex := 194, attributes := #[] }, { accessFlags := 25, nameIndex := 318, descriptorIndex := 194, attributes := #[] }, { accessFlags := 26, nameIndex := 320, descriptorIndex := 321, attributes := #[] }])
  fields := #[{ name := "MIN_VALUE", type := .int, accessFlags := 25, slot := 0, constantValue := 0 }, { name := "MAX_VALUE", type := .int, accessFlags := 25, slot := 1, constantValue := 0 }, { name := "TYPE", type := (.object "java/lang/Class"), accessFlags := 25, slot := 2, constantValue := 0 }, { name := "digits", type := (.array .char), accessFlags := 24, slot := 3, constantValue := 0 }, { name := "DigitTens", type := (.array .byte), accessFlags := 24, slot := 4, constantValue := 0 }, { name := "DigitOnes", type := (.array .byte), accessFlags := 24, slot := 5, constantValue := 0 }, { name := "value", type := .int, accessFlags := 18, slot := 0, constantValue := 0 }, { name := "SIZE", type := .int, accessFlags := 25, slot := 6, constantValue := 0 }, { name := "BYTES", type := .int, accessFlags := 25, slot := 7, constantValue := 0 }, { name := "serialVersionUID", type := .long, accessFlags := 26, slot := 8, constantValue := 0 }]
  methods := #[k19m0, k19m1]
  instanceTypes := #[.int]
  staticTypes := #[.int, .int, (.object "java/lang/Class"), (.array .char), (.array .byte), (.array .byte), .int, .int, .long]
  resolved := Array.replicate 453 none
  statics := none }

def pool20 : Array CpInfo := pool [(2, .class_ 4), (1, u "java/lang/Object"), (0, u "<init>"), (0, u "()V"), (0, .class_ 8), (0, u "java/lang/Integer"), (7, .class_ 18), (1, u "java/lang/Integer$IntegerCache"), (0, u "$assertionsDisabled"), (0, u "Z"), (26, u "high"), (0, u "I"), (8, u "archivedCache"), (0, u "[Ljava/lang/Integer;"), (12, u "cache"), (0, u "low")] 27

def k20m0 : Method := { name := "<init>", desc := "()V", sig := { parameters := [], returnType := none }, accessFlags := 2, code := none }
/-- java/lang/Integer$IntegerCache -/
def k20 : Class := { plain "java/lang/Integer$IntegerCache" (some 0) with
  accessFlags := 48
  interfaces := #[]
  cf := some (fileOf pool20 16 #[.nestHost 7] #[{ accessFlags := 2, nameIndex := 5, descriptorIndex := 6, attributes := #[] }] 48 2 #[] #[{ accessFlags := 24, nameIndex := 72, descriptorIndex := 48, attributes := #[] }, { accessFlags := 24, nameIndex := 47, descriptorIndex := 48, attributes := #[] }, { accessFlags := 24, nameIndex := 71, descriptorIndex := 58, attributes := #[] }, { accessFlags := 8, nameIndex := 57, descriptorIndex := 58, attributes := #[] }, { accessFlags := 4120, nameIndex := 19, descriptorIndex := 20, attributes := #[] }])
  fields := #[{ name := "low", type := .int, accessFlags := 24, slot := 0, constantValue := 0 }, { name := "high", type := .int, accessFlags := 24, slot := 1, constantValue := 0 }, { name := "cache", type := (.array (.object "java/lang/Integer")), accessFlags := 24, slot := 2, constantValue := 0 }, { name := "archivedCache", type := (.array (.object "java/lang/Integer")), accessFlags := 8, slot := 3, constantValue := 0 }, { name := "$assertionsDisabled", type := .boolean, accessFlags := 4120, slot := 4, constantValue := 0 }]
  methods := #[k20m0]
  instanceTypes := #[]
  staticTypes := #[.int, .int, (.array (.object "java/lang/Integer")), (.array (.object "java/lang/Integer")), .boolean]
  resolved := Array.replicate 100 none
  statics := some 1 }

/-- the primitive byte -/
def k21 : Class := { plain "byte" none with kind := .primitive 'B', accessFlags := 0x411 }
/-- [B -/
def k22 : Class := { plain "[B" (some 0) with kind := .array 21 .byte, interfaces := #[11, 12], accessFlags := 1041 }

/-- the primitive int -/
def k23 : Class := { plain "int" none with kind := .primitive 'I', accessFlags := 0x411 }
/-- [I -/
def k24 : Class := { plain "[I" (some 0) with kind := .array 23 .int, interfaces := #[11, 12], accessFlags := 1041 }

/-- [L[B; -/
def k25 : Class := { plain "[[B" (some 0) with kind := .array 22 (.array .byte), interfaces := #[11, 12], accessFlags := 1041 }

/-- [L[I; -/
def k26 : Class := { plain "[[I" (some 0) with kind := .array 24 (.array .int), interfaces := #[11, 12], accessFlags := 1041 }

/-- [Ljava/lang/Integer; -/
def k27 : Class := { plain "[Ljava/lang/Integer;" (some 0) with kind := .array 19 (.object "java/lang/Integer"), interfaces := #[11, 12], accessFlags := 1041 }

/-- [Ljava/lang/Object; -/
def k28 : Class := { plain "[Ljava/lang/Object;" (some 0) with kind := .array 0 (.object "java/lang/Object"), interfaces := #[11, 12], accessFlags := 1041 }

def heap : Heap := #[{ cls := 13, slots := #[.long 0, .int 0, .ref 261, .ref 262], vm := .statics 13 },
  { cls := 20, slots := #[.int 0, .int 127, .ref 4, .null, .int 0], vm := .statics 20 },
  { cls := 26, slots := #[.null], vm := .none },
  { cls := 25, slots := #[.null], vm := .none },
  { cls := 27, slots := #[.ref 5, .ref 6, .ref 7, .ref 8, .ref 9, .ref 10, .ref 11, .ref 12, .ref 13, .ref 14, .ref 15, .ref 16, .ref 17, .ref 18, .ref 19, .ref 20, .ref 21, .ref 22, .ref 23, .ref 24, .ref 25, .ref 26, .ref 27, .ref 28, .ref 29, .ref 30, .ref 31, .ref 32, .ref 33, .ref 34, .ref 35, .ref 36, .ref 37, .ref 38, .ref 39, .ref 40, .ref 41, .ref 42, .ref 43, .ref 44, .ref 45, .ref 46, .ref 47, .ref 48, .ref 49, .ref 50, .ref 51, .ref 52, .ref 53, .ref 54, .ref 55, .ref 56, .ref 57, .ref 58, .ref 59, .ref 60, .ref 61, .ref 62, .ref 63, .ref 64, .ref 65, .ref 66, .ref 67, .ref 68, .ref 69, .ref 70, .ref 71, .ref 72, .ref 73, .ref 74, .ref 75, .ref 76, .ref 77, .ref 78, .ref 79, .ref 80, .ref 81, .ref 82, .ref 83, .ref 84, .ref 85, .ref 86, .ref 87, .ref 88, .ref 89, .ref 90, .ref 91, .ref 92, .ref 93, .ref 94, .ref 95, .ref 96, .ref 97, .ref 98, .ref 99, .ref 100, .ref 101, .ref 102, .ref 103, .ref 104, .ref 105, .ref 106, .ref 107, .ref 108, .ref 109, .ref 110, .ref 111, .ref 112, .ref 113, .ref 114, .ref 115, .ref 116, .ref 117, .ref 118, .ref 119, .ref 120, .ref 121, .ref 122, .ref 123, .ref 124, .ref 125, .ref 126, .ref 127, .ref 128, .ref 129, .ref 130, .ref 131, .ref 132, .ref 133, .ref 134, .ref 135, .ref 136, .ref 137, .ref 138, .ref 139, .ref 140, .ref 141, .ref 142, .ref 143, .ref 144, .ref 145, .ref 146, .ref 147, .ref 148, .ref 149, .ref 150, .ref 151, .ref 152, .ref 153, .ref 154, .ref 155, .ref 156, .ref 157, .ref 158, .ref 159, .ref 160, .ref 161, .ref 162, .ref 163, .ref 164, .ref 165, .ref 166, .ref 167, .ref 168, .ref 169, .ref 170, .ref 171, .ref 172, .ref 173, .ref 174, .ref 175, .ref 176, .ref 177, .ref 178, .ref 179, .ref 180, .ref 181, .ref 182, .ref 183, .ref 184, .ref 185, .ref 186, .ref 187, .ref 188, .ref 189, .ref 190, .ref 191, .ref 192, .ref 193, .ref 194, .ref 195, .ref 196, .ref 197, .ref 198, .ref 199, .ref 200, .ref 201, .ref 202, .ref 203, .ref 204, .ref 205, .ref 206, .ref 207, .ref 208, .ref 209, .ref 210, .ref 211, .ref 212, .ref 213, .ref 214, .ref 215, .ref 216, .ref 217, .ref 218, .ref 219, .ref 220, .ref 221, .ref 222, .ref 223, .ref 224, .ref 225, .ref 226, .ref 227, .ref 228, .ref 229, .ref 230, .ref 231, .ref 232, .ref 233, .ref 234, .ref 235, .ref 236, .ref 237, .ref 238, .ref 239, .ref 240, .ref 241, .ref 242, .ref 243, .ref 244, .ref 245, .ref 246, .ref 247, .ref 248, .ref 249, .ref 250, .ref 251, .ref 252, .ref 253, .ref 254, .ref 255, .ref 256, .ref 257, .ref 258, .ref 259, .ref 260], vm := .none },
  { cls := 19, slots := #[.int (-128)], vm := .none },
  { cls := 19, slots := #[.int (-127)], vm := .none },
  { cls := 19, slots := #[.int (-126)], vm := .none },
  { cls := 19, slots := #[.int (-125)], vm := .none },
  { cls := 19, slots := #[.int (-124)], vm := .none },
  { cls := 19, slots := #[.int (-123)], vm := .none },
  { cls := 19, slots := #[.int (-122)], vm := .none },
  { cls := 19, slots := #[.int (-121)], vm := .none },
  { cls := 19, slots := #[.int (-120)], vm := .none },
  { cls := 19, slots := #[.int (-119)], vm := .none },
  { cls := 19, slots := #[.int (-118)], vm := .none },
  { cls := 19, slots := #[.int (-117)], vm := .none },
  { cls := 19, slots := #[.int (-116)], vm := .none },
  { cls := 19, slots := #[.int (-115)], vm := .none },
  { cls := 19, slots := #[.int (-114)], vm := .none },
  { cls := 19, slots := #[.int (-113)], vm := .none },
  { cls := 19, slots := #[.int (-112)], vm := .none },
  { cls := 19, slots := #[.int (-111)], vm := .none },
  { cls := 19, slots := #[.int (-110)], vm := .none },
  { cls := 19, slots := #[.int (-109)], vm := .none },
  { cls := 19, slots := #[.int (-108)], vm := .none },
  { cls := 19, slots := #[.int (-107)], vm := .none },
  { cls := 19, slots := #[.int (-106)], vm := .none },
  { cls := 19, slots := #[.int (-105)], vm := .none },
  { cls := 19, slots := #[.int (-104)], vm := .none },
  { cls := 19, slots := #[.int (-103)], vm := .none },
  { cls := 19, slots := #[.int (-102)], vm := .none },
  { cls := 19, slots := #[.int (-101)], vm := .none },
  { cls := 19, slots := #[.int (-100)], vm := .none },
  { cls := 19, slots := #[.int (-99)], vm := .none },
  { cls := 19, slots := #[.int (-98)], vm := .none },
  { cls := 19, slots := #[.int (-97)], vm := .none },
  { cls := 19, slots := #[.int (-96)], vm := .none },
  { cls := 19, slots := #[.int (-95)], vm := .none },
  { cls := 19, slots := #[.int (-94)], vm := .none },
  { cls := 19, slots := #[.int (-93)], vm := .none },
  { cls := 19, slots := #[.int (-92)], vm := .none },
  { cls := 19, slots := #[.int (-91)], vm := .none },
  { cls := 19, slots := #[.int (-90)], vm := .none },
  { cls := 19, slots := #[.int (-89)], vm := .none },
  { cls := 19, slots := #[.int (-88)], vm := .none },
  { cls := 19, slots := #[.int (-87)], vm := .none },
  { cls := 19, slots := #[.int (-86)], vm := .none },
  { cls := 19, slots := #[.int (-85)], vm := .none },
  { cls := 19, slots := #[.int (-84)], vm := .none },
  { cls := 19, slots := #[.int (-83)], vm := .none },
  { cls := 19, slots := #[.int (-82)], vm := .none },
  { cls := 19, slots := #[.int (-81)], vm := .none },
  { cls := 19, slots := #[.int (-80)], vm := .none },
  { cls := 19, slots := #[.int (-79)], vm := .none },
  { cls := 19, slots := #[.int (-78)], vm := .none },
  { cls := 19, slots := #[.int (-77)], vm := .none },
  { cls := 19, slots := #[.int (-76)], vm := .none },
  { cls := 19, slots := #[.int (-75)], vm := .none },
  { cls := 19, slots := #[.int (-74)], vm := .none },
  { cls := 19, slots := #[.int (-73)], vm := .none },
  { cls := 19, slots := #[.int (-72)], vm := .none },
  { cls := 19, slots := #[.int (-71)], vm := .none },
  { cls := 19, slots := #[.int (-70)], vm := .none },
  { cls := 19, slots := #[.int (-69)], vm := .none },
  { cls := 19, slots := #[.int (-68)], vm := .none },
  { cls := 19, slots := #[.int (-67)], vm := .none },
  { cls := 19, slots := #[.int (-66)], vm := .none },
  { cls := 19, slots := #[.int (-65)], vm := .none },
  { cls := 19, slots := #[.int (-64)], vm := .none },
  { cls := 19, slots := #[.int (-63)], vm := .none },
  { cls := 19, slots := #[.int (-62)], vm := .none },
  { cls := 19, slots := #[.int (-61)], vm := .none },
  { cls := 19, slots := #[.int (-60)], vm := .none },
  { cls := 19, slots := #[.int (-59)], vm := .none },
  { cls := 19, slots := #[.int (-58)], vm := .none },
  { cls := 19, slots := #[.int (-57)], vm := .none },
  { cls := 19, slots := #[.int (-56)], vm := .none },
  { cls := 19, slots := #[.int (-55)], vm := .none },
  { cls := 19, slots := #[.int (-54)], vm := .none },
  { cls := 19, slots := #[.int (-53)], vm := .none },
  { cls := 19, slots := #[.int (-52)], vm := .none },
  { cls := 19, slots := #[.int (-51)], vm := .none },
  { cls := 19, slots := #[.int (-50)], vm := .none },
  { cls := 19, slots := #[.int (-49)], vm := .none },
  { cls := 19, slots := #[.int (-48)], vm := .none },
  { cls := 19, slots := #[.int (-47)], vm := .none },
  { cls := 19, slots := #[.int (-46)], vm := .none },
  { cls := 19, slots := #[.int (-45)], vm := .none },
  { cls := 19, slots := #[.int (-44)], vm := .none },
  { cls := 19, slots := #[.int (-43)], vm := .none },
  { cls := 19, slots := #[.int (-42)], vm := .none },
  { cls := 19, slots := #[.int (-41)], vm := .none },
  { cls := 19, slots := #[.int (-40)], vm := .none },
  { cls := 19, slots := #[.int (-39)], vm := .none },
  { cls := 19, slots := #[.int (-38)], vm := .none },
  { cls := 19, slots := #[.int (-37)], vm := .none },
  { cls := 19, slots := #[.int (-36)], vm := .none },
  { cls := 19, slots := #[.int (-35)], vm := .none },
  { cls := 19, slots := #[.int (-34)], vm := .none },
  { cls := 19, slots := #[.int (-33)], vm := .none },
  { cls := 19, slots := #[.int (-32)], vm := .none },
  { cls := 19, slots := #[.int (-31)], vm := .none },
  { cls := 19, slots := #[.int (-30)], vm := .none },
  { cls := 19, slots := #[.int (-29)], vm := .none },
  { cls := 19, slots := #[.int (-28)], vm := .none },
  { cls := 19, slots := #[.int (-27)], vm := .none },
  { cls := 19, slots := #[.int (-26)], vm := .none },
  { cls := 19, slots := #[.int (-25)], vm := .none },
  { cls := 19, slots := #[.int (-24)], vm := .none },
  { cls := 19, slots := #[.int (-23)], vm := .none },
  { cls := 19, slots := #[.int (-22)], vm := .none },
  { cls := 19, slots := #[.int (-21)], vm := .none },
  { cls := 19, slots := #[.int (-20)], vm := .none },
  { cls := 19, slots := #[.int (-19)], vm := .none },
  { cls := 19, slots := #[.int (-18)], vm := .none },
  { cls := 19, slots := #[.int (-17)], vm := .none },
  { cls := 19, slots := #[.int (-16)], vm := .none },
  { cls := 19, slots := #[.int (-15)], vm := .none },
  { cls := 19, slots := #[.int (-14)], vm := .none },
  { cls := 19, slots := #[.int (-13)], vm := .none },
  { cls := 19, slots := #[.int (-12)], vm := .none },
  { cls := 19, slots := #[.int (-11)], vm := .none },
  { cls := 19, slots := #[.int (-10)], vm := .none },
  { cls := 19, slots := #[.int (-9)], vm := .none },
  { cls := 19, slots := #[.int (-8)], vm := .none },
  { cls := 19, slots := #[.int (-7)], vm := .none },
  { cls := 19, slots := #[.int (-6)], vm := .none },
  { cls := 19, slots := #[.int (-5)], vm := .none },
  { cls := 19, slots := #[.int (-4)], vm := .none },
  { cls := 19, slots := #[.int (-3)], vm := .none },
  { cls := 19, slots := #[.int (-2)], vm := .none },
  { cls := 19, slots := #[.int (-1)], vm := .none },
  { cls := 19, slots := #[.int 0], vm := .none },
  { cls := 19, slots := #[.int 1], vm := .none },
  { cls := 19, slots := #[.int 2], vm := .none },
  { cls := 19, slots := #[.int 3], vm := .none },
  { cls := 19, slots := #[.int 4], vm := .none },
  { cls := 19, slots := #[.int 5], vm := .none },
  { cls := 19, slots := #[.int 6], vm := .none },
  { cls := 19, slots := #[.int 7], vm := .none },
  { cls := 19, slots := #[.int 8], vm := .none },
  { cls := 19, slots := #[.int 9], vm := .none },
  { cls := 19, slots := #[.int 10], vm := .none },
  { cls := 19, slots := #[.int 11], vm := .none },
  { cls := 19, slots := #[.int 12], vm := .none },
  { cls := 19, slots := #[.int 13], vm := .none },
  { cls := 19, slots := #[.int 14], vm := .none },
  { cls := 19, slots := #[.int 15], vm := .none },
  { cls := 19, slots := #[.int 16], vm := .none },
  { cls := 19, slots := #[.int 17], vm := .none },
  { cls := 19, slots := #[.int 18], vm := .none },
  { cls := 19, slots := #[.int 19], vm := .none },
  { cls := 19, slots := #[.int 20], vm := .none },
  { cls := 19, slots := #[.int 21], vm := .none },
  { cls := 19, slots := #[.int 22], vm := .none },
  { cls := 19, slots := #[.int 23], vm := .none },
  { cls := 19, slots := #[.int 24], vm := .none },
  { cls := 19, slots := #[.int 25], vm := .none },
  { cls := 19, slots := #[.int 26], vm := .none },
  { cls := 19, slots := #[.int 27], vm := .none },
  { cls := 19, slots := #[.int 28], vm := .none },
  { cls := 19, slots := #[.int 29], vm := .none },
  { cls := 19, slots := #[.int 30], vm := .none },
  { cls := 19, slots := #[.int 31], vm := .none },
  { cls := 19, slots := #[.int 32], vm := .none },
  { cls := 19, slots := #[.int 33], vm := .none },
  { cls := 19, slots := #[.int 34], vm := .none },
  { cls := 19, slots := #[.int 35], vm := .none },
  { cls := 19, slots := #[.int 36], vm := .none },
  { cls := 19, slots := #[.int 37], vm := .none },
  { cls := 19, slots := #[.int 38], vm := .none },
  { cls := 19, slots := #[.int 39], vm := .none },
  { cls := 19, slots := #[.int 40], vm := .none },
  { cls := 19, slots := #[.int 41], vm := .none },
  { cls := 19, slots := #[.int 42], vm := .none },
  { cls := 19, slots := #[.int 43], vm := .none },
  { cls := 19, slots := #[.int 44], vm := .none },
  { cls := 19, slots := #[.int 45], vm := .none },
  { cls := 19, slots := #[.int 46], vm := .none },
  { cls := 19, slots := #[.int 47], vm := .none },
  { cls := 19, slots := #[.int 48], vm := .none },
  { cls := 19, slots := #[.int 49], vm := .none },
  { cls := 19, slots := #[.int 50], vm := .none },
  { cls := 19, slots := #[.int 51], vm := .none },
  { cls := 19, slots := #[.int 52], vm := .none },
  { cls := 19, slots := #[.int 53], vm := .none },
  { cls := 19, slots := #[.int 54], vm := .none },
  { cls := 19, slots := #[.int 55], vm := .none },
  { cls := 19, slots := #[.int 56], vm := .none },
  { cls := 19, slots := #[.int 57], vm := .none },
  { cls := 19, slots := #[.int 58], vm := .none },
  { cls := 19, slots := #[.int 59], vm := .none },
  { cls := 19, slots := #[.int 60], vm := .none },
  { cls := 19, slots := #[.int 61], vm := .none },
  { cls := 19, slots := #[.int 62], vm := .none },
  { cls := 19, slots := #[.int 63], vm := .none },
  { cls := 19, slots := #[.int 64], vm := .none },
  { cls := 19, slots := #[.int 65], vm := .none },
  { cls := 19, slots := #[.int 66], vm := .none },
  { cls := 19, slots := #[.int 67], vm := .none },
  { cls := 19, slots := #[.int 68], vm := .none },
  { cls := 19, slots := #[.int 69], vm := .none },
  { cls := 19, slots := #[.int 70], vm := .none },
  { cls := 19, slots := #[.int 71], vm := .none },
  { cls := 19, slots := #[.int 72], vm := .none },
  { cls := 19, slots := #[.int 73], vm := .none },
  { cls := 19, slots := #[.int 74], vm := .none },
  { cls := 19, slots := #[.int 75], vm := .none },
  { cls := 19, slots := #[.int 76], vm := .none },
  { cls := 19, slots := #[.int 77], vm := .none },
  { cls := 19, slots := #[.int 78], vm := .none },
  { cls := 19, slots := #[.int 79], vm := .none },
  { cls := 19, slots := #[.int 80], vm := .none },
  { cls := 19, slots := #[.int 81], vm := .none },
  { cls := 19, slots := #[.int 82], vm := .none },
  { cls := 19, slots := #[.int 83], vm := .none },
  { cls := 19, slots := #[.int 84], vm := .none },
  { cls := 19, slots := #[.int 85], vm := .none },
  { cls := 19, slots := #[.int 86], vm := .none },
  { cls := 19, slots := #[.int 87], vm := .none },
  { cls := 19, slots := #[.int 88], vm := .none },
  { cls := 19, slots := #[.int 89], vm := .none },
  { cls := 19, slots := #[.int 90], vm := .none },
  { cls := 19, slots := #[.int 91], vm := .none },
  { cls := 19, slots := #[.int 92], vm := .none },
  { cls := 19, slots := #[.int 93], vm := .none },
  { cls := 19, slots := #[.int 94], vm := .none },
  { cls := 19, slots := #[.int 95], vm := .none },
  { cls := 19, slots := #[.int 96], vm := .none },
  { cls := 19, slots := #[.int 97], vm := .none },
  { cls := 19, slots := #[.int 98], vm := .none },
  { cls := 19, slots := #[.int 99], vm := .none },
  { cls := 19, slots := #[.int 100], vm := .none },
  { cls := 19, slots := #[.int 101], vm := .none },
  { cls := 19, slots := #[.int 102], vm := .none },
  { cls := 19, slots := #[.int 103], vm := .none },
  { cls := 19, slots := #[.int 104], vm := .none },
  { cls := 19, slots := #[.int 105], vm := .none },
  { cls := 19, slots := #[.int 106], vm := .none },
  { cls := 19, slots := #[.int 107], vm := .none },
  { cls := 19, slots := #[.int 108], vm := .none },
  { cls := 19, slots := #[.int 109], vm := .none },
  { cls := 19, slots := #[.int 110], vm := .none },
  { cls := 19, slots := #[.int 111], vm := .none },
  { cls := 19, slots := #[.int 112], vm := .none },
  { cls := 19, slots := #[.int 113], vm := .none },
  { cls := 19, slots := #[.int 114], vm := .none },
  { cls := 19, slots := #[.int 115], vm := .none },
  { cls := 19, slots := #[.int 116], vm := .none },
  { cls := 19, slots := #[.int 117], vm := .none },
  { cls := 19, slots := #[.int 118], vm := .none },
  { cls := 19, slots := #[.int 119], vm := .none },
  { cls := 19, slots := #[.int 120], vm := .none },
  { cls := 19, slots := #[.int 121], vm := .none },
  { cls := 19, slots := #[.int 122], vm := .none },
  { cls := 19, slots := #[.int 123], vm := .none },
  { cls := 19, slots := #[.int 124], vm := .none },
  { cls := 19, slots := #[.int 125], vm := .none },
  { cls := 19, slots := #[.int 126], vm := .none },
  { cls := 19, slots := #[.int 127], vm := .none },
  { cls := 28, slots := #[], vm := .none },
  { cls := 28, slots := #[], vm := .none }]
def classes : Array Class := #[k0, k1, k2, k3, k4, k5, k6, k7, k8, k9, k10, k11, k12, k13, k14, k15, k16, k17, k18, k19, k20, k21, k22, k23, k24, k25, k26, k27, k28]
def interned : List (Array UInt16 × Addr) := []
def slotsUsed : Nat := 523
def theMethod : MethodId := ⟨1, 1⟩
def args0 : Array Value := #[.int 5, .int 1, .int 2]
def aboutOver (below : List Frame) : State where
  vm := { classes := classes, interned := interned.toArray }
  heap := heap
  slotsUsed := slotsUsed
  threads := #[{ frames := .invoking theMethod args0 :: below }]
def below0 : List Frame := [.native { method := ⟨0, 0⟩, args := #[] }]
def about1 : State := aboutOver below0
def p0 : Program := .bare "" "" ""
def e0 : Env := launch0.env 0 0 0
theorem w_frames : about1.frames = Frame.invoking theMethod args0 :: below0 := rfl
set_option maxRecDepth 65536 in
theorem w_args : argsFit about1.vm theMethod args0 = true := by decide +kernel
set_option maxRecDepth 65536 in
theorem w_heap : heapFits about1 = true := by decide +kernel
set_option maxRecDepth 65536 in
theorem w_runnable : about1.curStatus? = some .runnable := by decide +kernel
set_option maxRecDepth 65536 in
theorem w_alone : about1.alone = true := by decide +kernel
set_option maxRecDepth 65536 in
theorem w_named : about1.methodNamed? x = some theMethod := by decide +kernel
set_option maxRecDepth 65536 in
theorem w_hears : about1.hears theMethod below0 = true := by decide +kernel
set_option maxRecDepth 65536 in
theorem w_ripe : about1.ripe theMethod args0 below0 = true := by decide +kernel
theorem w_running : about1.status = .running := rfl
set_option maxRecDepth 65536 in
theorem w_room : about1.hasRoom e0.platform room_1 = true :=
  launch0.hasRoom_least _ room_1 (by decide +kernel) (by decide +kernel) (by decide +kernel) (by decide +kernel) (by decide +kernel) (by decide +kernel)
theorem allAtoms_all (ts : List Jvm.Cond) (a : Array Jvm.Value) (st : Jvm.State) : (allAtoms ts).before a st = ts.all (fun c => c.before a st) := by
  induction ts with
  | nil => rfl
  | cons c t ih =>
    show (Jvm.Cond.and c (allAtoms t)).before a st = _
    rw [Jvm.Cond.before_and, ih, List.all_cons]
def words1 : List Jvm.Cond := Jvm.Cond.code x code maxLocals ret :: tables_1
/-- a 'code' word, met by the world's own term for the bytes: nothing is compared byte by byte -/
theorem code_word {y : MethodName} {bytes : ByteArray} {mx : Nat} {rt : Option FieldType} {a : Array Value} {s : State} {m : MethodId} {meth : Method} {c : Code} (h1 : s.methodNamed? y = some m) (h2 : s.vm.method? m = some meth) (h3 : meth.code = some c) (h4 : c.code = bytes)
    (h5 : (c.maxLocals == mx && c.exceptionTable.isEmpty && decide (c.maxStack ≤ mostOperands) && decide (meth.sig.returnType = rt) && !meth.locks && decide (parseMethodDescriptor y.desc = some meth.sig)) = true) : (Jvm.Cond.code y bytes mx rt).before a s = true := by
  simp only [Bool.and_eq_true, beq_iff_eq, Bool.not_eq_true', decide_eq_true_eq] at h5
  obtain ⟨⟨⟨⟨⟨g1, g2⟩, g3⟩, g4⟩, g5⟩, g6⟩ := h5
  simp [Cond.before, Cond.holds, Cond.value, h1, h2, h3, h4, g1, g2, g3, g4, g5, g6]
def isCode : Jvm.Cond → Bool
  | .code _ _ _ _ => true
  | _ => false
theorem all_split {L : List Jvm.Cond} {P : Jvm.Cond → Bool} (h1 : L.all (fun c => isCode c || P c) = true) (h2 : ∀ c ∈ L.filter isCode, P c = true) : L.all P = true := by
  refine List.all_eq_true.mpr fun c hc => ?_
  have h := List.all_eq_true.mp h1 c hc
  rcases Bool.eq_false_or_eq_true (isCode c) with hi | hi
  · exact h2 c (List.mem_filter.mpr ⟨hc, hi⟩)
  · simpa [hi] using h
set_option maxRecDepth 65536 in
theorem w_c0 : (Jvm.Cond.code x code maxLocals ret).before args0 about1 = true := code_word (m := ⟨1, 1⟩) (meth := k1m1) (c := k1c1) (by decide +kernel) rfl rfl rfl (by decide +kernel)
set_option maxRecDepth 65536 in
theorem w_c1 : (Jvm.Cond.code ({ cls := "com/example/renkei/renkei/reader/ValueStore", name := "<init>", desc := "()V" } : Jvm.MethodName) prog_109_method_1_code (1 : Nat) (Option.none : Option Jvm.ClassFile.FieldType)).before args0 about1 = true := code_word (m := ⟨2, 0⟩) (meth := k2m0) (c := k2c0) (by decide +kernel) rfl rfl rfl (by decide +kernel)
set_option maxRecDepth 65536 in
theorem w_c2 : (Jvm.Cond.code ({ cls := "java/lang/Object", name := "<init>", desc := "()V" } : Jvm.MethodName) object_method_1_code (1 : Nat) (Option.none : Option Jvm.ClassFile.FieldType)).before args0 about1 = true := code_word (m := ⟨0, 0⟩) (meth := k0m0) (c := k0c0) (by decide +kernel) rfl rfl rfl (by decide +kernel)
set_option maxRecDepth 65536 in
theorem w_c3 : (Jvm.Cond.code ({ cls := "com/example/renkei/renkei/reader/TextStore", name := "<init>", desc := "()V" } : Jvm.MethodName) prog_103_method_1_code (1 : Nat) (Option.none : Option Jvm.ClassFile.FieldType)).before args0 about1 = true := code_word (m := ⟨3, 0⟩) (meth := k3m0) (c := k3c0) (by decide +kernel) rfl rfl rfl (by decide +kernel)
set_option maxRecDepth 65536 in
theorem w_c4 : (Jvm.Cond.code ({ cls := "java/util/ArrayList", name := "<init>", desc := "()V" } : Jvm.MethodName) jdk_38_method_2_code (1 : Nat) (Option.none : Option Jvm.ClassFile.FieldType)).before args0 about1 = true := code_word (m := ⟨13, 0⟩) (meth := k13m0) (c := k13c0) (by decide +kernel) rfl rfl rfl (by decide +kernel)
set_option maxRecDepth 65536 in
theorem w_c5 : (Jvm.Cond.code ({ cls := "java/util/AbstractList", name := "<init>", desc := "()V" } : Jvm.MethodName) jdk_39_method_1_code (1 : Nat) (Option.none : Option Jvm.ClassFile.FieldType)).before args0 about1 = true := code_word (m := ⟨9, 0⟩) (meth := k9m0) (c := k9c0) (by decide +kernel) rfl rfl rfl (by decide +kernel)
set_option maxRecDepth 65536 in
theorem w_c6 : (Jvm.Cond.code ({ cls := "java/util/AbstractCollection", name := "<init>", desc := "()V" } : Jvm.MethodName) jdk_22_method_1_code (1 : Nat) (Option.none : Option Jvm.ClassFile.FieldType)).before args0 about1 = true := code_word (m := ⟨6, 0⟩) (meth := k6m0) (c := k6c0) (by decide +kernel) rfl rfl rfl (by decide +kernel)
set_option maxRecDepth 65536 in
theorem w_c7 : (Jvm.Cond.code ({ cls := "com/example/renkei/renkei/reader/JsonValue", name := "<init>", desc := "(Lcom/example/renkei/renkei/reader/ValueStore;I)V" } : Jvm.MethodName) prog_79_method_1_code (3 : Nat) (Option.none : Option Jvm.ClassFile.FieldType)).before args0 about1 = true := code_word (m := ⟨14, 0⟩) (meth := k14m0) (c := k14c0) (by decide +kernel) rfl rfl rfl (by decide +kernel)
set_option maxRecDepth 65536 in
theorem w_c8 : (Jvm.Cond.code ({ cls := "com/example/renkei/renkei/reader/JsonValue", name := "equals", desc := "(Ljava/lang/Object;)Z" } : Jvm.MethodName) prog_79_method_12_code (3 : Nat) (Option.some Jvm.ClassFile.FieldType.boolean)).before args0 about1 = true := code_word (m := ⟨14, 1⟩) (meth := k14m1) (c := k14c1) (by decide +kernel) rfl rfl rfl (by decide +kernel)
set_option maxRecDepth 65536 in
theorem w_c9 : (Jvm.Cond.code ({ cls := "java/lang/Integer", name := "valueOf", desc := "(I)Ljava/lang/Integer;" } : Jvm.MethodName) jdk_33_method_22_code (1 : Nat) (Option.some (Jvm.ClassFile.FieldType.object "java/lang/Integer"))).before args0 about1 = true := code_word (m := ⟨19, 0⟩) (meth := k19m0) (c := k19c0) (by decide +kernel) rfl rfl rfl (by decide +kernel)
set_option maxRecDepth 65536 in
theorem w_c10 : (Jvm.Cond.code ({ cls := "java/lang/Integer", name := "<init>", desc := "(I)V" } : Jvm.MethodName) jdk_33_method_23_code (2 : Nat) (Option.none : Option Jvm.ClassFile.FieldType)).before args0 about1 = true := code_word (m := ⟨19, 1⟩) (meth := k19m1) (c := k19c1) (by decide +kernel) rfl rfl rfl (by decide +kernel)
set_option maxRecDepth 65536 in
theorem w_c11 : (Jvm.Cond.code ({ cls := "java/lang/Number", name := "<init>", desc := "()V" } : Jvm.MethodName) jdk_18_method_1_code (1 : Nat) (Option.none : Option Jvm.ClassFile.FieldType)).before args0 about1 = true := code_word (m := ⟨15, 0⟩) (meth := k15m0) (c := k15c0) (by decide +kernel) rfl rfl rfl (by decide +kernel)
def codes1 : List Jvm.Cond := [Jvm.Cond.code x code maxLocals ret, Jvm.Cond.code ({ cls := "com/example/renkei/renkei/reader/ValueStore", name := "<init>", desc := "()V" } : Jvm.MethodName) prog_109_method_1_code (1 : Nat) (Option.none : Option Jvm.ClassFile.FieldType), Jvm.Cond.code ({ cls := "java/lang/Object", name := "<init>", desc := "()V" } : Jvm.MethodName) object_method_1_code (1 : Nat) (Option.none : Option Jvm.ClassFile.FieldType), Jvm.Cond.code ({ cls := "com/example/renkei/renkei/reader/TextStore", name := "<init>", desc := "()V" } : Jvm.MethodName) prog_103_method_1_code (1 : Nat) (Option.none : Option Jvm.ClassFile.FieldType), Jvm.Cond.code ({ cls := "java/util/ArrayList", name := "<init>", desc := "()V" } : Jvm.MethodName) jdk_38_method_2_code (1 : Nat) (Option.none : Option Jvm.ClassFile.FieldType), Jvm.Cond.code ({ cls := "java/util/AbstractList", name := "<init>", desc := "()V" } : Jvm.MethodName) jdk_39_method_1_code (1 : Nat) (Option.none : Option Jvm.ClassFile.FieldType), Jvm.Cond.code ({ cls := "java/util/AbstractCollection", name := "<init>", desc := "()V" } : Jvm.MethodName) jdk_22_method_1_code (1 : Nat) (Option.none : Option Jvm.ClassFile.FieldType), Jvm.Cond.code ({ cls := "com/example/renkei/renkei/reader/JsonValue", name := "<init>", desc := "(Lcom/example/renkei/renkei/reader/ValueStore;I)V" } : Jvm.MethodName) prog_79_method_1_code (3 : Nat) (Option.none : Option Jvm.ClassFile.FieldType), Jvm.Cond.code ({ cls := "com/example/renkei/renkei/reader/JsonValue", name := "equals", desc := "(Ljava/lang/Object;)Z" } : Jvm.MethodName) prog_79_method_12_code (3 : Nat) (Option.some Jvm.ClassFile.FieldType.boolean), Jvm.Cond.code ({ cls := "java/lang/Integer", name := "valueOf", desc := "(I)Ljava/lang/Integer;" } : Jvm.MethodName) jdk_33_method_22_code (1 : Nat) (Option.some (Jvm.ClassFile.FieldType.object "java/lang/Integer")), Jvm.Cond.code ({ cls := "java/lang/Integer", name := "<init>", desc := "(I)V" } : Jvm.MethodName) jdk_33_method_23_code (2 : Nat) (Option.none : Option Jvm.ClassFile.FieldType), Jvm.Cond.code ({ cls := "java/lang/Number", name := "<init>", desc := "()V" } : Jvm.MethodName) jdk_18_method_1_code (1 : Nat) (Option.none : Option Jvm.ClassFile.FieldType)]
set_option maxRecDepth 65536 in
theorem codes_eq : words1.filter isCode = codes1 := rfl
theorem w_codes : ∀ c ∈ words1.filter isCode, c.before args0 about1 = true := by
  rw [codes_eq]
  intro c hc
  simp only [codes1, List.mem_cons, List.not_mem_nil, or_false] at hc
  rcases hc with rfl | rfl | rfl | rfl | rfl | rfl | rfl | rfl | rfl | rfl | rfl | rfl
  · exact w_c0
  · exact w_c1
  · exact w_c2
  · exact w_c3
  · exact w_c4
  · exact w_c5
  · exact w_c6
  · exact w_c7
  · exact w_c8
  · exact w_c9
  · exact w_c10
  · exact w_c11
set_option maxRecDepth 65536 in
theorem w_t1 : (words1.take 24).all (fun c => isCode c || c.before args0 about1) = true := by decide +kernel
set_option maxRecDepth 65536 in
theorem w_t2 : ((words1.drop 24).take 24).all (fun c => isCode c || c.before args0 about1) = true := by decide +kernel
set_option maxRecDepth 65536 in
theorem w_t3 : (((words1.drop 24).drop 24).take 24).all (fun c => isCode c || c.before args0 about1) = true := by decide +kernel
set_option maxRecDepth 65536 in
theorem w_t4 : ((((words1.drop 24).drop 24).drop 24).take 24).all (fun c => isCode c || c.before args0 about1) = true := by decide +kernel
set_option maxRecDepth 65536 in
theorem w_t5 : ((((words1.drop 24).drop 24).drop 24).drop 24).all (fun c => isCode c || c.before args0 about1) = true := by decide +kernel
theorem w_tables : (allAtoms (Jvm.Cond.code x code maxLocals ret :: tables_1)).before args0 about1 = true := by
  rw [allAtoms_all]
  show words1.all (fun c => c.before args0 about1) = true
  refine all_split ?_ w_codes
  rw [← List.take_append_drop 24 words1, List.all_append, w_t1, ← List.take_append_drop 24 (words1.drop 24), List.all_append, w_t2, ← List.take_append_drop 24 ((words1.drop 24).drop 24), List.all_append, w_t3, ← List.take_append_drop 24 (((words1.drop 24).drop 24).drop 24), List.all_append, w_t4, w_t5]
  rfl
set_option maxRecDepth 65536 in
theorem w_rest : rest_1_c.before args0 about1 = true := by decide +kernel
set_option maxRecDepth 65536 in
theorem w_case : (Jvm.Cond.and given_1 narrow_1).before args0 about1 = true := by decide +kernel
theorem w_applies : (headSpec (Jvm.Cond.code x code maxLocals ret :: tables_1) room_1).applies x e0.platform about1 = true :=
  (Spec.applies_iff w_frames).mpr ⟨w_running, w_runnable, w_alone, w_named, w_hears, w_ripe, w_room, w_tables⟩
theorem atStart : AtStart classFile x code maxLocals ret World_1 tables_1 room_1 Calls_1 rest_1 Pre_1 launch0 p0 e0 about1 theMethod args0 below0 :=
  ⟨lists_1, trivial, launch0.admits_env _ _ _, launch0.least_env, fairChoices_fair.cas, fairChoices_fair.clock, w_frames, w_args, w_heap, w_applies, trivial, w_rest, w_case⟩
end start1
theorem witness_1 : WitnessClaimed_1 := ⟨start1.p0, start1.e0, start1.about1, start1.theMethod, start1.args0, start1.below0, start1.atStart⟩
end Jvm.Pilot.@@N@@
