import JvmDerived
import JvmDerived.Pilot.@@N@@Statement
import JvmDerived.Pilot.@@N@@Code
set_option linter.unusedVariables false
set_option linter.unusedSimpArgs false
namespace Jvm.OwnKit
open Sem ClassFile Op Lib Jvm.Stand Jvm.Free Jvm.LawKit Jvm.RoadKit
section Own
variable {p : Program} {l : Launch} {e : Env} {R : Room} {s : State} {m : MethodId} {args : Array Value} {below : List Frame} {meth : Method} {c : Code} {T : State} {h : Heap} {n0 cells slots : Nat} {Z : State} {a0 : Array Value} {Q : Option Value → Heap → Prop} {pc pc' : Nat} {Ls : Array Slot} {S rest : List Value}
/-- where the walk stands: over T, whose heap is h; nothing older than n0 was written -/
def Pn (p : Program) (l : Launch) (e : Env) (R : Room) (s : State) (m : MethodId) (args : Array Value) (below : List Frame) (meth : Method) (c : Code) (T : State) (h : Heap) (n0 cells slots : Nat) : Prop :=
  T.heap = h ∧ n0 ≤ s.heap.size ∧ ∃ locs, Stand p l e R s m args below meth c T locs cells slots ∧ Fr n0 locs
theorem Pn.here (X : Pn p l e R s m args below meth c T h n0 cells slots) : At T m c below := by obtain ⟨_, _, _, X, _⟩ := X; exact X.here
theorem Pn.le (X : Pn p l e R s m args below meth c T h n0 cells slots) : n0 ≤ h.size := by
  obtain ⟨e0, hn, _, X, _⟩ := X
  have q : s.heap.size ≤ T.heap.size := X.same.2.1
  rw [← e0]; exact Nat.le_trans hn q
theorem Pn.mono (X : Pn p l e R s m args below meth c T h n0 cells slots) {cells' slots' : Nat} (hc : cells ≤ cells') (hs : slots ≤ slots') : Pn p l e R s m args below meth c T h n0 cells' slots' := by
  obtain ⟨e0, hn, L, X, N⟩ := X
  exact ⟨e0, hn, L, ⟨X.admits, X.cas, X.clock, X.frames, X.room, X.hears, X.method, X.code, X.here, X.tail, X.warmed, X.limits, X.bytes, X.same.mono hc hs⟩, N⟩
/-- from here the run comes to a return that Q speaks of -/
def Go (p : Program) (e : Env) (s : State) (below : List Frame) (n0 : Nat) (Q : Option Value → Heap → Prop) (R : Room) (T : State) (f : JFrame) : Prop :=
  ∃ V, Steps p.tables e below (T.setTop f) V ∧ V.status = .running ∧ ∃ v L, Ended V below (.returned v) ∧ Q v V.heap ∧ Fr n0 L ∧ FrameEnd s (.returned v) V L R.cells R.slots
theorem stp {T' : State} {f f' : JFrame} (k : ∀ t, Steps p.tables e below (T'.setTop f') t → Steps p.tables e below (T.setTop f) t) (g : Go p e s below n0 Q R T' f') : Go p e s below n0 Q R T f := by
  obtain ⟨V, h1, h2⟩ := g; exact ⟨V, k V h1, h2⟩
def Con (l : Launch) (Z : State) (y : MethodName) (bytes : ByteArray) (maxL : Nat) (ret : Option FieldType) (ws : List Jvm.Cond) (rm : Room) (as : Array Value) (h0 : Heap) (n0 : Nat) (Q : Option Value → Heap → Prop) : Prop :=
  MetFree l y (head1 (Jvm.Cond.code y bytes maxL ret :: ws) rm) (fun a U => a = as ∧ Z.Warmed39 U.vm ∧ U.heap = h0) (fun _ _ _ _ _ => True) (fun _ U o U' => ∃ v L, o = .returned v ∧ (Q v U'.heap ∧ Fr n0 L) ∧ FrameEnd U o U' L rm.cells rm.slots)
theorem body {y : MethodName} {bytes : ByteArray} {maxL : Nat} {ret : Option FieldType} {ws : List Jvm.Cond} {rm : Room} {as : Array Value} {h0 : Heap} (hp : plainFor y = true) (hn : n0 ≤ h0.size) (ent : ∀ m, entryFrame m as maxL = mkF m 0 Ls [])
    (walk : ∀ (p : Program) (e : Env) (s : State) (m : MethodId) (below : List Frame) (meth : Method) (c : Code) (T : State), p.tables.exec = Jvm.exec → c.code = bytes → c.maxLocals = maxL → s.vm.findClass y.cls = some m.cls → meth.name = y.name → meth.sig.returnType = ret → meth.locks = false → Z.Warmed39 s.vm →
      Pn p l e rm s m as below meth c T h0 n0 0 0 → Go p e s below n0 Q rm T (mkF m 0 Ls [])) : Con l Z y bytes maxL ret ws rm as h0 n0 Q := by
  refine MetFree.of_bodySF hp hisR ?_
  intro p e s m args below meth c s₁ Bd hml0 hP hK
  obtain ⟨rfl, hZ, hh⟩ := hP
  have hown : s.vm.findClass y.cls = some m.cls := findClass_of_methodNamed Bd.named
  have hnm := (name_of_methodNamed Bd.named Bd.method).1
  have X0 : Stand p l e rm s m _ below meth c s₁ [] 0 0 := Stand.of_body Bd
  have e0 : s₁.heap = h0 := by rw [← hh, Bd.state]; rfl
  obtain ⟨V, h1, h2, v, L, h3, h4, h5, h6⟩ := walk p e s m below meth c s₁ Bd.exec Bd.bytes hml0 hown hnm Bd.returns Bd.notSynchronized hZ ⟨e0, by rw [hh]; exact hn, [], X0, Fr.nil n0⟩
  exact ⟨V, _, castTop (ent m) h1, h2, h3, v, L, rfl, ⟨h4, h5⟩, h6⟩
/-! the ends -/
theorem fin (X : Pn p l e R s m args below meth c T h n0 cells slots) (hlk : meth.locks = false) {v : Option Value} (hv : meth.sig.returnType = none → v = none) (hc : cells ≤ R.cells) (hs : slots ≤ R.slots) (hq : Q v h) {f : JFrame}
    (k : ∀ locs, Stand p l e R s m args below meth c T locs cells slots → ∀ fs, (∀ (f : JFrame) (acts : List Action), f.method = m → f.locked = none → f.entered = [] → (doReturn e (T.setTop f) acts v).1 = T.setFrames fs) → Steps p.tables e below (T.setTop f) (T.setFrames fs)) : Go p e s below n0 Q R T f := by
  obtain ⟨e0, hn, locs, Y, N⟩ := X
  obtain ⟨fs, hr, hrun, hended, hW, hsame⟩ := Y.leave hv hlk
  refine ⟨_, k locs Y fs hr, hrun, v, locs, hended, ?_, N, ⟨_, rfl⟩, hW, hsame.mono hc hs⟩
  show Q v T.heap
  rw [e0]; exact hq
theorem rI {z : Int32} (X : Pn p l e R s m args below meth c T h n0 cells slots) (hx : p.tables.exec = Jvm.exec) (hlk : meth.locks = false) (hret : meth.sig.returnType = some .int) (hd : decode c.code pc = .ok (.ireturn, 1)) (hc : cells ≤ R.cells) (hs : slots ≤ R.slots) (hq : Q (some (.int z)) h) :
    Go p e s below n0 Q R T (mkF m pc Ls (.int z :: S)) :=
  fin X hlk (fun q => by rw [hret] at q; cases q) hc hs hq fun _ Y fs hr => retOut Y hx hret rfl (Or.inl ⟨rfl, Or.inl rfl, z, rfl⟩) hd hr
theorem rN {z : Int32} {t : FieldType} (X : Pn p l e R s m args below meth c T h n0 cells slots) (hx : p.tables.exec = Jvm.exec) (hlk : meth.locks = false) (hret : meth.sig.returnType = some t) (ht : t = .boolean ∨ t = .byte ∨ t = .char ∨ t = .short) (hd : decode c.code pc = .ok (.ireturn, 1)) (hc : cells ≤ R.cells) (hs : slots ≤ R.slots) (hq : Q (some (.int (nar t z))) h) :
    Go p e s below n0 Q R T (mkF m pc Ls (.int z :: S)) :=
  fin X hlk (fun q => by rw [hret] at q; cases q) hc hs hq fun _ Y fs hr => retN Y hx hret ht hd hr
theorem rL {z : Int64} (X : Pn p l e R s m args below meth c T h n0 cells slots) (hx : p.tables.exec = Jvm.exec) (hlk : meth.locks = false) (hret : meth.sig.returnType = some .long) (hd : decode c.code pc = .ok (.lreturn, 1)) (hc : cells ≤ R.cells) (hs : slots ≤ R.slots) (hq : Q (some (.long z)) h) :
    Go p e s below n0 Q R T (mkF m pc Ls (.long z :: S)) :=
  fin X hlk (fun q => by rw [hret] at q; cases q) hc hs hq fun _ Y fs hr => retOut Y hx hret rfl (Or.inr (Or.inl ⟨rfl, rfl, z, rfl⟩)) hd hr
theorem rA {w : Value} {t : FieldType} (X : Pn p l e R s m args below meth c T h n0 cells slots) (hx : p.tables.exec = Jvm.exec) (hlk : meth.locks = false) (hret : meth.sig.returnType = some t) (ht : t.isReference = true) (hw : w.isRef = true) (hn : narrow t w = w) (hd : decode c.code pc = .ok (.areturn, 1)) (hc : cells ≤ R.cells) (hs : slots ≤ R.slots) (hq : Q (some w) h) :
    Go p e s below n0 Q R T (mkF m pc Ls (w :: S)) :=
  fin X hlk (fun q => by rw [hret] at q; cases q) hc hs hq fun _ Y fs hr => retOut Y hx hret hn (Or.inr (Or.inr (Or.inr (Or.inr ⟨rfl, ht, hw⟩)))) hd hr
theorem rV (X : Pn p l e R s m args below meth c T h n0 cells slots) (hx : p.tables.exec = Jvm.exec) (hlk : meth.locks = false) (hret : meth.sig.returnType = none) (hd : decode c.code pc = .ok (.return_, 1)) (hc : cells ≤ R.cells) (hs : slots ≤ R.slots) (hq : Q none h) :
    Go p e s below n0 Q R T (mkF m pc Ls []) :=
  fin X hlk (fun _ => rfl) hc hs hq fun _ Y fs hr => Y.returnOut hx hret hd hr
/-! heap and tables -/
theorem gf {own R0 O n d host : String} {index : Nat} {a : Addr} {v : Value} (X : Pn p l e R s m args below meth c T h n0 cells slots) (hx : p.tables.exec = Jvm.exec) (hZ : Z.Warmed39 s.vm) (hown : s.vm.findClass own = some m.cls) (w : (Cond.fieldLink own index R0 n d).before a0 Z = true ∨ (Cond.fieldLinkNest own index R0 n d host).before a0 Z = true) (via : Via Z R0 O n d)
    (F : Fld Z h a O n d v) (hd : decode c.code pc = .ok (.getfield index, 3)) (hp : pc + 3 = pc') (k : ∀ T', Pn p l e R s m args below meth c T' h n0 cells slots → Go p e s below n0 Q R T' (mkF m pc' Ls (v :: S))) : Go p e s below n0 Q R T (mkF m pc Ls (.ref a :: S)) := by
  subst hp
  obtain ⟨e0, hn, locs, Y, N⟩ := X
  obtain ⟨T', Y', e', st⟩ := getF Y hx hZ hown w via e0 F (g := mkF m pc Ls (.ref a :: S)) rfl rfl hd
  exact stp st (k T' ⟨e', hn, locs, Y', N⟩)
theorem gs {own R0 O n d host : String} {index : Nat} {v : Value} (X : Pn p l e R s m args below meth c T h n0 cells slots) (hx : p.tables.exec = Jvm.exec) (hZ : Z.Warmed39 s.vm) (hown : s.vm.findClass own = some m.cls) (w : (Cond.fieldLink own index R0 n d).before a0 Z = true ∨ (Cond.fieldLinkNest own index R0 n d host).before a0 Z = true) (via : Via Z R0 O n d)
    (F : Sta Z h O n d v) (hd : decode c.code pc = .ok (.getstatic index, 3)) (hp : pc + 3 = pc') (k : ∀ T', Pn p l e R s m args below meth c T' h n0 cells slots → Go p e s below n0 Q R T' (mkF m pc' Ls (v :: S))) : Go p e s below n0 Q R T (mkF m pc Ls S) := by
  subst hp
  obtain ⟨e0, hn, locs, Y, N⟩ := X
  obtain ⟨T', Y', e', st⟩ := getS2 Y hx hZ hown w via e0 F (g := mkF m pc Ls S) rfl hd
  exact stp st (k T' ⟨e', hn, locs, Y', N⟩)
theorem pf {own R0 O n d host C : String} {index kk : Nat} {ty : FieldType} {a : Addr} {v old : Value} (X : Pn p l e R s m args below meth c T h n0 cells slots) (hx : p.tables.exec = Jvm.exec) (hZ : Z.Warmed39 s.vm) (hown : s.vm.findClass own = some m.cls) (w : (Cond.fieldLink own index R0 n d).before a0 Z = true ∨ (Cond.fieldLinkNest own index R0 n d host).before a0 Z = true) (via : Via Z R0 O n d)
    (F : Fld Z h a O n d old) (E : Exa Z h a C) (L : (Cond.lays C O n d).before a0 Z = true ∨ ((Cond.laysFinal C O n d).before a0 Z = true ∧ own = O ∧ meth.name = "<init>")) (wi : (Cond.instantiable C kk).before a0 Z = true)
    (hty : parseFieldDescriptor d = some ty) (hn : narrow ty v = v) (hf : fits ty v = true) (ge : n0 ≤ a) (hd : decode c.code pc = .ok (.putfield index, 3)) (hp : pc + 3 = pc')
    (k : ∀ T' h', Pn p l e R s m args below meth c T' h' n0 cells slots → Wr h h' a (Jvm.RoadKit.slotOf Z O n d) v → Go p e s below n0 Q R T' (mkF m pc' Ls S)) : Go p e s below n0 Q R T (mkF m pc Ls (v :: .ref a :: S)) := by
  subst hp
  obtain ⟨e0, hm, locs, Y, N⟩ := X
  obtain ⟨T', h', Y', e', W, st⟩ := putF Y hx hZ hown w via e0 F E L wi hty hn hf (g := mkF m pc Ls (v :: .ref a :: S)) rfl rfl hd
  exact stp st (k T' h' ⟨e', hm, _, Y', Fr.snoc Y' N ge⟩ W)
theorem nw {own C : String} {index n : Nat} (X : Pn p l e R s m args below meth c T h n0 cells slots) (hx : p.tables.exec = Jvm.exec) (hZ : Z.Warmed39 s.vm) (hown : s.vm.findClass own = some m.cls) (w : (Cond.classLink own index C).before a0 Z = true) (wi : (Cond.instantiable C n).before a0 Z = true) (wz : (Cond.initialized C).before a0 Z = true)
    (hd : decode c.code pc = .ok (.new index, 3)) (hp : pc + 3 = pc') (hc : cells + 1 ≤ R.cells) (hl : slots + n ≤ R.slots)
    (k : ∀ T' h' b, Pn p l e R s m args below meth c T' h' n0 (cells + 1) (slots + n) → b = h.size → n0 ≤ b → Ext h h' → Exa Z h' b C → (∀ {O nm d : String} {ty : FieldType}, Laid Z a0 C O nm d → parseFieldDescriptor d = some ty → Fld Z h' b O nm d (defaultValue ty)) → Go p e s below n0 Q R T' (mkF m pc' Ls (.ref b :: S))) :
    Go p e s below n0 Q R T (mkF m pc Ls S) := by
  subst hp
  have q := X.le
  obtain ⟨e0, hn, locs, Y, N⟩ := X
  obtain ⟨T', h', Y', e', E', A', D', -, st⟩ := newO Y hx hZ hown w wi wz e0 (g := mkF m pc Ls S) rfl hd hc hl
  exact stp st (k T' h' _ ⟨e', hn, _, Y', N⟩ rfl q E' A' D')
theorem oi {own : String} {idx : Nat} {a : Addr} {W : Nat} (X : Pn p l e R s m args below meth c T h n0 cells slots) (hx : p.tables.exec = Jvm.exec) (hZ : Z.Warmed39 s.vm) (hown : s.vm.findClass own = some m.cls) (w1 : (Cond.methodLink own idx Lib.objectInit).before a0 Z = true) (w2 : (Cond.instanceMethod Lib.objectInit).before a0 Z = true) (w3 : (Cond.code Lib.objectInit ⟨#[0xb1]⟩ 1 none).before a0 Z = true)
    (hsize : Ls.size = c.maxLocals) (hd : decode c.code pc = .ok (.invokespecial idx, 3)) (hp : pc + 3 = pc') (hf : 1 ≤ R.frames) (hW : (S.map fun v => v.category).sum ≤ W) (hl : W + 12 ≤ R.locals)
    (k : ∀ T', Pn p l e R s m args below meth c T' h n0 cells slots → Go p e s below n0 Q R T' (mkF m pc' Ls S)) : Go p e s below n0 Q R T (mkF m pc Ls (.ref a :: S)) := by
  subst hp
  obtain ⟨e0, hn, locs, Y, N⟩ := X
  obtain ⟨T', Y', e', st⟩ := initO Y hx hZ hown w1 w2 w3 e0 (g := mkF m pc Ls (.ref a :: S)) rfl hsize rfl hd hf (W := W) (by show 2 * 0 + _ ≤ _; omega) hl
  exact stp st (k T' ⟨e', hn, locs, Y', N⟩)
/-! calls by their contracts -/
theorem cS {own : String} {index : Nat} {y : MethodName} {bytes : ByteArray} {maxL : Nat} {ret : Option FieldType} {rm : Room} {as : Array Value} {Q' : Option Value → Heap → Prop} (W : Nat) (argsL : List Value) (X : Pn p l e R s m args below meth c T h n0 cells slots) (hx : p.tables.exec = Jvm.exec) (hZ : Z.Warmed39 s.vm) (hown : s.vm.findClass own = some m.cls)
    (w1 : (Cond.methodLink own index y).before a0 Z = true) (w2 : (Cond.static y).before a0 Z = true) (w3 : (Cond.initialized y.cls).before a0 Z = true) (w4 : (Cond.code y bytes maxL ret).before a0 Z = true) (hy : y.cls ≠ "java/lang/invoke/MethodHandle" ∧ y.cls ≠ "java/lang/invoke/VarHandle")
    (hM : Con l Z y bytes maxL ret [] rm as h n0 Q') (hf : rm.frames + 1 ≤ R.frames) (hl : W + (maxL + 11) + rm.locals ≤ R.locals) (hsz : Ls.size = c.maxLocals) (has : as = argsL.toArray) (hlen : ∀ sig, parseMethodDescriptor y.desc = some sig → argsL.length = sig.parameters.length) (hst : S = argsL.reverse ++ rest) (hW : (rest.map fun v => v.category).sum ≤ W)
    (hd : decode c.code pc = .ok (.invokestatic index, 3)) (hp : pc + 3 = pc') (hc : cells + rm.cells ≤ R.cells) (hs : slots + rm.slots ≤ R.slots)
    (k : ∀ v T' h', Pn p l e R s m args below meth c T' h' n0 (cells + rm.cells) (slots + rm.slots) → Q' v h' → Go p e s below n0 Q R T' (mkF m pc' Ls (v.toList ++ rest))) : Go p e s below n0 Q R T (mkF m pc Ls S) := by
  subst hp has
  obtain ⟨e0, hn, locs, Y, N⟩ := X
  obtain ⟨v, _, ⟨T', L', k', n'⟩, -, Y', ⟨Lc, ⟨hq, hN⟩, l', y', z'⟩, st⟩ := Jvm.LawKit.callS Y hx (y := y) hown (mvT hZ w1) (mvT hZ w2) (mvT hZ w3) (mvT hZ w4) hy (backOf (W := W) (Q := fun v h L => Q' v h ∧ Fr n0 L) hM hZ w4 w3 hf hl) (g := mkF m pc Ls S) rfl hsz (argsL := argsL) (rest := rest) hlen hst (by show 2 * 0 + _ ≤ _; omega) hd (fun _ _ => ⟨rfl, e0, hc, hs⟩)
  dsimp only [Pt.U, Pt.locs, Pt.cells, Pt.slots] at Y' l' y' z' st hq
  subst l' y' z'
  exact stp st (k v T' _ ⟨rfl, hn, _, Y', N.app hN⟩ hq)
theorem cI {own : String} {index : Nat} {y : MethodName} {bytes : ByteArray} {maxL : Nat} {rm : Room} {as : Array Value} {a : Addr} {Q' : Option Value → Heap → Prop} (W : Nat) (argsL : List Value) (X : Pn p l e R s m args below meth c T h n0 cells slots) (hx : p.tables.exec = Jvm.exec) (hZ : Z.Warmed39 s.vm) (hown : s.vm.findClass own = some m.cls) (hy1 : y.name = "<init>")
    (w1 : (Cond.methodLink own index y).before a0 Z = true) (w2 : (Cond.instanceMethod y).before a0 Z = true) (w3 : (Cond.initialized y.cls).before a0 Z = true) (w4 : (Cond.code y bytes maxL none).before a0 Z = true) (hy : y.cls ≠ "java/lang/invoke/MethodHandle" ∧ y.cls ≠ "java/lang/invoke/VarHandle")
    (hM : Con l Z y bytes maxL none [] rm as h n0 Q') (hf : rm.frames + 1 ≤ R.frames) (hl : W + (maxL + 11) + rm.locals ≤ R.locals) (hsz : Ls.size = c.maxLocals) (has : as = (.ref a :: argsL).toArray) (hlen : ∀ sig, parseMethodDescriptor y.desc = some sig → argsL.length = sig.parameters.length) (hst : S = argsL.reverse ++ .ref a :: rest) (hW : (rest.map fun v => v.category).sum ≤ W)
    (hd : decode c.code pc = .ok (.invokespecial index, 3)) (hp : pc + 3 = pc') (hc : cells + rm.cells ≤ R.cells) (hs : slots + rm.slots ≤ R.slots)
    (k : ∀ v T' h', Pn p l e R s m args below meth c T' h' n0 (cells + rm.cells) (slots + rm.slots) → Q' v h' → Go p e s below n0 Q R T' (mkF m pc' Ls (v.toList ++ rest))) : Go p e s below n0 Q R T (mkF m pc Ls S) := by
  subst hp has
  obtain ⟨e0, hn, locs, Y, N⟩ := X
  obtain ⟨v, _, ⟨T', L', k', n'⟩, -, Y', ⟨Lc, ⟨hq, hN⟩, l', y', z'⟩, st⟩ := Y.specialBack hx (y := y) hy1 hown (mvT hZ w1) (mvT hZ w2) (mvT hZ w4) hy (backOf (W := W) (Q := fun v h L => Q' v h ∧ Fr n0 L) hM hZ w4 w3 hf hl) (g := mkF m pc Ls S) rfl hsz (Steps.refl _) (a := a) (argsL := argsL) (rest := rest) hlen hst (by show 2 * 0 + _ ≤ _; omega) hd (fun _ _ => ⟨rfl, e0, hc, hs⟩)
  dsimp only [Pt.U, Pt.locs, Pt.cells, Pt.slots] at Y' l' y' z' st hq
  subst l' y' z'
  exact stp (fun _ q => st.trans q) (k v T' _ ⟨rfl, hn, _, Y', N.app hN⟩ hq)
theorem cV {own C : String} {index : Nat} {y : MethodName} {bytes : ByteArray} {maxL : Nat} {ret : Option FieldType} {rm : Room} {as : Array Value} {a : Addr} {Q' : Option Value → Heap → Prop} (W : Nat) (argsL : List Value) (X : Pn p l e R s m args below meth c T h n0 cells slots) (hx : p.tables.exec = Jvm.exec) (hZ : Z.Warmed39 s.vm) (hown : s.vm.findClass own = some m.cls)
    (w1 : (Cond.methodLink own index y).before a0 Z = true) (w2 : (Cond.declares y).before a0 Z = true) (w5 : (Cond.selects C y y).before a0 Z = true) (w6 : (Cond.instanceMethod y).before a0 Z = true) (w3 : (Cond.initialized y.cls).before a0 Z = true) (w4 : (Cond.code y bytes maxL ret).before a0 Z = true) (hy : y.cls ≠ "java/lang/invoke/MethodHandle" ∧ y.cls ≠ "java/lang/invoke/VarHandle")
    (hE : Exa Z h a C) (hM : Con l Z y bytes maxL ret [] rm as h n0 Q') (hf : rm.frames + 1 ≤ R.frames) (hl : W + (maxL + 11) + rm.locals ≤ R.locals) (hsz : Ls.size = c.maxLocals) (has : as = (.ref a :: argsL).toArray) (hlen : ∀ sig, parseMethodDescriptor y.desc = some sig → argsL.length = sig.parameters.length) (hst : S = argsL.reverse ++ .ref a :: rest) (hW : (rest.map fun v => v.category).sum ≤ W)
    (hd : decode c.code pc = .ok (.invokevirtual index, 3)) (hp : pc + 3 = pc') (hc : cells + rm.cells ≤ R.cells) (hs : slots + rm.slots ≤ R.slots)
    (k : ∀ v T' h', Pn p l e R s m args below meth c T' h' n0 (cells + rm.cells) (slots + rm.slots) → Q' v h' → Go p e s below n0 Q R T' (mkF m pc' Ls (v.toList ++ rest))) : Go p e s below n0 Q R T (mkF m pc Ls S) := by
  subst hp has
  obtain ⟨e0, hn, locs, Y, N⟩ := X
  obtain ⟨cq, kq, q1, q2, q3⟩ := isOf hZ e0 hE
  obtain ⟨v, _, ⟨T', L', k', n'⟩, -, Y', ⟨Lc, ⟨hq, hN⟩, l', y', z'⟩, st⟩ := Y.virtualBack hx (y := y) (z := y) hown (mvT hZ w1) (mvT hZ w2) (notFace_of_selects (args := #[]) (mvT hZ w5)) (mvT hZ w5) (mvT hZ w6) hy (backOf (W := W) (Q := fun v h L => Q' v h ∧ Fr n0 L) hM hZ w4 w3 hf hl) q1 q3 (g := mkF m pc Ls S) rfl hsz (Steps.refl _) (argsL := argsL) (rest := rest) hlen hst (by show 2 * 0 + _ ≤ _; omega) hd (fun _ _ => ⟨rfl, e0, hc, hs⟩)
  dsimp only [Pt.U, Pt.locs, Pt.cells, Pt.slots] at Y' l' y' z' st hq
  subst l' y' z'
  exact stp (fun _ q => st.trans q) (k v T' _ ⟨rfl, hn, _, Y', N.app hN⟩ hq)
theorem cP {own : String} {index kk : Nat} {y : MethodName} {bytes : ByteArray} {maxL : Nat} {ret : Option FieldType} {rm : Room} {as : Array Value} {a : Addr} {C : String} {Q' : Option Value → Heap → Prop} (W : Nat) (argsL : List Value) (X : Pn p l e R s m args below meth c T h n0 cells slots) (hx : p.tables.exec = Jvm.exec) (hZ : Z.Warmed39 s.vm) (hown : s.vm.findClass own = some m.cls)
    (w1 : (Cond.methodLink own index y).before a0 Z = true) (w6 : (Cond.instanceMethod y).before a0 Z = true) (wp : (Cond.privateMethod y).before a0 Z = true) (wi : (Cond.instantiable y.cls kk).before a0 Z = true) (w3 : (Cond.initialized y.cls).before a0 Z = true) (w4 : (Cond.code y bytes maxL ret).before a0 Z = true) (hy : y.cls ≠ "java/lang/invoke/MethodHandle" ∧ y.cls ≠ "java/lang/invoke/VarHandle")
    (hE : Exa Z h a C) (hM : Con l Z y bytes maxL ret [] rm as h n0 Q') (hf : rm.frames + 1 ≤ R.frames) (hl : W + (maxL + 11) + rm.locals ≤ R.locals) (hsz : Ls.size = c.maxLocals) (has : as = (.ref a :: argsL).toArray) (hlen : ∀ sig, parseMethodDescriptor y.desc = some sig → argsL.length = sig.parameters.length) (hst : S = argsL.reverse ++ .ref a :: rest) (hW : (rest.map fun v => v.category).sum ≤ W)
    (hd : decode c.code pc = .ok (.invokevirtual index, 3)) (hp : pc + 3 = pc') (hc : cells + rm.cells ≤ R.cells) (hs : slots + rm.slots ≤ R.slots)
    (k : ∀ v T' h', Pn p l e R s m args below meth c T' h' n0 (cells + rm.cells) (slots + rm.slots) → Q' v h' → Go p e s below n0 Q R T' (mkF m pc' Ls (v.toList ++ rest))) : Go p e s below n0 Q R T (mkF m pc Ls S) := by
  subst hp has
  obtain ⟨e0, hn, locs, Y, N⟩ := X
  obtain ⟨cq, q1, q2⟩ := hE.cell
  have mi : (Cond.instantiable y.cls kk).before args s = true := mvT hZ wi
  obtain ⟨cc, kc, u1, u2, -, u3, -⟩ := Cond.instantiable_spec mi
  have hpv := Cond.privateMethod_at (mvP hZ wp (args := #[]))
  have hse := selects_self_of_private (args := args) u1 u2 (by rw [Bool.or_eq_false_iff] at u3; exact u3.1) hpv (mvT hZ w6) hy
  obtain ⟨v, _, ⟨T', L', k', n'⟩, -, Y', ⟨Lc, ⟨hq, hN⟩, l', y', z'⟩, st⟩ := Y.privateBack hx (y := y) hown (mvT hZ w1) (mvT hZ w6) hse hpv (mvT hZ w4) hy (backOf (W := W) (Q := fun v h L => Q' v h ∧ Fr n0 L) hM hZ w4 w3 hf hl) (g := mkF m pc Ls S) rfl hsz (Steps.refl _) (a := a) (by rw [e0]; exact q1) q2 (argsL := argsL) (rest := rest) hlen hst (by show 2 * 0 + _ ≤ _; omega) hd (fun _ _ => ⟨rfl, e0, hc, hs⟩)
  dsimp only [Pt.U, Pt.locs, Pt.cells, Pt.slots] at Y' l' y' z' st hq
  subst l' y' z'
  exact stp (fun _ q => st.trans q) (k v T' _ ⟨rfl, hn, _, Y', N.app hN⟩ hq)
theorem cF {own C : String} {index count : Nat} {y z : MethodName} {bytes : ByteArray} {maxL : Nat} {ret : Option FieldType} {rm : Room} {as : Array Value} {a : Addr} {Q' : Option Value → Heap → Prop} (W : Nat) (argsL : List Value) (X : Pn p l e R s m args below meth c T h n0 cells slots) (hx : p.tables.exec = Jvm.exec) (hZ : Z.Warmed39 s.vm) (hown : s.vm.findClass own = some m.cls)
    (w1 : (Cond.methodLink own index y).before a0 Z = true) (w2 : (Cond.declares y).before a0 Z = true) (w7 : (Cond.interfaceMethod y.cls y.cls y.name y.desc).before a0 Z = true) (w5 : (Cond.selects C y z).before a0 Z = true) (w6 : (Cond.instanceMethod z).before a0 Z = true) (w8 : (Cond.publicMethod z).before a0 Z = true) (w9 : (Cond.unhidden C y.name y.desc).before a0 Z = true) (w10 : (Cond.castable C y.cls).before a0 Z = true)
    (w3 : (Cond.initialized z.cls).before a0 Z = true) (w4 : (Cond.code z bytes maxL ret).before a0 Z = true) (hy : y.cls ≠ "java/lang/invoke/MethodHandle" ∧ y.cls ≠ "java/lang/invoke/VarHandle")
    (hE : Exa Z h a C) (hM : Con l Z z bytes maxL ret [] rm as h n0 Q') (hf : rm.frames + 1 ≤ R.frames) (hl : W + (maxL + 11) + rm.locals ≤ R.locals) (hsz : Ls.size = c.maxLocals) (has : as = (.ref a :: argsL).toArray) (hlen : ∀ sig, parseMethodDescriptor y.desc = some sig → argsL.length = sig.parameters.length) (hst : S = argsL.reverse ++ .ref a :: rest) (hW : (rest.map fun v => v.category).sum ≤ W)
    (hd : decode c.code pc = .ok (.invokeinterface index count, 5)) (hp : pc + 5 = pc') (hc : cells + rm.cells ≤ R.cells) (hs : slots + rm.slots ≤ R.slots)
    (k : ∀ v T' h', Pn p l e R s m args below meth c T' h' n0 (cells + rm.cells) (slots + rm.slots) → Q' v h' → Go p e s below n0 Q R T' (mkF m pc' Ls (v.toList ++ rest))) : Go p e s below n0 Q R T (mkF m pc Ls S) := by
  subst hp has
  obtain ⟨e0, hn, locs, Y, N⟩ := X
  obtain ⟨cq, kq, q1, q2, q3⟩ := isOf hZ e0 hE
  obtain ⟨v, _, ⟨T', L', k', n'⟩, -, Y', ⟨Lc, ⟨hq, hN⟩, l', y', z'⟩, st⟩ := Y.interfaceBack hx (xi := y) (y := z) hown (mvT hZ w1) (mvT hZ w2) (mvT hZ w7 (by simp [Cond.onTables, Cond.keepsFace, Cond.faceAtom, hy.1, hy.2])) (mvT hZ w5) (mvT hZ w6) (mvT hZ w8) (mvT hZ w9) (mvT hZ w10) hy (backOf (W := W) (Q := fun v h L => Q' v h ∧ Fr n0 L) hM hZ w4 w3 hf hl) q1 q2 q3 (g := mkF m pc Ls S) rfl hsz (Steps.refl _) (argsL := argsL) (rest := rest) hlen hst (by show 2 * 0 + _ ≤ _; omega) hd (fun _ _ => ⟨rfl, e0, hc, hs⟩)
  dsimp only [Pt.U, Pt.locs, Pt.cells, Pt.slots] at Y' l' y' z' st hq
  subst l' y' z'
  exact stp (fun _ q => st.trans q) (k v T' _ ⟨rfl, hn, _, Y', N.app hN⟩ hq)
theorem ioY {own K : String} {index : Nat} {a : Addr} (X : Pn p l e R s m args below meth c T h n0 cells slots) (hx : p.tables.exec = Jvm.exec) (hZ : Z.Warmed39 s.vm) (hown : s.vm.findClass own = some m.cls) (w : (Cond.classLink own index K).before a0 Z = true) (F : Ins Z h a K true) (hd : decode c.code pc = .ok (.instanceof index, 3)) (hp : pc + 3 = pc')
    (k : ∀ T', Pn p l e R s m args below meth c T' h n0 cells slots → Go p e s below n0 Q R T' (mkF m pc' Ls (.int 1 :: S))) : Go p e s below n0 Q R T (mkF m pc Ls (.ref a :: S)) := by
  subst hp
  obtain ⟨e0, hn, locs, Y, N⟩ := X
  obtain ⟨T', Y', e', st⟩ := instY Y hx hZ hown w e0 F (g := mkF m pc Ls (.ref a :: S)) rfl rfl hd
  exact stp st (k T' ⟨e', hn, locs, Y', N⟩)
theorem ioN {own K C : String} {index : Nat} {a : Addr} (X : Pn p l e R s m args below meth c T h n0 cells slots) (hx : p.tables.exec = Jvm.exec) (hZ : Z.Warmed39 s.vm) (hown : s.vm.findClass own = some m.cls) (w : (Cond.classLink own index K).before a0 Z = true) (E : Exa Z h a C) (F : ∃ c t, Z.vm.findClass C = some c ∧ Z.vm.findClass K = some t ∧ Z.vm.assignable c t = false) (hd : decode c.code pc = .ok (.instanceof index, 3)) (hp : pc + 3 = pc')
    (k : ∀ T', Pn p l e R s m args below meth c T' h n0 cells slots → Go p e s below n0 Q R T' (mkF m pc' Ls (.int 0 :: S))) : Go p e s below n0 Q R T (mkF m pc Ls (.ref a :: S)) := by
  subst hp
  obtain ⟨e0, hn, locs, Y, N⟩ := X
  obtain ⟨T', Y', e', st⟩ := instNo Y hx hZ hown w e0 E F (g := mkF m pc Ls (.ref a :: S)) rfl rfl hd
  exact stp st (k T' ⟨e', hn, locs, Y', N⟩)
theorem ioZ {index : Nat} (X : Pn p l e R s m args below meth c T h n0 cells slots) (hx : p.tables.exec = Jvm.exec) (hd : decode c.code pc = .ok (.instanceof index, 3)) (hp : pc + 3 = pc')
    (k : Go p e s below n0 Q R T (mkF m pc' Ls (.int 0 :: S))) : Go p e s below n0 Q R T (mkF m pc Ls (.null :: S)) := by
  subst hp
  obtain ⟨e0, hn, locs, Y, N⟩ := X
  exact stp (Y.instanceofNull hx (g := mkF m pc Ls (.null :: S)) rfl rfl hd) k
theorem ccY {own K : String} {index : Nat} {a : Addr} (X : Pn p l e R s m args below meth c T h n0 cells slots) (hx : p.tables.exec = Jvm.exec) (hZ : Z.Warmed39 s.vm) (hown : s.vm.findClass own = some m.cls) (w : (Cond.classLink own index K).before a0 Z = true) (F : Ins Z h a K true) (hd : decode c.code pc = .ok (.checkcast index, 3)) (hp : pc + 3 = pc')
    (k : ∀ T', Pn p l e R s m args below meth c T' h n0 cells slots → Go p e s below n0 Q R T' (mkF m pc' Ls (.ref a :: S))) : Go p e s below n0 Q R T (mkF m pc Ls (.ref a :: S)) := by
  subst hp
  obtain ⟨e0, hn, locs, Y, N⟩ := X
  obtain ⟨T', Y', e', st⟩ := castY Y hx hZ hown w e0 F (g := mkF m pc Ls (.ref a :: S)) rfl rfl hd
  exact stp st (k T' ⟨e', hn, locs, Y', N⟩)
theorem own_nsRoot {O K : String} {kk : Nat} (w : (Cond.noSuperclass O).before a0 Z = true) (wk : (Cond.instantiable K kk).before a0 Z = true) (hn : O ≠ K) : NS Z O K := by
  obtain ⟨c, k, h1, h2, h3, -, -⟩ := Cond.noSuperclass_spec w
  obtain ⟨t, _, g1, -⟩ := Cond.instantiable_spec wk
  have ne := ids_ne h1 g1 hn
  refine ⟨c, t, h1, g1, fun fuel => ?_⟩
  cases fuel with
  | zero => rfl
  | succ f => simp [Vm.isSubclassAux, ne, h2, h3]
theorem own_nsNo {C U K : String} {kk : Nat} (w : (Cond.superclass C U).before a0 Z = true) (wk : (Cond.instantiable K kk).before a0 Z = true) (n : NS Z C K) (hn : C ≠ K) : ∃ c t, Z.vm.findClass C = some c ∧ Z.vm.findClass K = some t ∧ Z.vm.assignable c t = false := by
  obtain ⟨c, t, h0, g0, n3⟩ := n
  obtain ⟨q, k, kp, h1, h2, h3, h4, h5, -, h7⟩ := Cond.superclass_spec h0 w
  obtain ⟨t', k', g1, g2, g3, g4, -⟩ := Cond.instantiable_spec wk
  cases g0.symm.trans g1
  have g7 : k'.isInterface = false := by rw [Bool.or_eq_false_iff] at g4; exact g4.1
  have ne := ids_ne h0 g0 hn
  refine ⟨c, t, h0, g0, ?_⟩
  show Z.vm.assignableAux (255 + 1) c t = false
  simp [Vm.assignableAux, ne, h2, g2, h5, g3, g7, Vm.isSubclass, n3]
/-! arrays: n places, the i-th holds f i -/
def Av (Z : State) (h : Heap) (a : Addr) (ty : FieldType) (n : Nat) (f : Nat → Value) : Prop := ∃ c : Cell, Arr Z h a c ty ∧ c.slots.size = n ∧ ∀ i, i < n → c.slots[i]? = some (f i)
theorem Av.lt {a : Addr} {ty : FieldType} {n : Nat} {f : Nat → Value} (F : Av Z h a ty n f) : a < h.size := by obtain ⟨c, A, -⟩ := F; exact A.lt
theorem Av.ext {h' : Heap} {a : Addr} {ty : FieldType} {n : Nat} {f : Nat → Value} (F : Av Z h a ty n f) (E : Ext h h') : Av Z h' a ty n f := by obtain ⟨c, A, r⟩ := F; exact ⟨c, A.ext E, r⟩
theorem Av.other {h' : Heap} {a b : Addr} {ty : FieldType} {n sl : Nat} {v : Value} {f : Nat → Value} (F : Av Z h b ty n f) (W : Wr h h' a sl v) (q : b ≠ a) : Av Z h' b ty n f := by obtain ⟨c, A, r⟩ := F; exact ⟨c, A.other W q, r⟩
theorem Av.keep {h' : Heap} {a : Addr} {ws : List Addr} {ty : FieldType} {n : Nat} {f : Nat → Value} (F : Av Z h a ty n f) (K : Keep h h' ws) (q : a ∉ ws) : Av Z h' a ty n f := by obtain ⟨c, A, r⟩ := F; exact ⟨c, ⟨K.2.1 a c A.1 q, A.2⟩, r⟩
theorem Av.same {h' : Heap} {a : Addr} {ty : FieldType} {n j : Nat} {v : Value} {f : Nat → Value} (F : Av Z h a ty n f) (W : Wr h h' a j v) : Av Z h' a ty n (fun i => if i = j then v else f i) := by
  obtain ⟨c, A, q, r⟩ := F
  refine ⟨c.setSlot j v, A.same W, by rw [sz_set]; exact q, fun i hi => ?_⟩
  obtain ⟨c', e1, -, -, -, -, e6, e7⟩ := wr_at W A.1
  obtain ⟨e8, e9, -⟩ := e7 rfl
  by_cases hj : i = j
  · subst hj; show _ = some (if i = i then v else f i); rw [if_pos rfl, ← e8]; exact e9
  · show _ = some (if i = j then v else f i); rw [if_neg hj, ← e8, e6 _ hj]; exact r i hi
theorem Av.congr {a : Addr} {ty : FieldType} {n : Nat} {f g : Nat → Value} (F : Av Z h a ty n f) (q : ∀ i, i < n → f i = g i) : Av Z h a ty n g := by obtain ⟨c, A, r, u⟩ := F; exact ⟨c, A, r, fun i hi => by rw [u i hi, q i hi]⟩
theorem na {aty : ArrayType} {z : Int32} (cap : Nat) (X : Pn p l e R s m args below meth c T h n0 cells slots) (hx : p.tables.exec = Jvm.exec) (hZ : Z.Warmed39 s.vm) (w : (Cond.arrayClass (newarray.typeOf aty)).before a0 Z = true) (hd : decode c.code pc = .ok (.newarray aty, 2)) (hp : pc + 2 = pc') (hz : ¬ z < 0) (hcap : z.toNatClampNeg ≤ cap) (hb : cap * 8 ≤ 536870912) (hc : cells + 1 ≤ R.cells) (hl : slots + cap ≤ R.slots)
    (k : ∀ T' h' b, Pn p l e R s m args below meth c T' h' n0 (cells + 1) (slots + cap) → b = h.size → n0 ≤ b → Ext h h' → Av Z h' b (newarray.typeOf aty) z.toNatClampNeg (fun _ => defaultValue (newarray.typeOf aty)) → Go p e s below n0 Q R T' (mkF m pc' Ls (.ref b :: S))) :
    Go p e s below n0 Q R T (mkF m pc Ls (.int z :: S)) := by
  subst hp
  have q := X.le
  obtain ⟨e0, hn, locs, Y, N⟩ := X
  obtain ⟨T', h', k', Y', e', E', A', st⟩ := newP Y hx hZ w e0 (g := mkF m pc Ls (.int z :: S)) rfl hd rfl hz hcap hb hc hl
  refine stp st (k T' h' _ ⟨e', hn, _, Y', N⟩ rfl q E' ⟨_, A', sz_new _ _ _, fun i hi => ?_⟩)
  simp [newA, hi]
theorem len {a : Addr} {ty : FieldType} {n : Nat} {f : Nat → Value} (z : Int32) (X : Pn p l e R s m args below meth c T h n0 cells slots) (hx : p.tables.exec = Jvm.exec) (hZ : Z.Warmed39 s.vm) (A : Av Z h a ty n f) (hz : n.toInt32 = z) (hd : decode c.code pc = .ok (.arraylength, 1)) (hp : pc + 1 = pc')
    (k : Go p e s below n0 Q R T (mkF m pc' Ls (.int z :: S))) : Go p e s below n0 Q R T (mkF m pc Ls (.ref a :: S)) := by
  subst hp hz
  obtain ⟨e0, hn, locs, Y, N⟩ := X
  obtain ⟨cl, Ar, S0, r⟩ := A
  subst S0
  exact stp (fun t q => Y.arraylength hx (by rw [e0]; exact Ar.1) (State.isArrayOf_alike hZ.alike Ar.2.1) (g := mkF m pc Ls (.ref a :: S)) rfl rfl hd t q) k
theorem inn {cl : Cell} {n : Nat} {j : Int32} (S0 : cl.slots.size = n) (q : ¬ j < 0) (r : j.toNatClampNeg < n) : ¬ (j < 0 ∨ cl.slots.size ≤ j.toNatClampNeg) := fun u => u.elim q fun v => by omega
theorem ldI {a : Addr} {n : Nat} {f : Nat → Value} {j : Int32} {v : Value} (X : Pn p l e R s m args below meth c T h n0 cells slots) (hx : p.tables.exec = Jvm.exec) (hZ : Z.Warmed39 s.vm) (A : Av Z h a .int n f) (q : ¬ j < 0) (r : j.toNatClampNeg < n) (hv : f j.toNatClampNeg = v) (hd : decode c.code pc = .ok (.iaload, 1)) (hp : pc + 1 = pc')
    (k : Go p e s below n0 Q R T (mkF m pc' Ls (v :: S))) : Go p e s below n0 Q R T (mkF m pc Ls (.int j :: .ref a :: S)) := by
  subst hp hv
  obtain ⟨e0, hn, locs, Y, N⟩ := X
  obtain ⟨cl, Ar, S0, u⟩ := A
  exact stp (fun t y => Y.iaload hx (by rw [e0]; exact Ar.1) (State.isArrayOf_alike hZ.alike Ar.2.1) Ar.2.2 (inn S0 q r) (u _ r) (g := mkF m pc Ls (.int j :: .ref a :: S)) rfl rfl hd t y) k
theorem ldJ {a : Addr} {n : Nat} {f : Nat → Value} {j : Int32} {v : Value} (X : Pn p l e R s m args below meth c T h n0 cells slots) (hx : p.tables.exec = Jvm.exec) (hZ : Z.Warmed39 s.vm) (A : Av Z h a .long n f) (q : ¬ j < 0) (r : j.toNatClampNeg < n) (hv : f j.toNatClampNeg = v) (hd : decode c.code pc = .ok (.laload, 1)) (hp : pc + 1 = pc')
    (k : Go p e s below n0 Q R T (mkF m pc' Ls (v :: S))) : Go p e s below n0 Q R T (mkF m pc Ls (.int j :: .ref a :: S)) := by
  subst hp hv
  obtain ⟨e0, hn, locs, Y, N⟩ := X
  obtain ⟨cl, Ar, S0, u⟩ := A
  exact stp (fun t y => Y.laload hx (by rw [e0]; exact Ar.1) (State.isArrayOf_alike hZ.alike Ar.2.1) Ar.2.2 (inn S0 q r) (u _ r) (g := mkF m pc Ls (.int j :: .ref a :: S)) rfl rfl hd t y) k
theorem ldB {a : Addr} {n : Nat} {f : Nat → Value} {j : Int32} {v : Value} (X : Pn p l e R s m args below meth c T h n0 cells slots) (hx : p.tables.exec = Jvm.exec) (hZ : Z.Warmed39 s.vm) (A : Av Z h a .byte n f) (q : ¬ j < 0) (r : j.toNatClampNeg < n) (hv : f j.toNatClampNeg = v) (hd : decode c.code pc = .ok (.baload, 1)) (hp : pc + 1 = pc')
    (k : Go p e s below n0 Q R T (mkF m pc' Ls (v :: S))) : Go p e s below n0 Q R T (mkF m pc Ls (.int j :: .ref a :: S)) := by
  subst hp hv
  obtain ⟨e0, hn, locs, Y, N⟩ := X
  obtain ⟨cl, Ar, S0, u⟩ := A
  exact stp (fun t y => Y.baloadBytes hx (by rw [e0]; exact Ar.1) (State.isArrayOf_alike hZ.alike Ar.2.1) Ar.2.2 (inn S0 q r) (u _ r) (g := mkF m pc Ls (.int j :: .ref a :: S)) rfl rfl hd t y) k
theorem ldR {a : Addr} {ty : FieldType} {n : Nat} {f : Nat → Value} {j : Int32} {v : Value} (X : Pn p l e R s m args below meth c T h n0 cells slots) (hx : p.tables.exec = Jvm.exec) (hZ : Z.Warmed39 s.vm) (A : Av Z h a ty n f) (hty : ty.isReference = true) (q : ¬ j < 0) (r : j.toNatClampNeg < n) (hv : f j.toNatClampNeg = v) (hd : decode c.code pc = .ok (.aaload, 1)) (hp : pc + 1 = pc')
    (k : Go p e s below n0 Q R T (mkF m pc' Ls (v :: S))) : Go p e s below n0 Q R T (mkF m pc Ls (.int j :: .ref a :: S)) := by
  subst hp hv
  obtain ⟨e0, hn, locs, Y, N⟩ := X
  obtain ⟨cl, Ar, S0, u⟩ := A
  exact stp (fun t y => Y.aaload hx (by rw [e0]; exact Ar.1) (State.isArrayOf_alike hZ.alike Ar.2.1) hty Ar.2.2 (inn S0 q r) (u _ r) (g := mkF m pc Ls (.int j :: .ref a :: S)) rfl rfl hd t y) k
theorem saI {a : Addr} {n : Nat} {f : Nat → Value} {j x : Int32} (X : Pn p l e R s m args below meth c T h n0 cells slots) (hx : p.tables.exec = Jvm.exec) (hZ : Z.Warmed39 s.vm) (A : Av Z h a .int n f) (ge : n0 ≤ a) (q : ¬ j < 0) (r : j.toNatClampNeg < n) (hd : decode c.code pc = .ok (.iastore, 1)) (hp : pc + 1 = pc')
    (k : ∀ T' h', Pn p l e R s m args below meth c T' h' n0 cells slots → Wr h h' a j.toNatClampNeg (.int x) → Go p e s below n0 Q R T' (mkF m pc' Ls S)) : Go p e s below n0 Q R T (mkF m pc Ls (.int x :: .int j :: .ref a :: S)) := by
  subst hp
  obtain ⟨e0, hn, locs, Y, N⟩ := X
  obtain ⟨cl, Ar, S0, u⟩ := A
  obtain ⟨T', h', Y', e', W', st⟩ := stI Y hx hZ e0 Ar (inn S0 q r) (g := mkF m pc Ls (.int x :: .int j :: .ref a :: S)) rfl rfl hd
  exact stp st (k T' h' ⟨e', hn, _, Y', Fr.snoc Y' N ge⟩ W')
theorem saJ {a : Addr} {n : Nat} {f : Nat → Value} {j : Int32} {x : Int64} (X : Pn p l e R s m args below meth c T h n0 cells slots) (hx : p.tables.exec = Jvm.exec) (hZ : Z.Warmed39 s.vm) (A : Av Z h a .long n f) (ge : n0 ≤ a) (q : ¬ j < 0) (r : j.toNatClampNeg < n) (hd : decode c.code pc = .ok (.lastore, 1)) (hp : pc + 1 = pc')
    (k : ∀ T' h', Pn p l e R s m args below meth c T' h' n0 cells slots → Wr h h' a j.toNatClampNeg (.long x) → Go p e s below n0 Q R T' (mkF m pc' Ls S)) : Go p e s below n0 Q R T (mkF m pc Ls (.long x :: .int j :: .ref a :: S)) := by
  subst hp
  obtain ⟨e0, hn, locs, Y, N⟩ := X
  obtain ⟨cl, Ar, S0, u⟩ := A
  obtain ⟨T', h', Y', e', W', st⟩ := stJ Y hx hZ e0 Ar (inn S0 q r) (g := mkF m pc Ls (.long x :: .int j :: .ref a :: S)) rfl rfl hd
  exact stp st (k T' h' ⟨e', hn, _, Y', Fr.snoc Y' N ge⟩ W')
theorem saB {a : Addr} {n : Nat} {f : Nat → Value} {j x : Int32} (X : Pn p l e R s m args below meth c T h n0 cells slots) (hx : p.tables.exec = Jvm.exec) (hZ : Z.Warmed39 s.vm) (A : Av Z h a .byte n f) (ge : n0 ≤ a) (q : ¬ j < 0) (r : j.toNatClampNeg < n) (hd : decode c.code pc = .ok (.bastore, 1)) (hp : pc + 1 = pc')
    (k : ∀ T' h', Pn p l e R s m args below meth c T' h' n0 cells slots → Wr h h' a j.toNatClampNeg (.int x.toInt8.toInt32) → Go p e s below n0 Q R T' (mkF m pc' Ls S)) : Go p e s below n0 Q R T (mkF m pc Ls (.int x :: .int j :: .ref a :: S)) := by
  subst hp
  obtain ⟨e0, hn, locs, Y, N⟩ := X
  obtain ⟨cl, Ar, S0, u⟩ := A
  obtain ⟨T', h', Y', e', W', st⟩ := stB Y hx hZ e0 Ar (inn S0 q r) (g := mkF m pc Ls (.int x :: .int j :: .ref a :: S)) rfl rfl hd
  exact stp st (k T' h' ⟨e', hn, _, Y', Fr.snoc Y' N ge⟩ W')
/-! arrays of references: the class is known too -/
def AvR (Z : State) (h : Heap) (a : Addr) (C : String) (n : Nat) (f : Nat → Value) : Prop := ∃ c : Cell, Arr Z h a c (.object C) ∧ Ovr Z c.cls C ∧ c.slots.size = n ∧ ∀ i, i < n → c.slots[i]? = some (f i)
theorem AvR.lt {a : Addr} {C : String} {n : Nat} {f : Nat → Value} (F : AvR Z h a C n f) : a < h.size := by obtain ⟨c, A, -⟩ := F; exact A.lt
theorem AvR.av {a : Addr} {C : String} {n : Nat} {f : Nat → Value} (F : AvR Z h a C n f) : Av Z h a (.object C) n f := by obtain ⟨c, A, -, r⟩ := F; exact ⟨c, A, r⟩
theorem AvR.ext {h' : Heap} {a : Addr} {C : String} {n : Nat} {f : Nat → Value} (F : AvR Z h a C n f) (E : Ext h h') : AvR Z h' a C n f := by obtain ⟨c, A, r⟩ := F; exact ⟨c, A.ext E, r⟩
theorem AvR.other {h' : Heap} {a b : Addr} {C : String} {n sl : Nat} {v : Value} {f : Nat → Value} (F : AvR Z h b C n f) (W : Wr h h' a sl v) (q : b ≠ a) : AvR Z h' b C n f := by obtain ⟨c, A, r⟩ := F; exact ⟨c, A.other W q, r⟩
theorem AvR.set {h' : Heap} {a : Addr} {C : String} {n k : Nat} {j : Int32} {v : Value} {f : Nat → Value} (e : j.toNatClampNeg = k) (F : AvR Z h a C n f) (W : Wr h h' a j.toNatClampNeg v) : AvR Z h' a C n (fun i => if i = k then v else f i) := by
  subst e
  obtain ⟨c, A, O, q, r⟩ := F
  refine ⟨c.setSlot j.toNatClampNeg v, A.same W, O, by rw [sz_set]; exact q, fun i hi => ?_⟩
  obtain ⟨c', e1, -, -, -, -, e6, e7⟩ := wr_at W A.1
  obtain ⟨e8, e9, -⟩ := e7 rfl
  by_cases hj : i = j.toNatClampNeg
  · subst hj; show _ = some (if j.toNatClampNeg = j.toNatClampNeg then v else f j.toNatClampNeg); rw [if_pos rfl, ← e8]; exact e9
  · show _ = some (if i = j.toNatClampNeg then v else f i); rw [if_neg hj, ← e8, e6 _ hj]; exact r i hi
theorem nr {own C : String} {index : Nat} {z : Int32} (cap : Nat) (X : Pn p l e R s m args below meth c T h n0 cells slots) (hx : p.tables.exec = Jvm.exec) (hZ : Z.Warmed39 s.vm) (hown : s.vm.findClass own = some m.cls) (w1 : (Cond.classLink own index C).before a0 Z = true) (w2 : (Cond.arrayOver (.object C)).before a0 Z = true) (hd : decode c.code pc = .ok (.anewarray index, 3)) (hp : pc + 3 = pc') (hz : ¬ z < 0) (hcap : z.toNatClampNeg ≤ cap) (hb : cap * 8 ≤ 536870912) (hc : cells + 1 ≤ R.cells) (hl : slots + cap ≤ R.slots)
    (k : ∀ T' h' b, Pn p l e R s m args below meth c T' h' n0 (cells + 1) (slots + cap) → b = h.size → n0 ≤ b → Ext h h' → AvR Z h' b C z.toNatClampNeg (fun _ => .null) → Go p e s below n0 Q R T' (mkF m pc' Ls (.ref b :: S))) :
    Go p e s below n0 Q R T (mkF m pc Ls (.int z :: S)) := by
  subst hp
  have q := X.le
  obtain ⟨e0, hn, locs, Y, N⟩ := X
  obtain ⟨T', h', k', Y', e', E', A', O', st⟩ := newR Y hx hZ hown w1 w2 e0 (g := mkF m pc Ls (.int z :: S)) rfl hd rfl hz hcap hb hc hl
  refine stp st (k T' h' _ ⟨e', hn, _, Y', N⟩ rfl q E' ⟨_, A', O', sz_new _ _ _, fun i hi => ?_⟩)
  simp [newA, hi, defaultValue]
theorem saR {a y : Addr} {C : String} {n : Nat} {f : Nat → Value} {j : Int32} (X : Pn p l e R s m args below meth c T h n0 cells slots) (hx : p.tables.exec = Jvm.exec) (hZ : Z.Warmed39 s.vm) (A : AvR Z h a C n f) (I : Ins Z h y C true) (ge : n0 ≤ a) (q : ¬ j < 0) (r : j.toNatClampNeg < n) (hd : decode c.code pc = .ok (.aastore, 1)) (hp : pc + 1 = pc')
    (k : ∀ T' h', Pn p l e R s m args below meth c T' h' n0 cells slots → Wr h h' a j.toNatClampNeg (.ref y) → Go p e s below n0 Q R T' (mkF m pc' Ls S)) : Go p e s below n0 Q R T (mkF m pc Ls (.ref y :: .int j :: .ref a :: S)) := by
  subst hp
  obtain ⟨e0, hn, locs, Y, N⟩ := X
  obtain ⟨cl, Ar, O, S0, u⟩ := A
  obtain ⟨T', h', Y', e', W', st⟩ := stR Y hx hZ e0 Ar (inn S0 q r) rfl (Sto.of Ar O I) (g := mkF m pc Ls (.ref y :: .int j :: .ref a :: S)) rfl rfl hd
  exact stp st (k T' h' ⟨e', hn, _, Y', Fr.snoc Y' N ge⟩ W')
theorem i_iadd {x y : Int32} (X : Pn p l e R s m args below meth c T h n0 cells slots) (hx : p.tables.exec = Jvm.exec) (hd : decode c.code pc = .ok (.iadd, 1)) (hp : pc + 1 = pc')
    (k : Go p e s below n0 Q R T (mkF m pc' Ls (.int (x + y) :: S))) : Go p e s below n0 Q R T (mkF m pc Ls (.int y :: .int x :: S)) := by subst hp; exact stp (fun _ q => XS.iadd X.here hx rfl hd rfl q) k
theorem i_isub {x y : Int32} (X : Pn p l e R s m args below meth c T h n0 cells slots) (hx : p.tables.exec = Jvm.exec) (hd : decode c.code pc = .ok (.isub, 1)) (hp : pc + 1 = pc')
    (k : Go p e s below n0 Q R T (mkF m pc' Ls (.int (x - y) :: S))) : Go p e s below n0 Q R T (mkF m pc Ls (.int y :: .int x :: S)) := by subst hp; exact stp (fun _ q => XS.isub X.here hx rfl hd rfl q) k
theorem i_imul {x y : Int32} (X : Pn p l e R s m args below meth c T h n0 cells slots) (hx : p.tables.exec = Jvm.exec) (hd : decode c.code pc = .ok (.imul, 1)) (hp : pc + 1 = pc')
    (k : Go p e s below n0 Q R T (mkF m pc' Ls (.int (x * y) :: S))) : Go p e s below n0 Q R T (mkF m pc Ls (.int y :: .int x :: S)) := by subst hp; exact stp (fun _ q => XS.imul X.here hx rfl hd rfl q) k
theorem i_iand {x y : Int32} (X : Pn p l e R s m args below meth c T h n0 cells slots) (hx : p.tables.exec = Jvm.exec) (hd : decode c.code pc = .ok (.iand, 1)) (hp : pc + 1 = pc')
    (k : Go p e s below n0 Q R T (mkF m pc' Ls (.int (x &&& y) :: S))) : Go p e s below n0 Q R T (mkF m pc Ls (.int y :: .int x :: S)) := by subst hp; exact stp (fun _ q => XS.iand X.here hx rfl hd rfl q) k
theorem i_ior {x y : Int32} (X : Pn p l e R s m args below meth c T h n0 cells slots) (hx : p.tables.exec = Jvm.exec) (hd : decode c.code pc = .ok (.ior, 1)) (hp : pc + 1 = pc')
    (k : Go p e s below n0 Q R T (mkF m pc' Ls (.int (x ||| y) :: S))) : Go p e s below n0 Q R T (mkF m pc Ls (.int y :: .int x :: S)) := by subst hp; exact stp (fun _ q => XT.ior X.here hx rfl hd rfl q) k
theorem i_ixor {x y : Int32} (X : Pn p l e R s m args below meth c T h n0 cells slots) (hx : p.tables.exec = Jvm.exec) (hd : decode c.code pc = .ok (.ixor, 1)) (hp : pc + 1 = pc')
    (k : Go p e s below n0 Q R T (mkF m pc' Ls (.int (x ^^^ y) :: S))) : Go p e s below n0 Q R T (mkF m pc Ls (.int y :: .int x :: S)) := by subst hp; exact stp (fun _ q => XT.ixor X.here hx rfl hd rfl q) k
theorem i_ishl {x y : Int32} (X : Pn p l e R s m args below meth c T h n0 cells slots) (hx : p.tables.exec = Jvm.exec) (hd : decode c.code pc = .ok (.ishl, 1)) (hp : pc + 1 = pc')
    (k : Go p e s below n0 Q R T (mkF m pc' Ls (.int (x <<< (y &&& 31)) :: S))) : Go p e s below n0 Q R T (mkF m pc Ls (.int y :: .int x :: S)) := by subst hp; exact stp (fun _ q => XT.ishl X.here hx rfl hd rfl q) k
theorem i_ishr {x y : Int32} (X : Pn p l e R s m args below meth c T h n0 cells slots) (hx : p.tables.exec = Jvm.exec) (hd : decode c.code pc = .ok (.ishr, 1)) (hp : pc + 1 = pc')
    (k : Go p e s below n0 Q R T (mkF m pc' Ls (.int (x >>> (y &&& 31)) :: S))) : Go p e s below n0 Q R T (mkF m pc Ls (.int y :: .int x :: S)) := by subst hp; exact stp (fun _ q => XT.ishr X.here hx rfl hd rfl q) k
theorem i_iushr {x y : Int32} (X : Pn p l e R s m args below meth c T h n0 cells slots) (hx : p.tables.exec = Jvm.exec) (hd : decode c.code pc = .ok (.iushr, 1)) (hp : pc + 1 = pc')
    (k : Go p e s below n0 Q R T (mkF m pc' Ls (.int (XT.ushr x y) :: S))) : Go p e s below n0 Q R T (mkF m pc Ls (.int y :: .int x :: S)) := by subst hp; exact stp (fun _ q => XT.iushr X.here hx rfl hd rfl q) k
theorem i_ladd {x y : Int64} (X : Pn p l e R s m args below meth c T h n0 cells slots) (hx : p.tables.exec = Jvm.exec) (hd : decode c.code pc = .ok (.ladd, 1)) (hp : pc + 1 = pc')
    (k : Go p e s below n0 Q R T (mkF m pc' Ls (.long (x + y) :: S))) : Go p e s below n0 Q R T (mkF m pc Ls (.long y :: .long x :: S)) := by subst hp; exact stp (fun _ q => XT.ladd X.here hx rfl hd rfl q) k
theorem i_lsub {x y : Int64} (X : Pn p l e R s m args below meth c T h n0 cells slots) (hx : p.tables.exec = Jvm.exec) (hd : decode c.code pc = .ok (.lsub, 1)) (hp : pc + 1 = pc')
    (k : Go p e s below n0 Q R T (mkF m pc' Ls (.long (x - y) :: S))) : Go p e s below n0 Q R T (mkF m pc Ls (.long y :: .long x :: S)) := by subst hp; exact stp (fun _ q => XT.lsub X.here hx rfl hd rfl q) k
theorem i_lmul {x y : Int64} (X : Pn p l e R s m args below meth c T h n0 cells slots) (hx : p.tables.exec = Jvm.exec) (hd : decode c.code pc = .ok (.lmul, 1)) (hp : pc + 1 = pc')
    (k : Go p e s below n0 Q R T (mkF m pc' Ls (.long (x * y) :: S))) : Go p e s below n0 Q R T (mkF m pc Ls (.long y :: .long x :: S)) := by subst hp; exact stp (fun _ q => XT.lmul X.here hx rfl hd rfl q) k
theorem i_land {x y : Int64} (X : Pn p l e R s m args below meth c T h n0 cells slots) (hx : p.tables.exec = Jvm.exec) (hd : decode c.code pc = .ok (.land, 1)) (hp : pc + 1 = pc')
    (k : Go p e s below n0 Q R T (mkF m pc' Ls (.long (x &&& y) :: S))) : Go p e s below n0 Q R T (mkF m pc Ls (.long y :: .long x :: S)) := by subst hp; exact stp (fun _ q => XT.land X.here hx rfl hd rfl q) k
theorem i_lor {x y : Int64} (X : Pn p l e R s m args below meth c T h n0 cells slots) (hx : p.tables.exec = Jvm.exec) (hd : decode c.code pc = .ok (.lor, 1)) (hp : pc + 1 = pc')
    (k : Go p e s below n0 Q R T (mkF m pc' Ls (.long (x ||| y) :: S))) : Go p e s below n0 Q R T (mkF m pc Ls (.long y :: .long x :: S)) := by subst hp; exact stp (fun _ q => XT.lor X.here hx rfl hd rfl q) k
theorem i_lxor {x y : Int64} (X : Pn p l e R s m args below meth c T h n0 cells slots) (hx : p.tables.exec = Jvm.exec) (hd : decode c.code pc = .ok (.lxor, 1)) (hp : pc + 1 = pc')
    (k : Go p e s below n0 Q R T (mkF m pc' Ls (.long (x ^^^ y) :: S))) : Go p e s below n0 Q R T (mkF m pc Ls (.long y :: .long x :: S)) := by subst hp; exact stp (fun _ q => XT.lxor X.here hx rfl hd rfl q) k
theorem i_lshl {x : Int64} {y : Int32} (X : Pn p l e R s m args below meth c T h n0 cells slots) (hx : p.tables.exec = Jvm.exec) (hd : decode c.code pc = .ok (.lshl, 1)) (hp : pc + 1 = pc')
    (k : Go p e s below n0 Q R T (mkF m pc' Ls (.long (x <<< (y.toInt64 &&& 63)) :: S))) : Go p e s below n0 Q R T (mkF m pc Ls (.int y :: .long x :: S)) := by subst hp; exact stp (fun _ q => XT.lshl X.here hx rfl hd rfl q) k
theorem i_lshr {x : Int64} {y : Int32} (X : Pn p l e R s m args below meth c T h n0 cells slots) (hx : p.tables.exec = Jvm.exec) (hd : decode c.code pc = .ok (.lshr, 1)) (hp : pc + 1 = pc')
    (k : Go p e s below n0 Q R T (mkF m pc' Ls (.long (x >>> (y.toInt64 &&& 63)) :: S))) : Go p e s below n0 Q R T (mkF m pc Ls (.int y :: .long x :: S)) := by subst hp; exact stp (fun _ q => XT.lshr X.here hx rfl hd rfl q) k
theorem i_lushr {x : Int64} {y : Int32} (X : Pn p l e R s m args below meth c T h n0 cells slots) (hx : p.tables.exec = Jvm.exec) (hd : decode c.code pc = .ok (.lushr, 1)) (hp : pc + 1 = pc')
    (k : Go p e s below n0 Q R T (mkF m pc' Ls (.long (XT.ushrL x y) :: S))) : Go p e s below n0 Q R T (mkF m pc Ls (.int y :: .long x :: S)) := by subst hp; exact stp (fun _ q => XT.lushr X.here hx rfl hd rfl q) k
theorem i_idiv {x y : Int32} (X : Pn p l e R s m args below meth c T h n0 cells slots) (hx : p.tables.exec = Jvm.exec) (hd : decode c.code pc = .ok (.idiv, 1)) (hp : pc + 1 = pc') (hy : y ≠ 0)
    (k : Go p e s below n0 Q R T (mkF m pc' Ls (.int (x / y) :: S))) : Go p e s below n0 Q R T (mkF m pc Ls (.int y :: .int x :: S)) := by subst hp; exact stp (fun _ q => XS.idiv X.here hx rfl hd rfl hy q) k
theorem i_ldiv {x y : Int64} (X : Pn p l e R s m args below meth c T h n0 cells slots) (hx : p.tables.exec = Jvm.exec) (hd : decode c.code pc = .ok (.ldiv, 1)) (hp : pc + 1 = pc') (hy : y ≠ 0)
    (k : Go p e s below n0 Q R T (mkF m pc' Ls (.long (x / y) :: S))) : Go p e s below n0 Q R T (mkF m pc Ls (.long y :: .long x :: S)) := by subst hp; exact stp (fun _ q => XT.ldiv X.here hx rfl hd rfl hy q) k
theorem i_lrem {x y : Int64} (X : Pn p l e R s m args below meth c T h n0 cells slots) (hx : p.tables.exec = Jvm.exec) (hd : decode c.code pc = .ok (.lrem, 1)) (hp : pc + 1 = pc') (hy : y ≠ 0)
    (k : Go p e s below n0 Q R T (mkF m pc' Ls (.long (x - (x / y) * y) :: S))) : Go p e s below n0 Q R T (mkF m pc Ls (.long y :: .long x :: S)) := by subst hp; exact stp (fun _ q => XT.lrem X.here hx rfl hd rfl hy q) k
theorem i_irem {x y : Int32} (X : Pn p l e R s m args below meth c T h n0 cells slots) (hx : p.tables.exec = Jvm.exec) (hd : decode c.code pc = .ok (.irem, 1)) (hp : pc + 1 = pc') (hy : y ≠ 0)
    (k : Go p e s below n0 Q R T (mkF m pc' Ls (.int (x % y) :: S))) : Go p e s below n0 Q R T (mkF m pc Ls (.int y :: .int x :: S)) := by subst hp; obtain ⟨e0, hn, locs, Y, N⟩ := X; exact stp (fun _ q => iremM Y hx rfl hd rfl hy q) k
theorem i_ineg {x : Int32} (X : Pn p l e R s m args below meth c T h n0 cells slots) (hx : p.tables.exec = Jvm.exec) (hd : decode c.code pc = .ok (.ineg, 1)) (hp : pc + 1 = pc')
    (k : Go p e s below n0 Q R T (mkF m pc' Ls (.int (-x) :: S))) : Go p e s below n0 Q R T (mkF m pc Ls (.int x :: S)) := by subst hp; exact stp (fun _ q => XS.ineg X.here hx rfl hd rfl q) k
theorem i_lneg {x : Int64} (X : Pn p l e R s m args below meth c T h n0 cells slots) (hx : p.tables.exec = Jvm.exec) (hd : decode c.code pc = .ok (.lneg, 1)) (hp : pc + 1 = pc')
    (k : Go p e s below n0 Q R T (mkF m pc' Ls (.long (-x) :: S))) : Go p e s below n0 Q R T (mkF m pc Ls (.long x :: S)) := by subst hp; exact stp (fun _ q => XT.lneg X.here hx rfl hd rfl q) k
theorem i_i2l {x : Int32} (X : Pn p l e R s m args below meth c T h n0 cells slots) (hx : p.tables.exec = Jvm.exec) (hd : decode c.code pc = .ok (.i2l, 1)) (hp : pc + 1 = pc')
    (k : Go p e s below n0 Q R T (mkF m pc' Ls (.long x.toInt64 :: S))) : Go p e s below n0 Q R T (mkF m pc Ls (.int x :: S)) := by subst hp; exact stp (fun _ q => XT.i2l X.here hx rfl hd rfl q) k
theorem i_l2i {x : Int64} (X : Pn p l e R s m args below meth c T h n0 cells slots) (hx : p.tables.exec = Jvm.exec) (hd : decode c.code pc = .ok (.l2i, 1)) (hp : pc + 1 = pc')
    (k : Go p e s below n0 Q R T (mkF m pc' Ls (.int x.toInt32 :: S))) : Go p e s below n0 Q R T (mkF m pc Ls (.long x :: S)) := by subst hp; exact stp (fun _ q => XT.l2i X.here hx rfl hd rfl q) k
theorem i_i2b {x : Int32} (X : Pn p l e R s m args below meth c T h n0 cells slots) (hx : p.tables.exec = Jvm.exec) (hd : decode c.code pc = .ok (.i2b, 1)) (hp : pc + 1 = pc')
    (k : Go p e s below n0 Q R T (mkF m pc' Ls (.int x.toInt8.toInt32 :: S))) : Go p e s below n0 Q R T (mkF m pc Ls (.int x :: S)) := by subst hp; exact stp (fun _ q => XT.i2b X.here hx rfl hd rfl q) k
theorem i_i2c {x : Int32} (X : Pn p l e R s m args below meth c T h n0 cells slots) (hx : p.tables.exec = Jvm.exec) (hd : decode c.code pc = .ok (.i2c, 1)) (hp : pc + 1 = pc')
    (k : Go p e s below n0 Q R T (mkF m pc' Ls (.int x.toUInt32.toUInt16.toUInt32.toInt32 :: S))) : Go p e s below n0 Q R T (mkF m pc Ls (.int x :: S)) := by subst hp; exact stp (fun _ q => XT.i2c X.here hx rfl hd rfl q) k
theorem i_i2s {x : Int32} (X : Pn p l e R s m args below meth c T h n0 cells slots) (hx : p.tables.exec = Jvm.exec) (hd : decode c.code pc = .ok (.i2s, 1)) (hp : pc + 1 = pc')
    (k : Go p e s below n0 Q R T (mkF m pc' Ls (.int x.toInt16.toInt32 :: S))) : Go p e s below n0 Q R T (mkF m pc Ls (.int x :: S)) := by subst hp; exact stp (fun _ q => XT.i2s X.here hx rfl hd rfl q) k
theorem i_lcmp {x y : Int64} (X : Pn p l e R s m args below meth c T h n0 cells slots) (hx : p.tables.exec = Jvm.exec) (hd : decode c.code pc = .ok (.lcmp, 1)) (hp : pc + 1 = pc')
    (k : Go p e s below n0 Q R T (mkF m pc' Ls (.int (XT.cmpL x y) :: S))) : Go p e s below n0 Q R T (mkF m pc Ls (.long y :: .long x :: S)) := by subst hp; exact stp (fun _ q => XT.lcmp X.here hx rfl hd rfl q) k
theorem i_aloadN {k : Fin 4} {v : Value} (X : Pn p l e R s m args below meth c T h n0 cells slots) (hx : p.tables.exec = Jvm.exec) (hd : decode c.code pc = .ok (.aload_n k, 1)) (hp : pc + 1 = pc') (hl : Ls[k.val]? = some (.val v)) (hv : v.isRef = true)
    (k : Go p e s below n0 Q R T (mkF m pc' Ls (v :: S))) : Go p e s below n0 Q R T (mkF m pc Ls S) := by subst hp; exact stp (fun _ q => XS.aloadN X.here hx rfl hd hl hv q) k
theorem i_aload {k : Nat} {v : Value} (X : Pn p l e R s m args below meth c T h n0 cells slots) (hx : p.tables.exec = Jvm.exec) (hd : decode c.code pc = .ok (.aload k, 2)) (hp : pc + 2 = pc') (hl : Ls[k]? = some (.val v)) (hv : v.isRef = true)
    (k : Go p e s below n0 Q R T (mkF m pc' Ls (v :: S))) : Go p e s below n0 Q R T (mkF m pc Ls S) := by subst hp; exact stp (fun _ q => XS.aload X.here hx rfl hd hl hv q) k
theorem i_iloadN {k : Fin 4} {v : Int32} (X : Pn p l e R s m args below meth c T h n0 cells slots) (hx : p.tables.exec = Jvm.exec) (hd : decode c.code pc = .ok (.iload_n k, 1)) (hp : pc + 1 = pc') (hl : Ls[k.val]? = some (.val (.int v)))
    (k : Go p e s below n0 Q R T (mkF m pc' Ls (.int v :: S))) : Go p e s below n0 Q R T (mkF m pc Ls S) := by subst hp; exact stp (fun _ q => XS.iloadN X.here hx rfl hd hl q) k
theorem i_iload {k : Nat} {v : Int32} (X : Pn p l e R s m args below meth c T h n0 cells slots) (hx : p.tables.exec = Jvm.exec) (hd : decode c.code pc = .ok (.iload k, 2)) (hp : pc + 2 = pc') (hl : Ls[k]? = some (.val (.int v)))
    (k : Go p e s below n0 Q R T (mkF m pc' Ls (.int v :: S))) : Go p e s below n0 Q R T (mkF m pc Ls S) := by subst hp; exact stp (fun _ q => XS.iload X.here hx rfl hd hl q) k
theorem i_lloadN {k : Fin 4} {v : Int64} (X : Pn p l e R s m args below meth c T h n0 cells slots) (hx : p.tables.exec = Jvm.exec) (hd : decode c.code pc = .ok (.lload_n k, 1)) (hp : pc + 1 = pc') (hl : Ls[k.val]? = some (.val (.long v)))
    (k : Go p e s below n0 Q R T (mkF m pc' Ls (.long v :: S))) : Go p e s below n0 Q R T (mkF m pc Ls S) := by subst hp; exact stp (fun _ q => XT.lloadN X.here hx rfl hd hl q) k
theorem i_lload {k : Nat} {v : Int64} (X : Pn p l e R s m args below meth c T h n0 cells slots) (hx : p.tables.exec = Jvm.exec) (hd : decode c.code pc = .ok (.lload k, 2)) (hp : pc + 2 = pc') (hl : Ls[k]? = some (.val (.long v)))
    (k : Go p e s below n0 Q R T (mkF m pc' Ls (.long v :: S))) : Go p e s below n0 Q R T (mkF m pc Ls S) := by subst hp; exact stp (fun _ q => XT.lload X.here hx rfl hd hl q) k
theorem i_istoreN {k : Fin 4} {x : Int32} {L' : Array Slot} (X : Pn p l e R s m args below meth c T h n0 cells slots) (hx : p.tables.exec = Jvm.exec) (hd : decode c.code pc = .ok (.istore_n k, 1)) (hp : pc + 1 = pc') (hl : storeLocals Ls k.val (.int x) = some L')
    (k : Go p e s below n0 Q R T (mkF m pc' L' S)) : Go p e s below n0 Q R T (mkF m pc Ls (.int x :: S)) := by subst hp; exact stp (fun _ q => XS.istoreN X.here hx rfl hd rfl hl q) k
theorem i_istore {k : Nat} {x : Int32} {L' : Array Slot} (X : Pn p l e R s m args below meth c T h n0 cells slots) (hx : p.tables.exec = Jvm.exec) (hd : decode c.code pc = .ok (.istore k, 2)) (hp : pc + 2 = pc') (hl : storeLocals Ls k (.int x) = some L')
    (k : Go p e s below n0 Q R T (mkF m pc' L' S)) : Go p e s below n0 Q R T (mkF m pc Ls (.int x :: S)) := by subst hp; exact stp (fun _ q => XS.istore X.here hx rfl hd rfl hl q) k
theorem i_lstoreN {k : Fin 4} {x : Int64} {L' : Array Slot} (X : Pn p l e R s m args below meth c T h n0 cells slots) (hx : p.tables.exec = Jvm.exec) (hd : decode c.code pc = .ok (.lstore_n k, 1)) (hp : pc + 1 = pc') (hl : storeLocals Ls k.val (.long x) = some L')
    (k : Go p e s below n0 Q R T (mkF m pc' L' S)) : Go p e s below n0 Q R T (mkF m pc Ls (.long x :: S)) := by subst hp; exact stp (fun _ q => XT.lstoreN X.here hx rfl hd rfl hl q) k
theorem i_lstore {k : Nat} {x : Int64} {L' : Array Slot} (X : Pn p l e R s m args below meth c T h n0 cells slots) (hx : p.tables.exec = Jvm.exec) (hd : decode c.code pc = .ok (.lstore k, 2)) (hp : pc + 2 = pc') (hl : storeLocals Ls k (.long x) = some L')
    (k : Go p e s below n0 Q R T (mkF m pc' L' S)) : Go p e s below n0 Q R T (mkF m pc Ls (.long x :: S)) := by subst hp; exact stp (fun _ q => XT.lstore X.here hx rfl hd rfl hl q) k
theorem i_astoreN {k : Fin 4} {x : Value} {L' : Array Slot} (X : Pn p l e R s m args below meth c T h n0 cells slots) (hx : p.tables.exec = Jvm.exec) (hd : decode c.code pc = .ok (.astore_n k, 1)) (hp : pc + 1 = pc') (hv : x.isRef = true) (hl : storeLocals Ls k.val x = some L')
    (k : Go p e s below n0 Q R T (mkF m pc' L' S)) : Go p e s below n0 Q R T (mkF m pc Ls (x :: S)) := by subst hp; exact stp (fun _ q => XS.astoreN X.here hx rfl hd rfl hv hl q) k
theorem i_astore {k : Nat} {x : Value} {L' : Array Slot} (X : Pn p l e R s m args below meth c T h n0 cells slots) (hx : p.tables.exec = Jvm.exec) (hd : decode c.code pc = .ok (.astore k, 2)) (hp : pc + 2 = pc') (hv : x.isRef = true) (hl : storeLocals Ls k x = some L')
    (k : Go p e s below n0 Q R T (mkF m pc' L' S)) : Go p e s below n0 Q R T (mkF m pc Ls (x :: S)) := by subst hp; exact stp (fun _ q => XS.astore X.here hx rfl hd rfl hv hl q) k
theorem i_iconst {i : Int} (v : Int32) (X : Pn p l e R s m args below meth c T h n0 cells slots) (hx : p.tables.exec = Jvm.exec) (hd : decode c.code pc = .ok (.iconst i, 1)) (hp : pc + 1 = pc') (hv : Int32.ofInt i = v)
    (k : Go p e s below n0 Q R T (mkF m pc' Ls (.int v :: S))) : Go p e s below n0 Q R T (mkF m pc Ls S) := by subst hp; exact stp (fun _ q => XT.iconstV X.here hx rfl v hd hv q) k
theorem i_bipush {i : Int} (v : Int32) (X : Pn p l e R s m args below meth c T h n0 cells slots) (hx : p.tables.exec = Jvm.exec) (hd : decode c.code pc = .ok (.bipush i, 2)) (hp : pc + 2 = pc') (hv : (Int8.ofInt i).toInt32 = v)
    (k : Go p e s below n0 Q R T (mkF m pc' Ls (.int v :: S))) : Go p e s below n0 Q R T (mkF m pc Ls S) := by subst hp; exact stp (fun _ q => XT.bipushV X.here hx rfl v hd hv q) k
theorem i_sipush {i : Int} (v : Int32) (X : Pn p l e R s m args below meth c T h n0 cells slots) (hx : p.tables.exec = Jvm.exec) (hd : decode c.code pc = .ok (.sipush i, 3)) (hp : pc + 3 = pc') (hv : (Int16.ofInt i).toInt32 = v)
    (k : Go p e s below n0 Q R T (mkF m pc' Ls (.int v :: S))) : Go p e s below n0 Q R T (mkF m pc Ls S) := by subst hp; exact stp (fun _ q => XT.sipushV X.here hx rfl v hd hv q) k
theorem i_lconst {i : Fin 2} (v : Int64) (X : Pn p l e R s m args below meth c T h n0 cells slots) (hx : p.tables.exec = Jvm.exec) (hd : decode c.code pc = .ok (.lconst i, 1)) (hp : pc + 1 = pc') (hv : Int64.ofNat i = v)
    (k : Go p e s below n0 Q R T (mkF m pc' Ls (.long v :: S))) : Go p e s below n0 Q R T (mkF m pc Ls S) := by subst hp; exact stp (fun _ q => XT.lconstV X.here hx rfl v hd hv q) k
theorem i_aconstNull (X : Pn p l e R s m args below meth c T h n0 cells slots) (hx : p.tables.exec = Jvm.exec) (hd : decode c.code pc = .ok (.aconst_null, 1)) (hp : pc + 1 = pc')
    (k : Go p e s below n0 Q R T (mkF m pc' Ls (.null :: S))) : Go p e s below n0 Q R T (mkF m pc Ls S) := by subst hp; exact stp (fun _ q => XS.aconstNull X.here hx rfl hd q) k
theorem i_iinc {i : Nat} {cst : Int} {x : Int32} {L' : Array Slot} (v : Int32) (X : Pn p l e R s m args below meth c T h n0 cells slots) (hx : p.tables.exec = Jvm.exec) (hd : decode c.code pc = .ok (.iinc i cst, 3)) (hp : pc + 3 = pc') (hv : Int32.ofInt cst = v) (hl : Ls[i]? = some (.val (.int x))) (hl' : storeLocals Ls i (.int (x + v)) = some L')
    (k : Go p e s below n0 Q R T (mkF m pc' L' S)) : Go p e s below n0 Q R T (mkF m pc Ls S) := by subst hp; exact stp (fun _ q => XT.iincV X.here hx rfl v hd hv hl hl' q) k
theorem i_ldc {own : String} {i : Nat} (v : Int32) (X : Pn p l e R s m args below meth c T h n0 cells slots) (hx : p.tables.exec = Jvm.exec) (hZ : Z.Warmed39 s.vm) (hown : s.vm.findClass own = some m.cls) (w : (Cond.constant own i v).before a0 Z = true) (hd : decode c.code pc = .ok (.ldc i, 2)) (hp : pc + 2 = pc')
    (k : Go p e s below n0 Q R T (mkF m pc' Ls (.int v :: S))) : Go p e s below n0 Q R T (mkF m pc Ls S) := by subst hp; obtain ⟨e0, hn, locs, Y, N⟩ := X; exact stp (fun _ q => Y.ldcI hx hown (mv hZ w) (g := mkF m pc Ls S) rfl hd q) k
theorem i_ldcW {own : String} {i : Nat} (v : Int32) (X : Pn p l e R s m args below meth c T h n0 cells slots) (hx : p.tables.exec = Jvm.exec) (hZ : Z.Warmed39 s.vm) (hown : s.vm.findClass own = some m.cls) (w : (Cond.constant own i v).before a0 Z = true) (hd : decode c.code pc = .ok (.ldc_w i, 3)) (hp : pc + 3 = pc')
    (k : Go p e s below n0 Q R T (mkF m pc' Ls (.int v :: S))) : Go p e s below n0 Q R T (mkF m pc Ls S) := by subst hp; obtain ⟨e0, hn, locs, Y, N⟩ := X; exact stp (fun _ q => Y.ldcWI hx hown (mv hZ w) (g := mkF m pc Ls S) rfl hd q) k
theorem i_ldc2 {own : String} {i : Nat} (v : Int64) (X : Pn p l e R s m args below meth c T h n0 cells slots) (hx : p.tables.exec = Jvm.exec) (hZ : Z.Warmed39 s.vm) (hown : s.vm.findClass own = some m.cls) (w : (Cond.constantLong own i v).before a0 Z = true) (hd : decode c.code pc = .ok (.ldc2_w i, 3)) (hp : pc + 3 = pc')
    (k : Go p e s below n0 Q R T (mkF m pc' Ls (.long v :: S))) : Go p e s below n0 Q R T (mkF m pc Ls S) := by subst hp; obtain ⟨e0, hn, locs, Y, N⟩ := X; exact stp (fun _ q => Y.ldc2J hx hown (mv hZ w) (g := mkF m pc Ls S) rfl hd q) k
theorem i_dup {x : Value} (X : Pn p l e R s m args below meth c T h n0 cells slots) (hx : p.tables.exec = Jvm.exec) (hd : decode c.code pc = .ok (.dup, 1)) (hp : pc + 1 = pc') (hc : x.category = 1)
    (k : Go p e s below n0 Q R T (mkF m pc' Ls (x :: x :: S))) : Go p e s below n0 Q R T (mkF m pc Ls (x :: S)) := by subst hp; exact stp (fun _ q => XS.dup X.here hx rfl hd rfl hc q) k
theorem i_pop {x : Value} (X : Pn p l e R s m args below meth c T h n0 cells slots) (hx : p.tables.exec = Jvm.exec) (hd : decode c.code pc = .ok (.pop, 1)) (hp : pc + 1 = pc') (hc : x.category = 1)
    (k : Go p e s below n0 Q R T (mkF m pc' Ls S)) : Go p e s below n0 Q R T (mkF m pc Ls (x :: S)) := by subst hp; exact stp (fun _ q => XT.pop X.here hx rfl hd rfl hc q) k
theorem i_dupX1 {x y : Value} (X : Pn p l e R s m args below meth c T h n0 cells slots) (hx : p.tables.exec = Jvm.exec) (hd : decode c.code pc = .ok (.dup_x1, 1)) (hp : pc + 1 = pc') (hc : x.category = 1) (hc' : y.category = 1)
    (k : Go p e s below n0 Q R T (mkF m pc' Ls (x :: y :: x :: S))) : Go p e s below n0 Q R T (mkF m pc Ls (x :: y :: S)) := by subst hp; exact stp (fun _ q => XT.dupX1 X.here hx rfl hd rfl hc hc' q) k
theorem i_dup2 {x y : Value} (X : Pn p l e R s m args below meth c T h n0 cells slots) (hx : p.tables.exec = Jvm.exec) (hd : decode c.code pc = .ok (.dup2, 1)) (hp : pc + 1 = pc') (hc : x.category = 1) (hc' : y.category = 1)
    (k : Go p e s below n0 Q R T (mkF m pc' Ls (x :: y :: x :: y :: S))) : Go p e s below n0 Q R T (mkF m pc Ls (x :: y :: S)) := by subst hp; exact stp (fun _ q => XT.dup2 X.here hx rfl hd rfl hc hc' q) k
theorem i_dup2L {x : Int64} (X : Pn p l e R s m args below meth c T h n0 cells slots) (hx : p.tables.exec = Jvm.exec) (hd : decode c.code pc = .ok (.dup2, 1)) (hp : pc + 1 = pc')
    (k : Go p e s below n0 Q R T (mkF m pc' Ls (.long x :: .long x :: S))) : Go p e s below n0 Q R T (mkF m pc Ls (.long x :: S)) := by subst hp; exact stp (fun _ q => XT.dup2L X.here hx rfl hd rfl q) k
theorem i_goto {o : Int} (X : Pn p l e R s m args below meth c T h n0 cells slots) (hx : p.tables.exec = Jvm.exec) (hd : decode c.code pc = .ok (.goto o, 3)) (ho : 0 ≤ (pc : Int) + o) (hp : ((pc : Int) + o).toNat = pc')
    (k : Go p e s below n0 Q R T (mkF m pc' Ls S)) : Go p e s below n0 Q R T (mkF m pc Ls S) := stp (fun _ q => XS.goto X.here hx rfl rfl hd ho hp q) k
theorem i_ifT {cd : ClassFile.Cond} {o : Int} {x : Int32} (X : Pn p l e R s m args below meth c T h n0 cells slots) (hx : p.tables.exec = Jvm.exec) (hd : decode c.code pc = .ok (.ifCond cd o, 3)) (hc : ifCond.holds cd x = true) (ho : 0 ≤ (pc : Int) + o) (hp : ((pc : Int) + o).toNat = pc')
    (k : Go p e s below n0 Q R T (mkF m pc' Ls S)) : Go p e s below n0 Q R T (mkF m pc Ls (.int x :: S)) := stp (fun _ q => XS.ifYes X.here hx rfl rfl hd rfl hc ho hp q) k
theorem i_ifF {cd : ClassFile.Cond} {o : Int} {x : Int32} (X : Pn p l e R s m args below meth c T h n0 cells slots) (hx : p.tables.exec = Jvm.exec) (hd : decode c.code pc = .ok (.ifCond cd o, 3)) (hp : pc + 3 = pc') (hc : ifCond.holds cd x = false)
    (k : Go p e s below n0 Q R T (mkF m pc' Ls S)) : Go p e s below n0 Q R T (mkF m pc Ls (.int x :: S)) := by subst hp; exact stp (fun _ q => XS.ifNo X.here hx rfl hd rfl hc q) k
theorem i_icT {cd : ClassFile.Cond} {o : Int} {x y : Int32} (X : Pn p l e R s m args below meth c T h n0 cells slots) (hx : p.tables.exec = Jvm.exec) (hd : decode c.code pc = .ok (.if_icmp cd o, 3)) (hc : if_icmp.holds cd x y = true) (ho : 0 ≤ (pc : Int) + o) (hp : ((pc : Int) + o).toNat = pc')
    (k : Go p e s below n0 Q R T (mkF m pc' Ls S)) : Go p e s below n0 Q R T (mkF m pc Ls (.int y :: .int x :: S)) := stp (fun _ q => XS.icmpYes X.here hx rfl rfl hd rfl hc ho hp q) k
theorem i_icF {cd : ClassFile.Cond} {o : Int} {x y : Int32} (X : Pn p l e R s m args below meth c T h n0 cells slots) (hx : p.tables.exec = Jvm.exec) (hd : decode c.code pc = .ok (.if_icmp cd o, 3)) (hp : pc + 3 = pc') (hc : if_icmp.holds cd x y = false)
    (k : Go p e s below n0 Q R T (mkF m pc' Ls S)) : Go p e s below n0 Q R T (mkF m pc Ls (.int y :: .int x :: S)) := by subst hp; exact stp (fun _ q => XS.icmpNo X.here hx rfl hd rfl hc q) k
theorem i_acT {cd : ClassFile.ACond} {o : Int} {x y : Value} (X : Pn p l e R s m args below meth c T h n0 cells slots) (hx : p.tables.exec = Jvm.exec) (hd : decode c.code pc = .ok (.if_acmp cd o, 3)) (hx' : x.isRef = true) (hy' : y.isRef = true) (hc : XT.acmp cd x y = true) (ho : 0 ≤ (pc : Int) + o) (hp : ((pc : Int) + o).toNat = pc')
    (k : Go p e s below n0 Q R T (mkF m pc' Ls S)) : Go p e s below n0 Q R T (mkF m pc Ls (y :: x :: S)) := stp (fun _ q => XT.acmpYes X.here hx rfl rfl hd rfl hx' hy' hc ho hp q) k
theorem i_acF {cd : ClassFile.ACond} {o : Int} {x y : Value} (X : Pn p l e R s m args below meth c T h n0 cells slots) (hx : p.tables.exec = Jvm.exec) (hd : decode c.code pc = .ok (.if_acmp cd o, 3)) (hp : pc + 3 = pc') (hx' : x.isRef = true) (hy' : y.isRef = true) (hc : XT.acmp cd x y = false)
    (k : Go p e s below n0 Q R T (mkF m pc' Ls S)) : Go p e s below n0 Q R T (mkF m pc Ls (y :: x :: S)) := by subst hp; exact stp (fun _ q => XT.acmpNo X.here hx rfl hd rfl hx' hy' hc q) k
theorem i_nuT {o : Int} {x : Value} (X : Pn p l e R s m args below meth c T h n0 cells slots) (hx : p.tables.exec = Jvm.exec) (hd : decode c.code pc = .ok (.ifnull o, 3)) (hv : x = .null) (ho : 0 ≤ (pc : Int) + o) (hp : ((pc : Int) + o).toNat = pc')
    (k : Go p e s below n0 Q R T (mkF m pc' Ls S)) : Go p e s below n0 Q R T (mkF m pc Ls (x :: S)) := stp (fun _ q => XT.nullYes X.here hx rfl rfl hd rfl hv ho hp q) k
theorem i_nuF {o : Int} {x : Value} (X : Pn p l e R s m args below meth c T h n0 cells slots) (hx : p.tables.exec = Jvm.exec) (hd : decode c.code pc = .ok (.ifnull o, 3)) (hp : pc + 3 = pc') (hr : x.isRef = true) (hv : ¬ x = .null)
    (k : Go p e s below n0 Q R T (mkF m pc' Ls S)) : Go p e s below n0 Q R T (mkF m pc Ls (x :: S)) := by subst hp; exact stp (fun _ q => XT.nullNo X.here hx rfl hd rfl hr hv q) k
theorem i_nnT {o : Int} {x : Value} (X : Pn p l e R s m args below meth c T h n0 cells slots) (hx : p.tables.exec = Jvm.exec) (hd : decode c.code pc = .ok (.ifnonnull o, 3)) (hr : x.isRef = true) (hv : ¬ x = .null) (ho : 0 ≤ (pc : Int) + o) (hp : ((pc : Int) + o).toNat = pc')
    (k : Go p e s below n0 Q R T (mkF m pc' Ls S)) : Go p e s below n0 Q R T (mkF m pc Ls (x :: S)) := stp (fun _ q => XT.nonnullYes X.here hx rfl rfl hd rfl hr hv ho hp q) k
theorem i_nnF {o : Int} {x : Value} (X : Pn p l e R s m args below meth c T h n0 cells slots) (hx : p.tables.exec = Jvm.exec) (hd : decode c.code pc = .ok (.ifnonnull o, 3)) (hp : pc + 3 = pc') (hv : x = .null)
    (k : Go p e s below n0 Q R T (mkF m pc' Ls S)) : Go p e s below n0 Q R T (mkF m pc Ls (x :: S)) := by subst hp; exact stp (fun _ q => XT.nonnullNo X.here hx rfl hd rfl hv q) k
theorem i_tsI {dflt low high : Int} {offs : Array Int} {ln : Nat} {o : Int} {x : Int32} (X : Pn p l e R s m args below meth c T h n0 cells slots) (hx : p.tables.exec = Jvm.exec) (hd : decode c.code pc = .ok (.tableswitch dflt low high offs, ln)) (hin : ¬ (x.toInt < low ∨ x.toInt > high)) (hoff : offs[(x.toInt - low).toNat]? = some o) (ho : 0 ≤ (pc : Int) + o) (hp : ((pc : Int) + o).toNat = pc')
    (k : Go p e s below n0 Q R T (mkF m pc' Ls S)) : Go p e s below n0 Q R T (mkF m pc Ls (.int x :: S)) := stp (fun _ q => XS.tswIn X.here hx rfl rfl hd rfl hin hoff ho hp q) k
theorem i_tsO {dflt low high : Int} {offs : Array Int} {ln : Nat} {x : Int32} (X : Pn p l e R s m args below meth c T h n0 cells slots) (hx : p.tables.exec = Jvm.exec) (hd : decode c.code pc = .ok (.tableswitch dflt low high offs, ln)) (hout : x.toInt < low ∨ x.toInt > high) (ho : 0 ≤ (pc : Int) + dflt) (hp : ((pc : Int) + dflt).toNat = pc')
    (k : Go p e s below n0 Q R T (mkF m pc' Ls S)) : Go p e s below n0 Q R T (mkF m pc Ls (.int x :: S)) := stp (fun _ q => XS.tswOut X.here hx rfl rfl hd rfl hout ho hp q) k
theorem own_irr (x : Int32) : ¬ x < x := Int32.lt_irrefl
theorem own_nar {t : FieldType} {w : Value} (h : w.isRef = true) : narrow t w = w := by rcases XT.refc h with rfl | ⟨_, rfl⟩ <;> cases t <;> rfl
theorem own_fitO {C : String} {w : Value} (h : w.isRef = true) : fits (.object C) w = true := by rcases XT.refc h with rfl | ⟨_, rfl⟩ <;> rfl
theorem own_fitA {t : FieldType} {w : Value} (h : w.isRef = true) : fits (.array t) w = true := by rcases XT.refc h with rfl | ⟨_, rfl⟩ <;> rfl
theorem own_sta_keep {h' : Heap} {ws : List Addr} {C n d : String} {v : Value} (F : Sta Z h C n d v) (K : Keep h h' ws) (q : ∀ (a : Addr) (cl : Cell), a ∈ ws → h[a]? = some cl → cl.vm.isStatics = false) : Sta Z h' C n d v := by
  obtain ⟨cf, i, k, f, st, cell, h1, h2, h3, h4, h5, h6, h7⟩ := F
  refine ⟨cf, i, k, f, st, cell, h1, h2, h3, h4, K.2.1 st cell h5 (fun hm => ?_), h6, h7⟩
  rw [q st cell hm h5] at h6; cases h6
theorem own_sw3 {x : Int32} (h0 : ¬ x = (0 : Int32)) (h1 : ¬ x = (1 : Int32)) (h2 : ¬ x = (2 : Int32)) : x.toInt < 0 ∨ x.toInt > 2 := by
  have a : ¬ x.toInt = 0 := fun q => h0 (Int32.toInt_inj.mp q)
  have b : ¬ x.toInt = 1 := fun q => h1 (Int32.toInt_inj.mp q)
  have c : ¬ x.toInt = 2 := fun q => h2 (Int32.toInt_inj.mp q)
  omega
def Two (a b : Slot) : Prop := (a = .unset ∧ b = .unset) ∨ ∃ z, a = .val (.long z) ∧ b = .second
theorem Two.u : Two .unset .unset := Or.inl ⟨rfl, rfl⟩
theorem Two.v (z : Int64) : Two (.val (.long z)) .second := Or.inr ⟨z, rfl, rfl⟩
theorem own_nar1 : nar .boolean 1 = 1 := by decide
theorem own_nar0 : nar .boolean 0 = 0 := by decide
end Own
end Jvm.OwnKit
namespace Jvm.Pilot.@@N@@
open Jvm Jvm.ClassFile Sem Op Lib Jvm.Free Jvm.Stand Jvm.LawKit Jvm.RoadKit Jvm.OwnKit Bundle Jvm.Pilot.@@N@@.Jvm.D
theorem own_lt (x y : Int32) : x < y ↔ x.toInt < y.toInt := Int32.lt_iff_toInt_lt
def own_pair (r b : Int32) (i : Nat) : Value := .int (if i = 0 then r else b)
theorem own_p0 (r b : Int32) : own_pair r b (0 : Int32).toNatClampNeg = .int r := rfl
theorem own_p1 (r b : Int32) : own_pair r b (1 : Int32).toNatClampNeg = .int b := rfl
theorem own_new0 {Z : State} {h h' : Heap} {a : Addr} {x : Int32} (A : Av Z h a .int 2 (fun _ => .int 0)) (W : Wr h h' a (0 : Int32).toNatClampNeg (.int x)) : Av Z h' a .int 2 (own_pair x 0) :=
  (A.same W).congr fun i hi => by rcases i with _ | _ | i <;> first | rfl | omega
theorem own_set0 {Z : State} {h h' : Heap} {a : Addr} {r b x : Int32} (A : Av Z h a .int 2 (own_pair r b)) (W : Wr h h' a (0 : Int32).toNatClampNeg (.int x)) : Av Z h' a .int 2 (own_pair x b) :=
  (A.same W).congr fun i hi => by rcases i with _ | _ | i <;> first | rfl | omega
theorem own_set1 {Z : State} {h h' : Heap} {a : Addr} {r b x : Int32} (A : Av Z h a .int 2 (own_pair r b)) (W : Wr h h' a (1 : Int32).toNatClampNeg (.int x)) : Av Z h' a .int 2 (own_pair r x) :=
  (A.same W).congr fun i hi => by rcases i with _ | _ | i <;> first | rfl | omega
def own_ans (x : Int32) : Int32 := if x < 0 then (1 : Int32) + (x &&& (7 : Int32)) else (1 : Int32) + (x &&& (536870911 : Int32))
theorem own_ans1 (x : Int32) : 1 ≤ (own_ans x).toInt := by
  unfold own_ans
  have a := c_and x 7 (by decide)
  have b := c_and x 536870911 (by decide)
  have c1 : (7 : Int32).toInt = 7 := by decide
  have c2 : (536870911 : Int32).toInt = 536870911 := by decide
  have c3 : (1 : Int32).toInt = 1 := by decide
  split
  · rw [XT.add32 (by unfold XT.fits32; omega)]; omega
  · rw [XT.add32 (by unfold XT.fits32; omega)]; omega
def own_min (x y : Int32) : Int32 := if y < x then y else x
def own_max (x y : Int32) : Int32 := if x < y then y else x
theorem own_two (r : Int32) : (2 : Int32) * r = r + r := by
  have e : (2 : Int32).toInt = 2 := by decide
  refine Int32.toInt_inj.mp ?_
  rw [Int32.toInt_mul, Int32.toInt_add, e]
  congr 1; omega
theorem d7_0 : decode jdk_29_method_69_code 0 = .ok (.iload_n 0, 1) := by decide +kernel
theorem d7_1 : decode jdk_29_method_69_code 1 = .ok (.iload_n 1, 1) := by decide +kernel
theorem d7_2 : decode jdk_29_method_69_code 2 = .ok (.if_icmp .gt 7, 3) := by decide +kernel
theorem d7_5 : decode jdk_29_method_69_code 5 = .ok (.iload_n 0, 1) := by decide +kernel
theorem d7_6 : decode jdk_29_method_69_code 6 = .ok (.goto 4, 3) := by decide +kernel
theorem d7_9 : decode jdk_29_method_69_code 9 = .ok (.iload_n 1, 1) := by decide +kernel
theorem d7_10 : decode jdk_29_method_69_code 10 = .ok (.ireturn, 1) := by decide +kernel
theorem ef_rmMin (m : MethodId) (x : Int32) (y : Int32) : entryFrame m #[(.int x), (.int y)] 2 = mkF m 0 #[.val (.int x), .val (.int y)] [] := by first | (simp [entryFrame, mkF, argsToLocals, Value.category, maxLocals]; done) | rfl
def QrmMin (Z : State) (x : Int32) (y : Int32) (n0 : Nat) (h0 : Heap) (rv : Option Value) (h : Heap) : Prop := rv = some (.int (own_min x y)) ∧ h0 = h
abbrev RrmMin : Room := { frames := 0, cells := 0, slots := 0, locals := 0 }
set_option maxRecDepth 65536 in
set_option maxHeartbeats 40000000 in
theorem rmMin (l : Launch) (Z : State) (a0 : Array Value) (hw : ∀ d ∈ tables_1, d.before a0 Z = true) (ws : List Jvm.Cond) (x : Int32) (y : Int32) (n0 : Nat) (h0 : Heap) (hn : n0 ≤ h0.size)   :
    Con l Z (⟨"java/lang/Math", "min", "(II)I"⟩ : MethodName) jdk_29_method_69_code 2 (some .int) ws RrmMin #[(.int x), (.int y)] h0 n0 (QrmMin Z x y n0 h0) := by
  refine body (y := (⟨"java/lang/Math", "min", "(II)I"⟩ : MethodName)) (Ls := #[.val (.int x), .val (.int y)]) (by first | exact Jvm.Free.JP.mathPlain rfl (by decide) | decide +kernel) hn (fun m => ef_rmMin m x y) ?_
  intro p e s m below meth c T0 hx hby hml hown hnm hret hlk hZ X0
  refine i_iloadN (v := x) (pc' := 1) X0 hx (hb hby d7_0) rfl rfl ?_
  refine i_iloadN (v := y) (pc' := 2) X0 hx (hb hby d7_1) rfl rfl ?_
  by_cases hc1 : y < x
  · skip
    refine i_icT (pc' := 9) X0 hx (hb hby d7_2) (XT.ii_gt_t hc1) (by decide) (by decide) ?_
    refine i_iloadN (v := y) (pc' := 10) X0 hx (hb hby d7_9) rfl rfl ?_
    refine rI X0 hx hlk hret (hb hby d7_10) (by decide) (by decide) ?_
    exact ⟨(by simp [own_min, hc1]), rfl⟩
  · skip
    refine i_icF (pc' := 5) X0 hx (hb hby d7_2) rfl (XT.ii_gt_f hc1) ?_
    refine i_iloadN (v := x) (pc' := 6) X0 hx (hb hby d7_5) rfl rfl ?_
    refine i_goto (pc' := 10) X0 hx (hb hby d7_6) (by decide) (by decide) ?_
    refine rI X0 hx hlk hret (hb hby d7_10) (by decide) (by decide) ?_
    exact ⟨(by simp [own_min, hc1]), rfl⟩
theorem d6_0 : decode jdk_29_method_65_code 0 = .ok (.iload_n 0, 1) := by decide +kernel
theorem d6_1 : decode jdk_29_method_65_code 1 = .ok (.iload_n 1, 1) := by decide +kernel
theorem d6_2 : decode jdk_29_method_65_code 2 = .ok (.if_icmp .lt 7, 3) := by decide +kernel
theorem d6_5 : decode jdk_29_method_65_code 5 = .ok (.iload_n 0, 1) := by decide +kernel
theorem d6_6 : decode jdk_29_method_65_code 6 = .ok (.goto 4, 3) := by decide +kernel
theorem d6_9 : decode jdk_29_method_65_code 9 = .ok (.iload_n 1, 1) := by decide +kernel
theorem d6_10 : decode jdk_29_method_65_code 10 = .ok (.ireturn, 1) := by decide +kernel
theorem ef_rmMax (m : MethodId) (x : Int32) (y : Int32) : entryFrame m #[(.int x), (.int y)] 2 = mkF m 0 #[.val (.int x), .val (.int y)] [] := by first | (simp [entryFrame, mkF, argsToLocals, Value.category, maxLocals]; done) | rfl
def QrmMax (Z : State) (x : Int32) (y : Int32) (n0 : Nat) (h0 : Heap) (rv : Option Value) (h : Heap) : Prop := rv = some (.int (own_max x y)) ∧ h0 = h
abbrev RrmMax : Room := { frames := 0, cells := 0, slots := 0, locals := 0 }
set_option maxRecDepth 65536 in
set_option maxHeartbeats 40000000 in
theorem rmMax (l : Launch) (Z : State) (a0 : Array Value) (hw : ∀ d ∈ tables_1, d.before a0 Z = true) (ws : List Jvm.Cond) (x : Int32) (y : Int32) (n0 : Nat) (h0 : Heap) (hn : n0 ≤ h0.size)   :
    Con l Z (⟨"java/lang/Math", "max", "(II)I"⟩ : MethodName) jdk_29_method_65_code 2 (some .int) ws RrmMax #[(.int x), (.int y)] h0 n0 (QrmMax Z x y n0 h0) := by
  refine body (y := (⟨"java/lang/Math", "max", "(II)I"⟩ : MethodName)) (Ls := #[.val (.int x), .val (.int y)]) (by first | exact Jvm.Free.JP.mathPlain rfl (by decide) | decide +kernel) hn (fun m => ef_rmMax m x y) ?_
  intro p e s m below meth c T0 hx hby hml hown hnm hret hlk hZ X0
  refine i_iloadN (v := x) (pc' := 1) X0 hx (hb hby d6_0) rfl rfl ?_
  refine i_iloadN (v := y) (pc' := 2) X0 hx (hb hby d6_1) rfl rfl ?_
  by_cases hc1 : x < y
  · skip
    refine i_icT (pc' := 9) X0 hx (hb hby d6_2) (XT.ii_lt_t hc1) (by decide) (by decide) ?_
    refine i_iloadN (v := y) (pc' := 10) X0 hx (hb hby d6_9) rfl rfl ?_
    refine rI X0 hx hlk hret (hb hby d6_10) (by decide) (by decide) ?_
    exact ⟨(by simp [own_max, hc1]), rfl⟩
  · skip
    refine i_icF (pc' := 5) X0 hx (hb hby d6_2) rfl (XT.ii_lt_f hc1) ?_
    refine i_iloadN (v := x) (pc' := 6) X0 hx (hb hby d6_5) rfl rfl ?_
    refine i_goto (pc' := 10) X0 hx (hb hby d6_6) (by decide) (by decide) ?_
    refine rI X0 hx hlk hret (hb hby d6_10) (by decide) (by decide) ?_
    exact ⟨(by simp [own_max, hc1]), rfl⟩
theorem d1_0 : decode prog_5_method_1_code 0 = .ok (.aload_n 0, 1) := by decide +kernel
theorem d1_1 : decode prog_5_method_1_code 1 = .ok (.invokespecial 1, 3) := by decide +kernel
theorem d1_4 : decode prog_5_method_1_code 4 = .ok (.aload_n 0, 1) := by decide +kernel
theorem d1_5 : decode prog_5_method_1_code 5 = .ok (.sipush 1000, 3) := by decide +kernel
theorem d1_8 : decode prog_5_method_1_code 8 = .ok (.putfield 9, 3) := by decide +kernel
theorem d1_11 : decode prog_5_method_1_code 11 = .ok (.return_, 1) := by decide +kernel
theorem pn0 : plainName "com/example/forefetch/forefetch/BatchWindow" = true := by first | (simp [plainName, overriddenIn]; done) | decide +kernel
theorem ef_rm1 (m : MethodId) (o : Addr) : entryFrame m #[(.ref o)] 1 = mkF m 0 #[.val (.ref o)] [] := by first | (simp [entryFrame, mkF, argsToLocals, Value.category, maxLocals]; done) | rfl
def Qrm1 (Z : State) (o : Addr) (n0 : Nat) (h0 : Heap) (rv : Option Value) (h : Heap) : Prop := rv = none ∧ Keep h0 h [o] ∧ Fld Z h o "com/example/forefetch/forefetch/BatchWindow" "rows" "I" (.int (1000 : Int32)) ∧ Fld Z h o "com/example/forefetch/forefetch/BatchWindow" "staleAfterFirst" "Z" (.int (0 : Int32))
abbrev Rrm1 : Room := { frames := 1, cells := 0, slots := 0, locals := 12 }
set_option maxRecDepth 65536 in
set_option maxHeartbeats 40000000 in
theorem rm1 (l : Launch) (Z : State) (a0 : Array Value) (hw : ∀ d ∈ tables_1, d.before a0 Z = true) (ws : List Jvm.Cond) (o : Addr) (n0 : Nat) (h0 : Heap) (hn : n0 ≤ h0.size) (H0 : Exa Z h0 o "com/example/forefetch/forefetch/BatchWindow") (H1 : Fld Z h0 o "com/example/forefetch/forefetch/BatchWindow" "rows" "I" (.int (0 : Int32))) (H2 : Fld Z h0 o "com/example/forefetch/forefetch/BatchWindow" "staleAfterFirst" "Z" (.int (0 : Int32))) (H3 : n0 ≤ o)  :
    Con l Z (⟨"com/example/forefetch/forefetch/BatchWindow", "<init>", "()V"⟩ : MethodName) prog_5_method_1_code 1 none ws Rrm1 #[(.ref o)] h0 n0 (Qrm1 Z o n0 h0) := by
  refine body (y := (⟨"com/example/forefetch/forefetch/BatchWindow", "<init>", "()V"⟩ : MethodName)) (Ls := #[.val (.ref o)]) (plainFor_of_name pn0) hn (fun m => ef_rm1 m o) ?_
  intro p e s m below meth c T0 hx hby hml hown hnm hret hlk hZ X0
  refine i_aloadN (v := (.ref o)) (pc' := 1) X0 hx (hb hby d1_0) rfl rfl rfl ?_
  refine oi (pc' := 4) (W := 0) X0 hx hZ hown (hw _ (List.mem_of_getElem? (i := 6) rfl)) (hw _ (List.mem_of_getElem? (i := 7) rfl)) (hw _ (List.mem_of_getElem? (i := 8) rfl)) (by rw [hml]; rfl) (hb hby d1_1) rfl (by decide) (Nat.le_of_eq rfl) (by decide) fun T1 X1 => ?_
  refine i_aloadN (v := (.ref o)) (pc' := 5) X1 hx (hb hby d1_4) rfl rfl rfl ?_
  refine i_sipush (pc' := 8) (1000 : Int32) X1 hx (hb hby d1_5) rfl (by decide) ?_
  refine pf (pc' := 11) (host := "") (ty := .int) X1 hx hZ hown (Or.inl (hw _ (List.mem_of_getElem? (i := 9) rfl))) Via.refl H1 H0 (Or.inl (hw _ (List.mem_of_getElem? (i := 10) rfl))) (hw _ (List.mem_of_getElem? (i := 1) rfl)) (by decide) rfl rfl H3 (hb hby d1_8) rfl fun T2 h2 X2 W2 => ?_
  refine rV X2 hx hlk hret (hb hby d1_11) (by decide) (by decide) ?_
  have F3 : Fld Z h2 o "com/example/forefetch/forefetch/BatchWindow" "rows" "I" (.int (1000 : Int32)) := (Jvm.RoadKit.Fld.same W2 H1)
  have F4 : Fld Z h2 o "com/example/forefetch/forefetch/BatchWindow" "staleAfterFirst" "Z" (.int (0 : Int32)) := (Jvm.RoadKit.Fld.other W2 H2 (Or.inr (slot_ne (a0 := a0) (Or.inl (hw _ (List.mem_of_getElem? (i := 26) rfl))) (Or.inl (hw _ (List.mem_of_getElem? (i := 10) rfl))) (by decide) (t := .boolean) (t' := .int) (by decide) (by decide))))
  exact ⟨rfl, ((Keep.refl h0 _).wr W2 (Or.inl (List.mem_of_getElem? (i := 0) rfl))), F3, F4⟩
theorem d8_0 : decode prog_5_method_2_code 0 = .ok (.aload_n 0, 1) := by decide +kernel
theorem d8_1 : decode prog_5_method_2_code 1 = .ok (.getfield 9, 3) := by decide +kernel
theorem d8_4 : decode prog_5_method_2_code 4 = .ok (.ireturn, 1) := by decide +kernel
theorem ef_rm3 (m : MethodId) (o : Addr) : entryFrame m #[(.ref o)] 1 = mkF m 0 #[.val (.ref o)] [] := by first | (simp [entryFrame, mkF, argsToLocals, Value.category, maxLocals]; done) | rfl
def Qrm3 (Z : State) (o : Addr) (r : Int32) (n0 : Nat) (h0 : Heap) (rv : Option Value) (h : Heap) : Prop := rv = some (.int r) ∧ h0 = h
abbrev Rrm3 : Room := { frames := 0, cells := 0, slots := 0, locals := 0 }
set_option maxRecDepth 65536 in
set_option maxHeartbeats 40000000 in
theorem rm3 (l : Launch) (Z : State) (a0 : Array Value) (hw : ∀ d ∈ tables_1, d.before a0 Z = true) (ws : List Jvm.Cond) (o : Addr) (r : Int32) (n0 : Nat) (h0 : Heap) (hn : n0 ≤ h0.size) (H0 : Fld Z h0 o "com/example/forefetch/forefetch/BatchWindow" "rows" "I" (.int r))  :
    Con l Z (⟨"com/example/forefetch/forefetch/BatchWindow", "rows", "()I"⟩ : MethodName) prog_5_method_2_code 1 (some .int) ws Rrm3 #[(.ref o)] h0 n0 (Qrm3 Z o r n0 h0) := by
  refine body (y := (⟨"com/example/forefetch/forefetch/BatchWindow", "rows", "()I"⟩ : MethodName)) (Ls := #[.val (.ref o)]) (plainFor_of_name pn0) hn (fun m => ef_rm3 m o) ?_
  intro p e s m below meth c T0 hx hby hml hown hnm hret hlk hZ X0
  refine i_aloadN (v := (.ref o)) (pc' := 1) X0 hx (hb hby d8_0) rfl rfl rfl ?_
  refine gf (pc' := 4) (host := "") X0 hx hZ hown (Or.inl (hw _ (List.mem_of_getElem? (i := 9) rfl))) Via.refl H0 (hb hby d8_1) rfl fun T1 X1 => ?_
  refine rI X1 hx hlk hret (hb hby d8_4) (by decide) (by decide) ?_
  exact ⟨rfl, rfl⟩
theorem d9_0 : decode prog_5_method_4_code 0 = .ok (.aload_n 0, 1) := by decide +kernel
theorem d9_1 : decode prog_5_method_4_code 1 = .ok (.iconst 0, 1) := by decide +kernel
theorem d9_2 : decode prog_5_method_4_code 2 = .ok (.putfield 15, 3) := by decide +kernel
theorem d9_5 : decode prog_5_method_4_code 5 = .ok (.aload_n 0, 1) := by decide +kernel
theorem d9_6 : decode prog_5_method_4_code 6 = .ok (.sipush 1000, 3) := by decide +kernel
theorem d9_9 : decode prog_5_method_4_code 9 = .ok (.iconst 2, 1) := by decide +kernel
theorem d9_10 : decode prog_5_method_4_code 10 = .ok (.aload_n 0, 1) := by decide +kernel
theorem d9_11 : decode prog_5_method_4_code 11 = .ok (.getfield 9, 3) := by decide +kernel
theorem d9_14 : decode prog_5_method_4_code 14 = .ok (.imul, 1) := by decide +kernel
theorem d9_15 : decode prog_5_method_4_code 15 = .ok (.invokestatic 25, 3) := by decide +kernel
theorem d9_18 : decode prog_5_method_4_code 18 = .ok (.putfield 9, 3) := by decide +kernel
theorem d9_21 : decode prog_5_method_4_code 21 = .ok (.return_, 1) := by decide +kernel
theorem ef_rm4 (m : MethodId) (o : Addr) : entryFrame m #[(.ref o)] 1 = mkF m 0 #[.val (.ref o)] [] := by first | (simp [entryFrame, mkF, argsToLocals, Value.category, maxLocals]; done) | rfl
def Qrm4 (Z : State) (o : Addr) (r : Int32) (b : Int32) (n0 : Nat) (h0 : Heap) (rv : Option Value) (h : Heap) : Prop := rv = none ∧ Keep h0 h [o] ∧ Fld Z h o "com/example/forefetch/forefetch/BatchWindow" "rows" "I" (.int (own_min (1000 : Int32) ((2 : Int32) * r))) ∧ Fld Z h o "com/example/forefetch/forefetch/BatchWindow" "staleAfterFirst" "Z" (.int (0 : Int32))
theorem pd0 : parseMethodDescriptor "(II)I" = some ⟨[.int, .int], some .int⟩ := by decide +kernel
abbrev Rrm4 : Room := { frames := 1, cells := 0, slots := 0, locals := 14 }
set_option maxRecDepth 65536 in
set_option maxHeartbeats 40000000 in
theorem rm4 (l : Launch) (Z : State) (a0 : Array Value) (hw : ∀ d ∈ tables_1, d.before a0 Z = true) (ws : List Jvm.Cond) (o : Addr) (r : Int32) (b : Int32) (n0 : Nat) (h0 : Heap) (hn : n0 ≤ h0.size) (H0 : Exa Z h0 o "com/example/forefetch/forefetch/BatchWindow") (H1 : Fld Z h0 o "com/example/forefetch/forefetch/BatchWindow" "rows" "I" (.int r)) (H2 : Fld Z h0 o "com/example/forefetch/forefetch/BatchWindow" "staleAfterFirst" "Z" (.int b)) (H3 : n0 ≤ o)  :
    Con l Z (⟨"com/example/forefetch/forefetch/BatchWindow", "passed", "()V"⟩ : MethodName) prog_5_method_4_code 1 none ws Rrm4 #[(.ref o)] h0 n0 (Qrm4 Z o r b n0 h0) := by
  refine body (y := (⟨"com/example/forefetch/forefetch/BatchWindow", "passed", "()V"⟩ : MethodName)) (Ls := #[.val (.ref o)]) (plainFor_of_name pn0) hn (fun m => ef_rm4 m o) ?_
  intro p e s m below meth c T0 hx hby hml hown hnm hret hlk hZ X0
  refine i_aloadN (v := (.ref o)) (pc' := 1) X0 hx (hb hby d9_0) rfl rfl rfl ?_
  refine i_iconst (pc' := 2) (0 : Int32) X0 hx (hb hby d9_1) rfl (by decide) ?_
  refine pf (pc' := 5) (host := "") (ty := .boolean) X0 hx hZ hown (Or.inl (hw _ (List.mem_of_getElem? (i := 25) rfl))) Via.refl H2 H0 (Or.inl (hw _ (List.mem_of_getElem? (i := 26) rfl))) (hw _ (List.mem_of_getElem? (i := 1) rfl)) (by decide) (by decide) (by decide) H3 (hb hby d9_2) rfl fun T1 h1 X1 W1 => ?_
  refine i_aloadN (v := (.ref o)) (pc' := 6) X1 hx (hb hby d9_5) rfl rfl rfl ?_
  refine i_sipush (pc' := 9) (1000 : Int32) X1 hx (hb hby d9_6) rfl (by decide) ?_
  refine i_iconst (pc' := 10) (2 : Int32) X1 hx (hb hby d9_9) rfl (by decide) ?_
  refine i_aloadN (v := (.ref o)) (pc' := 11) X1 hx (hb hby d9_10) rfl rfl rfl ?_
  have F2 : Fld Z h1 o "com/example/forefetch/forefetch/BatchWindow" "rows" "I" (.int r) := (Jvm.RoadKit.Fld.other W1 H1 (Or.inr (slot_ne (a0 := a0) (Or.inl (hw _ (List.mem_of_getElem? (i := 10) rfl))) (Or.inl (hw _ (List.mem_of_getElem? (i := 26) rfl))) (by decide) (t := .int) (t' := .boolean) (by decide) (by decide))))
  refine gf (pc' := 14) (host := "") X1 hx hZ hown (Or.inl (hw _ (List.mem_of_getElem? (i := 9) rfl))) Via.refl F2 (hb hby d9_11) rfl fun T3 X3 => ?_
  refine i_imul (pc' := 15) X3 hx (hb hby d9_14) rfl ?_
  refine cS (y := (⟨"java/lang/Math", "min", "(II)I"⟩ : MethodName)) (rest := [(.ref o)]) (pc' := 18) 1 [(.int (1000 : Int32)), (.int ((2 : Int32) * r))] X3 hx hZ hown (hw _ (List.mem_of_getElem? (i := 31) rfl)) (hw _ (List.mem_of_getElem? (i := 32) rfl)) (hw _ (List.mem_of_getElem? (i := 29) rfl)) (hw _ (List.mem_of_getElem? (i := 33) rfl)) (by decide) (rmMin l Z a0 hw [] (1000 : Int32) ((2 : Int32) * r) n0 h1 X3.le ) (by decide) (by decide) (by rw [hml]; rfl) rfl (lenOf pd0 rfl) rfl (Nat.le_of_eq rfl) (hb hby d9_15) rfl (by decide) (by decide) ?_
  intro r4 T4 h4 X4 q4
  obtain ⟨rfl, eh4⟩ := q4
  subst eh4
  show Go _ _ _ _ _ _ _ T4 (mkF m 18 #[.val (.ref o)] [(.int (own_min (1000 : Int32) ((2 : Int32) * r))), (.ref o)])
  have F5 : Exa Z h1 o "com/example/forefetch/forefetch/BatchWindow" := (Jvm.RoadKit.Exa.wr W1 H0)
  refine pf (pc' := 21) (host := "") (ty := .int) X4 hx hZ hown (Or.inl (hw _ (List.mem_of_getElem? (i := 9) rfl))) Via.refl F2 F5 (Or.inl (hw _ (List.mem_of_getElem? (i := 10) rfl))) (hw _ (List.mem_of_getElem? (i := 1) rfl)) (by decide) rfl rfl H3 (hb hby d9_18) rfl fun T6 h6 X6 W6 => ?_
  refine rV X6 hx hlk hret (hb hby d9_21) (by decide) (by decide) ?_
  have F7 : Fld Z h6 o "com/example/forefetch/forefetch/BatchWindow" "rows" "I" (.int (own_min (1000 : Int32) ((2 : Int32) * r))) := (Jvm.RoadKit.Fld.same W6 F2)
  have F8 : Fld Z h6 o "com/example/forefetch/forefetch/BatchWindow" "staleAfterFirst" "Z" (.int (0 : Int32)) := (Jvm.RoadKit.Fld.other W6 (Jvm.RoadKit.Fld.same W1 H2) (Or.inr (slot_ne (a0 := a0) (Or.inl (hw _ (List.mem_of_getElem? (i := 26) rfl))) (Or.inl (hw _ (List.mem_of_getElem? (i := 10) rfl))) (by decide) (t := .boolean) (t' := .int) (by decide) (by decide))))
  exact ⟨rfl, (((Keep.refl h0 _).wr W1 (Or.inl (List.mem_of_getElem? (i := 0) rfl))).wr W6 (Or.inl (List.mem_of_getElem? (i := 0) rfl))), F7, F8⟩
theorem d5_0 : decode prog_5_method_3_code 0 = .ok (.iload_n 1, 1) := by decide +kernel
theorem d5_1 : decode prog_5_method_3_code 1 = .ok (.iconst 1, 1) := by decide +kernel
theorem d5_2 : decode prog_5_method_3_code 2 = .ok (.if_icmp .gt 10, 3) := by decide +kernel
theorem d5_5 : decode prog_5_method_3_code 5 = .ok (.aload_n 0, 1) := by decide +kernel
theorem d5_6 : decode prog_5_method_3_code 6 = .ok (.getfield 15, 3) := by decide +kernel
theorem d5_9 : decode prog_5_method_3_code 9 = .ok (.ifCond .ne 7, 3) := by decide +kernel
theorem d5_12 : decode prog_5_method_3_code 12 = .ok (.iconst 1, 1) := by decide +kernel
theorem d5_13 : decode prog_5_method_3_code 13 = .ok (.goto 4, 3) := by decide +kernel
theorem d5_16 : decode prog_5_method_3_code 16 = .ok (.iconst 0, 1) := by decide +kernel
theorem d5_17 : decode prog_5_method_3_code 17 = .ok (.istore_n 2, 1) := by decide +kernel
theorem d5_18 : decode prog_5_method_3_code 18 = .ok (.aload_n 0, 1) := by decide +kernel
theorem d5_19 : decode prog_5_method_3_code 19 = .ok (.iload_n 1, 1) := by decide +kernel
theorem d5_20 : decode prog_5_method_3_code 20 = .ok (.iconst 1, 1) := by decide +kernel
theorem d5_21 : decode prog_5_method_3_code 21 = .ok (.if_icmp .ne 7, 3) := by decide +kernel
theorem d5_24 : decode prog_5_method_3_code 24 = .ok (.iconst 1, 1) := by decide +kernel
theorem d5_25 : decode prog_5_method_3_code 25 = .ok (.goto 4, 3) := by decide +kernel
theorem d5_28 : decode prog_5_method_3_code 28 = .ok (.iconst 0, 1) := by decide +kernel
theorem d5_29 : decode prog_5_method_3_code 29 = .ok (.putfield 15, 3) := by decide +kernel
theorem d5_32 : decode prog_5_method_3_code 32 = .ok (.aload_n 0, 1) := by decide +kernel
theorem d5_33 : decode prog_5_method_3_code 33 = .ok (.sipush 1000, 3) := by decide +kernel
theorem d5_36 : decode prog_5_method_3_code 36 = .ok (.iconst 2, 1) := by decide +kernel
theorem d5_37 : decode prog_5_method_3_code 37 = .ok (.iload_n 1, 1) := by decide +kernel
theorem d5_38 : decode prog_5_method_3_code 38 = .ok (.imul, 1) := by decide +kernel
theorem d5_39 : decode prog_5_method_3_code 39 = .ok (.aload_n 0, 1) := by decide +kernel
theorem d5_40 : decode prog_5_method_3_code 40 = .ok (.getfield 9, 3) := by decide +kernel
theorem d5_43 : decode prog_5_method_3_code 43 = .ok (.iconst 2, 1) := by decide +kernel
theorem d5_44 : decode prog_5_method_3_code 44 = .ok (.idiv, 1) := by decide +kernel
theorem d5_45 : decode prog_5_method_3_code 45 = .ok (.invokestatic 19, 3) := by decide +kernel
theorem d5_48 : decode prog_5_method_3_code 48 = .ok (.invokestatic 25, 3) := by decide +kernel
theorem d5_51 : decode prog_5_method_3_code 51 = .ok (.putfield 9, 3) := by decide +kernel
theorem d5_54 : decode prog_5_method_3_code 54 = .ok (.iload_n 2, 1) := by decide +kernel
theorem d5_55 : decode prog_5_method_3_code 55 = .ok (.ireturn, 1) := by decide +kernel
theorem ef_rm6 (m : MethodId) (o : Addr) (n : Int32) : entryFrame m #[(.ref o), (.int n)] 3 = mkF m 0 #[.val (.ref o), .val (.int n), .unset] [] := by first | (simp [entryFrame, mkF, argsToLocals, Value.category, maxLocals]; done) | rfl
def Qrm6 (Z : State) (o : Addr) (n : Int32) (r : Int32) (b : Int32) (n0 : Nat) (h0 : Heap) (rv : Option Value) (h : Heap) : Prop := rv = some (.int (if (1 : Int32) < n then (1 : Int32) else if b = 0 then (1 : Int32) else (0 : Int32))) ∧ Keep h0 h [o] ∧ Fld Z h o "com/example/forefetch/forefetch/BatchWindow" "rows" "I" (.int (own_min (1000 : Int32) (own_max ((2 : Int32) * n) (r / (2 : Int32))))) ∧ Fld Z h o "com/example/forefetch/forefetch/BatchWindow" "staleAfterFirst" "Z" (.int (if n = (1 : Int32) then (1 : Int32) else (0 : Int32)))
abbrev Rrm6 : Room := { frames := 1, cells := 0, slots := 0, locals := 15 }
set_option maxRecDepth 65536 in
set_option maxHeartbeats 40000000 in
theorem rm6 (l : Launch) (Z : State) (a0 : Array Value) (hw : ∀ d ∈ tables_1, d.before a0 Z = true) (ws : List Jvm.Cond) (o : Addr) (n : Int32) (r : Int32) (b : Int32) (n0 : Nat) (h0 : Heap) (hn : n0 ≤ h0.size) (H0 : Exa Z h0 o "com/example/forefetch/forefetch/BatchWindow") (H1 : Fld Z h0 o "com/example/forefetch/forefetch/BatchWindow" "rows" "I" (.int r)) (H2 : Fld Z h0 o "com/example/forefetch/forefetch/BatchWindow" "staleAfterFirst" "Z" (.int b)) (H3 : n0 ≤ o)  :
    Con l Z (⟨"com/example/forefetch/forefetch/BatchWindow", "stale", "(I)Z"⟩ : MethodName) prog_5_method_3_code 3 (some .boolean) ws Rrm6 #[(.ref o), (.int n)] h0 n0 (Qrm6 Z o n r b n0 h0) := by
  refine body (y := (⟨"com/example/forefetch/forefetch/BatchWindow", "stale", "(I)Z"⟩ : MethodName)) (Ls := #[.val (.ref o), .val (.int n), .unset]) (plainFor_of_name pn0) hn (fun m => ef_rm6 m o n) ?_
  intro p e s m below meth c T0 hx hby hml hown hnm hret hlk hZ X0
  refine i_iloadN (v := n) (pc' := 1) X0 hx (hb hby d5_0) rfl rfl ?_
  refine i_iconst (pc' := 2) (1 : Int32) X0 hx (hb hby d5_1) rfl (by decide) ?_
  by_cases hc1 : (1 : Int32) < n
  · skip
    refine i_icT (pc' := 12) X0 hx (hb hby d5_2) (XT.ii_gt_t hc1) (by decide) (by decide) ?_
    refine i_iconst (pc' := 13) (1 : Int32) X0 hx (hb hby d5_12) rfl (by decide) ?_
    refine i_goto (pc' := 17) X0 hx (hb hby d5_13) (by decide) (by decide) ?_
    refine i_istoreN (L' := #[.val (.ref o), .val (.int n), .val (.int (1 : Int32))]) (pc' := 18) X0 hx (hb hby d5_17) rfl rfl ?_
    refine i_aloadN (v := (.ref o)) (pc' := 19) X0 hx (hb hby d5_18) rfl rfl rfl ?_
    refine i_iloadN (v := n) (pc' := 20) X0 hx (hb hby d5_19) rfl rfl ?_
    refine i_iconst (pc' := 21) (1 : Int32) X0 hx (hb hby d5_20) rfl (by decide) ?_
    by_cases hc2 : n = (1 : Int32)
    · skip
      refine i_icF (pc' := 24) X0 hx (hb hby d5_21) rfl (XT.ii_ne_f hc2) ?_
      refine i_iconst (pc' := 25) (1 : Int32) X0 hx (hb hby d5_24) rfl (by decide) ?_
      refine i_goto (pc' := 29) X0 hx (hb hby d5_25) (by decide) (by decide) ?_
      refine pf (pc' := 32) (host := "") (ty := .boolean) X0 hx hZ hown (Or.inl (hw _ (List.mem_of_getElem? (i := 25) rfl))) Via.refl H2 H0 (Or.inl (hw _ (List.mem_of_getElem? (i := 26) rfl))) (hw _ (List.mem_of_getElem? (i := 1) rfl)) (by decide) (by decide) (by decide) H3 (hb hby d5_29) rfl fun T3 h3 X3 W3 => ?_
      refine i_aloadN (v := (.ref o)) (pc' := 33) X3 hx (hb hby d5_32) rfl rfl rfl ?_
      refine i_sipush (pc' := 36) (1000 : Int32) X3 hx (hb hby d5_33) rfl (by decide) ?_
      refine i_iconst (pc' := 37) (2 : Int32) X3 hx (hb hby d5_36) rfl (by decide) ?_
      refine i_iloadN (v := n) (pc' := 38) X3 hx (hb hby d5_37) rfl rfl ?_
      refine i_imul (pc' := 39) X3 hx (hb hby d5_38) rfl ?_
      refine i_aloadN (v := (.ref o)) (pc' := 40) X3 hx (hb hby d5_39) rfl rfl rfl ?_
      have F4 : Fld Z h3 o "com/example/forefetch/forefetch/BatchWindow" "rows" "I" (.int r) := (Jvm.RoadKit.Fld.other W3 H1 (Or.inr (slot_ne (a0 := a0) (Or.inl (hw _ (List.mem_of_getElem? (i := 10) rfl))) (Or.inl (hw _ (List.mem_of_getElem? (i := 26) rfl))) (by decide) (t := .int) (t' := .boolean) (by decide) (by decide))))
      refine gf (pc' := 43) (host := "") X3 hx hZ hown (Or.inl (hw _ (List.mem_of_getElem? (i := 9) rfl))) Via.refl F4 (hb hby d5_40) rfl fun T5 X5 => ?_
      refine i_iconst (pc' := 44) (2 : Int32) X5 hx (hb hby d5_43) rfl (by decide) ?_
      refine i_idiv (pc' := 45) X5 hx (hb hby d5_44) rfl (by decide) ?_
      refine cS (y := (⟨"java/lang/Math", "max", "(II)I"⟩ : MethodName)) (rest := [(.int (1000 : Int32)), (.ref o)]) (pc' := 48) 2 [(.int ((2 : Int32) * n)), (.int (r / (2 : Int32)))] X5 hx hZ hown (hw _ (List.mem_of_getElem? (i := 27) rfl)) (hw _ (List.mem_of_getElem? (i := 28) rfl)) (hw _ (List.mem_of_getElem? (i := 29) rfl)) (hw _ (List.mem_of_getElem? (i := 30) rfl)) (by decide) (rmMax l Z a0 hw [] ((2 : Int32) * n) (r / (2 : Int32)) n0 h3 X5.le ) (by decide) (by decide) (by rw [hml]; rfl) rfl (lenOf pd0 rfl) rfl (Nat.le_of_eq rfl) (hb hby d5_45) rfl (by decide) (by decide) ?_
      intro r6 T6 h6 X6 q6
      obtain ⟨rfl, eh6⟩ := q6
      subst eh6
      show Go _ _ _ _ _ _ _ T6 (mkF m 48 #[.val (.ref o), .val (.int n), .val (.int (1 : Int32))] [(.int (own_max ((2 : Int32) * n) (r / (2 : Int32)))), (.int (1000 : Int32)), (.ref o)])
      refine cS (y := (⟨"java/lang/Math", "min", "(II)I"⟩ : MethodName)) (rest := [(.ref o)]) (pc' := 51) 1 [(.int (1000 : Int32)), (.int (own_max ((2 : Int32) * n) (r / (2 : Int32))))] X6 hx hZ hown (hw _ (List.mem_of_getElem? (i := 31) rfl)) (hw _ (List.mem_of_getElem? (i := 32) rfl)) (hw _ (List.mem_of_getElem? (i := 29) rfl)) (hw _ (List.mem_of_getElem? (i := 33) rfl)) (by decide) (rmMin l Z a0 hw [] (1000 : Int32) (own_max ((2 : Int32) * n) (r / (2 : Int32))) n0 h3 X6.le ) (by decide) (by decide) (by rw [hml]; rfl) rfl (lenOf pd0 rfl) rfl (Nat.le_of_eq rfl) (hb hby d5_48) rfl (by decide) (by decide) ?_
      intro r7 T7 h7 X7 q7
      obtain ⟨rfl, eh7⟩ := q7
      subst eh7
      show Go _ _ _ _ _ _ _ T7 (mkF m 51 #[.val (.ref o), .val (.int n), .val (.int (1 : Int32))] [(.int (own_min (1000 : Int32) (own_max ((2 : Int32) * n) (r / (2 : Int32))))), (.ref o)])
      have F8 : Exa Z h3 o "com/example/forefetch/forefetch/BatchWindow" := (Jvm.RoadKit.Exa.wr W3 H0)
      refine pf (pc' := 54) (host := "") (ty := .int) X7 hx hZ hown (Or.inl (hw _ (List.mem_of_getElem? (i := 9) rfl))) Via.refl F4 F8 (Or.inl (hw _ (List.mem_of_getElem? (i := 10) rfl))) (hw _ (List.mem_of_getElem? (i := 1) rfl)) (by decide) rfl rfl H3 (hb hby d5_51) rfl fun T9 h9 X9 W9 => ?_
      refine i_iloadN (v := (1 : Int32)) (pc' := 55) X9 hx (hb hby d5_54) rfl rfl ?_
      refine rN X9 hx hlk hret (by simp) (hb hby d5_55) (by decide) (by decide) ?_
      have F10 : Fld Z h9 o "com/example/forefetch/forefetch/BatchWindow" "rows" "I" (.int (own_min (1000 : Int32) (own_max ((2 : Int32) * n) (r / (2 : Int32))))) := (Jvm.RoadKit.Fld.same W9 F4)
      have F11 : Fld Z h9 o "com/example/forefetch/forefetch/BatchWindow" "staleAfterFirst" "Z" (.int (1 : Int32)) := (Jvm.RoadKit.Fld.other W9 (Jvm.RoadKit.Fld.same W3 H2) (Or.inr (slot_ne (a0 := a0) (Or.inl (hw _ (List.mem_of_getElem? (i := 26) rfl))) (Or.inl (hw _ (List.mem_of_getElem? (i := 10) rfl))) (by decide) (t := .boolean) (t' := .int) (by decide) (by decide))))
      exact ⟨(by first | (simp [own_nar1, own_nar0, hc1, hc2]; done) | (exfalso; rw [hc2] at hc1; exact absurd hc1 (by decide))), (((Keep.refl h0 _).wr W3 (Or.inl (List.mem_of_getElem? (i := 0) rfl))).wr W9 (Or.inl (List.mem_of_getElem? (i := 0) rfl))), F10, (by first | exact F11 | simpa [hc1, hc2] using F11)⟩
    · skip
      refine i_icT (pc' := 28) X0 hx (hb hby d5_21) (XT.ii_ne_t hc2) (by decide) (by decide) ?_
      refine i_iconst (pc' := 29) (0 : Int32) X0 hx (hb hby d5_28) rfl (by decide) ?_
      refine pf (pc' := 32) (host := "") (ty := .boolean) X0 hx hZ hown (Or.inl (hw _ (List.mem_of_getElem? (i := 25) rfl))) Via.refl H2 H0 (Or.inl (hw _ (List.mem_of_getElem? (i := 26) rfl))) (hw _ (List.mem_of_getElem? (i := 1) rfl)) (by decide) (by decide) (by decide) H3 (hb hby d5_29) rfl fun T12 h12 X12 W12 => ?_
      refine i_aloadN (v := (.ref o)) (pc' := 33) X12 hx (hb hby d5_32) rfl rfl rfl ?_
      refine i_sipush (pc' := 36) (1000 : Int32) X12 hx (hb hby d5_33) rfl (by decide) ?_
      refine i_iconst (pc' := 37) (2 : Int32) X12 hx (hb hby d5_36) rfl (by decide) ?_
      refine i_iloadN (v := n) (pc' := 38) X12 hx (hb hby d5_37) rfl rfl ?_
      refine i_imul (pc' := 39) X12 hx (hb hby d5_38) rfl ?_
      refine i_aloadN (v := (.ref o)) (pc' := 40) X12 hx (hb hby d5_39) rfl rfl rfl ?_
      have F13 : Fld Z h12 o "com/example/forefetch/forefetch/BatchWindow" "rows" "I" (.int r) := (Jvm.RoadKit.Fld.other W12 H1 (Or.inr (slot_ne (a0 := a0) (Or.inl (hw _ (List.mem_of_getElem? (i := 10) rfl))) (Or.inl (hw _ (List.mem_of_getElem? (i := 26) rfl))) (by decide) (t := .int) (t' := .boolean) (by decide) (by decide))))
      refine gf (pc' := 43) (host := "") X12 hx hZ hown (Or.inl (hw _ (List.mem_of_getElem? (i := 9) rfl))) Via.refl F13 (hb hby d5_40) rfl fun T14 X14 => ?_
      refine i_iconst (pc' := 44) (2 : Int32) X14 hx (hb hby d5_43) rfl (by decide) ?_
      refine i_idiv (pc' := 45) X14 hx (hb hby d5_44) rfl (by decide) ?_
      refine cS (y := (⟨"java/lang/Math", "max", "(II)I"⟩ : MethodName)) (rest := [(.int (1000 : Int32)), (.ref o)]) (pc' := 48) 2 [(.int ((2 : Int32) * n)), (.int (r / (2 : Int32)))] X14 hx hZ hown (hw _ (List.mem_of_getElem? (i := 27) rfl)) (hw _ (List.mem_of_getElem? (i := 28) rfl)) (hw _ (List.mem_of_getElem? (i := 29) rfl)) (hw _ (List.mem_of_getElem? (i := 30) rfl)) (by decide) (rmMax l Z a0 hw [] ((2 : Int32) * n) (r / (2 : Int32)) n0 h12 X14.le ) (by decide) (by decide) (by rw [hml]; rfl) rfl (lenOf pd0 rfl) rfl (Nat.le_of_eq rfl) (hb hby d5_45) rfl (by decide) (by decide) ?_
      intro r15 T15 h15 X15 q15
      obtain ⟨rfl, eh15⟩ := q15
      subst eh15
      show Go _ _ _ _ _ _ _ T15 (mkF m 48 #[.val (.ref o), .val (.int n), .val (.int (1 : Int32))] [(.int (own_max ((2 : Int32) * n) (r / (2 : Int32)))), (.int (1000 : Int32)), (.ref o)])
      refine cS (y := (⟨"java/lang/Math", "min", "(II)I"⟩ : MethodName)) (rest := [(.ref o)]) (pc' := 51) 1 [(.int (1000 : Int32)), (.int (own_max ((2 : Int32) * n) (r / (2 : Int32))))] X15 hx hZ hown (hw _ (List.mem_of_getElem? (i := 31) rfl)) (hw _ (List.mem_of_getElem? (i := 32) rfl)) (hw _ (List.mem_of_getElem? (i := 29) rfl)) (hw _ (List.mem_of_getElem? (i := 33) rfl)) (by decide) (rmMin l Z a0 hw [] (1000 : Int32) (own_max ((2 : Int32) * n) (r / (2 : Int32))) n0 h12 X15.le ) (by decide) (by decide) (by rw [hml]; rfl) rfl (lenOf pd0 rfl) rfl (Nat.le_of_eq rfl) (hb hby d5_48) rfl (by decide) (by decide) ?_
      intro r16 T16 h16 X16 q16
      obtain ⟨rfl, eh16⟩ := q16
      subst eh16
      show Go _ _ _ _ _ _ _ T16 (mkF m 51 #[.val (.ref o), .val (.int n), .val (.int (1 : Int32))] [(.int (own_min (1000 : Int32) (own_max ((2 : Int32) * n) (r / (2 : Int32))))), (.ref o)])
      have F17 : Exa Z h12 o "com/example/forefetch/forefetch/BatchWindow" := (Jvm.RoadKit.Exa.wr W12 H0)
      refine pf (pc' := 54) (host := "") (ty := .int) X16 hx hZ hown (Or.inl (hw _ (List.mem_of_getElem? (i := 9) rfl))) Via.refl F13 F17 (Or.inl (hw _ (List.mem_of_getElem? (i := 10) rfl))) (hw _ (List.mem_of_getElem? (i := 1) rfl)) (by decide) rfl rfl H3 (hb hby d5_51) rfl fun T18 h18 X18 W18 => ?_
      refine i_iloadN (v := (1 : Int32)) (pc' := 55) X18 hx (hb hby d5_54) rfl rfl ?_
      refine rN X18 hx hlk hret (by simp) (hb hby d5_55) (by decide) (by decide) ?_
      have F19 : Fld Z h18 o "com/example/forefetch/forefetch/BatchWindow" "rows" "I" (.int (own_min (1000 : Int32) (own_max ((2 : Int32) * n) (r / (2 : Int32))))) := (Jvm.RoadKit.Fld.same W18 F13)
      have F20 : Fld Z h18 o "com/example/forefetch/forefetch/BatchWindow" "staleAfterFirst" "Z" (.int (0 : Int32)) := (Jvm.RoadKit.Fld.other W18 (Jvm.RoadKit.Fld.same W12 H2) (Or.inr (slot_ne (a0 := a0) (Or.inl (hw _ (List.mem_of_getElem? (i := 26) rfl))) (Or.inl (hw _ (List.mem_of_getElem? (i := 10) rfl))) (by decide) (t := .boolean) (t' := .int) (by decide) (by decide))))
      exact ⟨(by first | (simp [own_nar1, own_nar0, hc1, hc2]; done) | (exfalso; rw [hc2] at hc1; exact absurd hc1 (by decide))), (((Keep.refl h0 _).wr W12 (Or.inl (List.mem_of_getElem? (i := 0) rfl))).wr W18 (Or.inl (List.mem_of_getElem? (i := 0) rfl))), F19, (by first | exact F20 | simpa [hc1, hc2] using F20)⟩
  · skip
    refine i_icF (pc' := 5) X0 hx (hb hby d5_2) rfl (XT.ii_gt_f hc1) ?_
    refine i_aloadN (v := (.ref o)) (pc' := 6) X0 hx (hb hby d5_5) rfl rfl rfl ?_
    refine gf (pc' := 9) (host := "") X0 hx hZ hown (Or.inl (hw _ (List.mem_of_getElem? (i := 25) rfl))) Via.refl H2 (hb hby d5_6) rfl fun T21 X21 => ?_
    by_cases hc22 : b = 0
    · skip
      refine i_ifF (pc' := 12) X21 hx (hb hby d5_9) rfl (XT.i0_ne_f hc22) ?_
      refine i_iconst (pc' := 13) (1 : Int32) X21 hx (hb hby d5_12) rfl (by decide) ?_
      refine i_goto (pc' := 17) X21 hx (hb hby d5_13) (by decide) (by decide) ?_
      refine i_istoreN (L' := #[.val (.ref o), .val (.int n), .val (.int (1 : Int32))]) (pc' := 18) X21 hx (hb hby d5_17) rfl rfl ?_
      refine i_aloadN (v := (.ref o)) (pc' := 19) X21 hx (hb hby d5_18) rfl rfl rfl ?_
      refine i_iloadN (v := n) (pc' := 20) X21 hx (hb hby d5_19) rfl rfl ?_
      refine i_iconst (pc' := 21) (1 : Int32) X21 hx (hb hby d5_20) rfl (by decide) ?_
      by_cases hc23 : n = (1 : Int32)
      · skip
        refine i_icF (pc' := 24) X21 hx (hb hby d5_21) rfl (XT.ii_ne_f hc23) ?_
        refine i_iconst (pc' := 25) (1 : Int32) X21 hx (hb hby d5_24) rfl (by decide) ?_
        refine i_goto (pc' := 29) X21 hx (hb hby d5_25) (by decide) (by decide) ?_
        refine pf (pc' := 32) (host := "") (ty := .boolean) X21 hx hZ hown (Or.inl (hw _ (List.mem_of_getElem? (i := 25) rfl))) Via.refl H2 H0 (Or.inl (hw _ (List.mem_of_getElem? (i := 26) rfl))) (hw _ (List.mem_of_getElem? (i := 1) rfl)) (by decide) (by decide) (by decide) H3 (hb hby d5_29) rfl fun T24 h24 X24 W24 => ?_
        refine i_aloadN (v := (.ref o)) (pc' := 33) X24 hx (hb hby d5_32) rfl rfl rfl ?_
        refine i_sipush (pc' := 36) (1000 : Int32) X24 hx (hb hby d5_33) rfl (by decide) ?_
        refine i_iconst (pc' := 37) (2 : Int32) X24 hx (hb hby d5_36) rfl (by decide) ?_
        refine i_iloadN (v := n) (pc' := 38) X24 hx (hb hby d5_37) rfl rfl ?_
        refine i_imul (pc' := 39) X24 hx (hb hby d5_38) rfl ?_
        refine i_aloadN (v := (.ref o)) (pc' := 40) X24 hx (hb hby d5_39) rfl rfl rfl ?_
        have F25 : Fld Z h24 o "com/example/forefetch/forefetch/BatchWindow" "rows" "I" (.int r) := (Jvm.RoadKit.Fld.other W24 H1 (Or.inr (slot_ne (a0 := a0) (Or.inl (hw _ (List.mem_of_getElem? (i := 10) rfl))) (Or.inl (hw _ (List.mem_of_getElem? (i := 26) rfl))) (by decide) (t := .int) (t' := .boolean) (by decide) (by decide))))
        refine gf (pc' := 43) (host := "") X24 hx hZ hown (Or.inl (hw _ (List.mem_of_getElem? (i := 9) rfl))) Via.refl F25 (hb hby d5_40) rfl fun T26 X26 => ?_
        refine i_iconst (pc' := 44) (2 : Int32) X26 hx (hb hby d5_43) rfl (by decide) ?_
        refine i_idiv (pc' := 45) X26 hx (hb hby d5_44) rfl (by decide) ?_
        refine cS (y := (⟨"java/lang/Math", "max", "(II)I"⟩ : MethodName)) (rest := [(.int (1000 : Int32)), (.ref o)]) (pc' := 48) 2 [(.int ((2 : Int32) * n)), (.int (r / (2 : Int32)))] X26 hx hZ hown (hw _ (List.mem_of_getElem? (i := 27) rfl)) (hw _ (List.mem_of_getElem? (i := 28) rfl)) (hw _ (List.mem_of_getElem? (i := 29) rfl)) (hw _ (List.mem_of_getElem? (i := 30) rfl)) (by decide) (rmMax l Z a0 hw [] ((2 : Int32) * n) (r / (2 : Int32)) n0 h24 X26.le ) (by decide) (by decide) (by rw [hml]; rfl) rfl (lenOf pd0 rfl) rfl (Nat.le_of_eq rfl) (hb hby d5_45) rfl (by decide) (by decide) ?_
        intro r27 T27 h27 X27 q27
        obtain ⟨rfl, eh27⟩ := q27
        subst eh27
        show Go _ _ _ _ _ _ _ T27 (mkF m 48 #[.val (.ref o), .val (.int n), .val (.int (1 : Int32))] [(.int (own_max ((2 : Int32) * n) (r / (2 : Int32)))), (.int (1000 : Int32)), (.ref o)])
        refine cS (y := (⟨"java/lang/Math", "min", "(II)I"⟩ : MethodName)) (rest := [(.ref o)]) (pc' := 51) 1 [(.int (1000 : Int32)), (.int (own_max ((2 : Int32) * n) (r / (2 : Int32))))] X27 hx hZ hown (hw _ (List.mem_of_getElem? (i := 31) rfl)) (hw _ (List.mem_of_getElem? (i := 32) rfl)) (hw _ (List.mem_of_getElem? (i := 29) rfl)) (hw _ (List.mem_of_getElem? (i := 33) rfl)) (by decide) (rmMin l Z a0 hw [] (1000 : Int32) (own_max ((2 : Int32) * n) (r / (2 : Int32))) n0 h24 X27.le ) (by decide) (by decide) (by rw [hml]; rfl) rfl (lenOf pd0 rfl) rfl (Nat.le_of_eq rfl) (hb hby d5_48) rfl (by decide) (by decide) ?_
        intro r28 T28 h28 X28 q28
        obtain ⟨rfl, eh28⟩ := q28
        subst eh28
        show Go _ _ _ _ _ _ _ T28 (mkF m 51 #[.val (.ref o), .val (.int n), .val (.int (1 : Int32))] [(.int (own_min (1000 : Int32) (own_max ((2 : Int32) * n) (r / (2 : Int32))))), (.ref o)])
        have F29 : Exa Z h24 o "com/example/forefetch/forefetch/BatchWindow" := (Jvm.RoadKit.Exa.wr W24 H0)
        refine pf (pc' := 54) (host := "") (ty := .int) X28 hx hZ hown (Or.inl (hw _ (List.mem_of_getElem? (i := 9) rfl))) Via.refl F25 F29 (Or.inl (hw _ (List.mem_of_getElem? (i := 10) rfl))) (hw _ (List.mem_of_getElem? (i := 1) rfl)) (by decide) rfl rfl H3 (hb hby d5_51) rfl fun T30 h30 X30 W30 => ?_
        refine i_iloadN (v := (1 : Int32)) (pc' := 55) X30 hx (hb hby d5_54) rfl rfl ?_
        refine rN X30 hx hlk hret (by simp) (hb hby d5_55) (by decide) (by decide) ?_
        have F31 : Fld Z h30 o "com/example/forefetch/forefetch/BatchWindow" "rows" "I" (.int (own_min (1000 : Int32) (own_max ((2 : Int32) * n) (r / (2 : Int32))))) := (Jvm.RoadKit.Fld.same W30 F25)
        have F32 : Fld Z h30 o "com/example/forefetch/forefetch/BatchWindow" "staleAfterFirst" "Z" (.int (1 : Int32)) := (Jvm.RoadKit.Fld.other W30 (Jvm.RoadKit.Fld.same W24 H2) (Or.inr (slot_ne (a0 := a0) (Or.inl (hw _ (List.mem_of_getElem? (i := 26) rfl))) (Or.inl (hw _ (List.mem_of_getElem? (i := 10) rfl))) (by decide) (t := .boolean) (t' := .int) (by decide) (by decide))))
        exact ⟨(by first | (simp [own_nar1, own_nar0, hc1, hc22, hc23]; done) | (exfalso; rw [hc2] at hc1; exact absurd hc1 (by decide))), (((Keep.refl h0 _).wr W24 (Or.inl (List.mem_of_getElem? (i := 0) rfl))).wr W30 (Or.inl (List.mem_of_getElem? (i := 0) rfl))), F31, (by first | exact F32 | simpa [hc1, hc22, hc23] using F32)⟩
      · skip
        refine i_icT (pc' := 28) X21 hx (hb hby d5_21) (XT.ii_ne_t hc23) (by decide) (by decide) ?_
        refine i_iconst (pc' := 29) (0 : Int32) X21 hx (hb hby d5_28) rfl (by decide) ?_
        refine pf (pc' := 32) (host := "") (ty := .boolean) X21 hx hZ hown (Or.inl (hw _ (List.mem_of_getElem? (i := 25) rfl))) Via.refl H2 H0 (Or.inl (hw _ (List.mem_of_getElem? (i := 26) rfl))) (hw _ (List.mem_of_getElem? (i := 1) rfl)) (by decide) (by decide) (by decide) H3 (hb hby d5_29) rfl fun T33 h33 X33 W33 => ?_
        refine i_aloadN (v := (.ref o)) (pc' := 33) X33 hx (hb hby d5_32) rfl rfl rfl ?_
        refine i_sipush (pc' := 36) (1000 : Int32) X33 hx (hb hby d5_33) rfl (by decide) ?_
        refine i_iconst (pc' := 37) (2 : Int32) X33 hx (hb hby d5_36) rfl (by decide) ?_
        refine i_iloadN (v := n) (pc' := 38) X33 hx (hb hby d5_37) rfl rfl ?_
        refine i_imul (pc' := 39) X33 hx (hb hby d5_38) rfl ?_
        refine i_aloadN (v := (.ref o)) (pc' := 40) X33 hx (hb hby d5_39) rfl rfl rfl ?_
        have F34 : Fld Z h33 o "com/example/forefetch/forefetch/BatchWindow" "rows" "I" (.int r) := (Jvm.RoadKit.Fld.other W33 H1 (Or.inr (slot_ne (a0 := a0) (Or.inl (hw _ (List.mem_of_getElem? (i := 10) rfl))) (Or.inl (hw _ (List.mem_of_getElem? (i := 26) rfl))) (by decide) (t := .int) (t' := .boolean) (by decide) (by decide))))
        refine gf (pc' := 43) (host := "") X33 hx hZ hown (Or.inl (hw _ (List.mem_of_getElem? (i := 9) rfl))) Via.refl F34 (hb hby d5_40) rfl fun T35 X35 => ?_
        refine i_iconst (pc' := 44) (2 : Int32) X35 hx (hb hby d5_43) rfl (by decide) ?_
        refine i_idiv (pc' := 45) X35 hx (hb hby d5_44) rfl (by decide) ?_
        refine cS (y := (⟨"java/lang/Math", "max", "(II)I"⟩ : MethodName)) (rest := [(.int (1000 : Int32)), (.ref o)]) (pc' := 48) 2 [(.int ((2 : Int32) * n)), (.int (r / (2 : Int32)))] X35 hx hZ hown (hw _ (List.mem_of_getElem? (i := 27) rfl)) (hw _ (List.mem_of_getElem? (i := 28) rfl)) (hw _ (List.mem_of_getElem? (i := 29) rfl)) (hw _ (List.mem_of_getElem? (i := 30) rfl)) (by decide) (rmMax l Z a0 hw [] ((2 : Int32) * n) (r / (2 : Int32)) n0 h33 X35.le ) (by decide) (by decide) (by rw [hml]; rfl) rfl (lenOf pd0 rfl) rfl (Nat.le_of_eq rfl) (hb hby d5_45) rfl (by decide) (by decide) ?_
        intro r36 T36 h36 X36 q36
        obtain ⟨rfl, eh36⟩ := q36
        subst eh36
        show Go _ _ _ _ _ _ _ T36 (mkF m 48 #[.val (.ref o), .val (.int n), .val (.int (1 : Int32))] [(.int (own_max ((2 : Int32) * n) (r / (2 : Int32)))), (.int (1000 : Int32)), (.ref o)])
        refine cS (y := (⟨"java/lang/Math", "min", "(II)I"⟩ : MethodName)) (rest := [(.ref o)]) (pc' := 51) 1 [(.int (1000 : Int32)), (.int (own_max ((2 : Int32) * n) (r / (2 : Int32))))] X36 hx hZ hown (hw _ (List.mem_of_getElem? (i := 31) rfl)) (hw _ (List.mem_of_getElem? (i := 32) rfl)) (hw _ (List.mem_of_getElem? (i := 29) rfl)) (hw _ (List.mem_of_getElem? (i := 33) rfl)) (by decide) (rmMin l Z a0 hw [] (1000 : Int32) (own_max ((2 : Int32) * n) (r / (2 : Int32))) n0 h33 X36.le ) (by decide) (by decide) (by rw [hml]; rfl) rfl (lenOf pd0 rfl) rfl (Nat.le_of_eq rfl) (hb hby d5_48) rfl (by decide) (by decide) ?_
        intro r37 T37 h37 X37 q37
        obtain ⟨rfl, eh37⟩ := q37
        subst eh37
        show Go _ _ _ _ _ _ _ T37 (mkF m 51 #[.val (.ref o), .val (.int n), .val (.int (1 : Int32))] [(.int (own_min (1000 : Int32) (own_max ((2 : Int32) * n) (r / (2 : Int32))))), (.ref o)])
        have F38 : Exa Z h33 o "com/example/forefetch/forefetch/BatchWindow" := (Jvm.RoadKit.Exa.wr W33 H0)
        refine pf (pc' := 54) (host := "") (ty := .int) X37 hx hZ hown (Or.inl (hw _ (List.mem_of_getElem? (i := 9) rfl))) Via.refl F34 F38 (Or.inl (hw _ (List.mem_of_getElem? (i := 10) rfl))) (hw _ (List.mem_of_getElem? (i := 1) rfl)) (by decide) rfl rfl H3 (hb hby d5_51) rfl fun T39 h39 X39 W39 => ?_
        refine i_iloadN (v := (1 : Int32)) (pc' := 55) X39 hx (hb hby d5_54) rfl rfl ?_
        refine rN X39 hx hlk hret (by simp) (hb hby d5_55) (by decide) (by decide) ?_
        have F40 : Fld Z h39 o "com/example/forefetch/forefetch/BatchWindow" "rows" "I" (.int (own_min (1000 : Int32) (own_max ((2 : Int32) * n) (r / (2 : Int32))))) := (Jvm.RoadKit.Fld.same W39 F34)
        have F41 : Fld Z h39 o "com/example/forefetch/forefetch/BatchWindow" "staleAfterFirst" "Z" (.int (0 : Int32)) := (Jvm.RoadKit.Fld.other W39 (Jvm.RoadKit.Fld.same W33 H2) (Or.inr (slot_ne (a0 := a0) (Or.inl (hw _ (List.mem_of_getElem? (i := 26) rfl))) (Or.inl (hw _ (List.mem_of_getElem? (i := 10) rfl))) (by decide) (t := .boolean) (t' := .int) (by decide) (by decide))))
        exact ⟨(by first | (simp [own_nar1, own_nar0, hc1, hc22, hc23]; done) | (exfalso; rw [hc2] at hc1; exact absurd hc1 (by decide))), (((Keep.refl h0 _).wr W33 (Or.inl (List.mem_of_getElem? (i := 0) rfl))).wr W39 (Or.inl (List.mem_of_getElem? (i := 0) rfl))), F40, (by first | exact F41 | simpa [hc1, hc22, hc23] using F41)⟩
    · skip
      refine i_ifT (pc' := 16) X21 hx (hb hby d5_9) (XT.i0_ne_t hc22) (by decide) (by decide) ?_
      refine i_iconst (pc' := 17) (0 : Int32) X21 hx (hb hby d5_16) rfl (by decide) ?_
      refine i_istoreN (L' := #[.val (.ref o), .val (.int n), .val (.int (0 : Int32))]) (pc' := 18) X21 hx (hb hby d5_17) rfl rfl ?_
      refine i_aloadN (v := (.ref o)) (pc' := 19) X21 hx (hb hby d5_18) rfl rfl rfl ?_
      refine i_iloadN (v := n) (pc' := 20) X21 hx (hb hby d5_19) rfl rfl ?_
      refine i_iconst (pc' := 21) (1 : Int32) X21 hx (hb hby d5_20) rfl (by decide) ?_
      by_cases hc42 : n = (1 : Int32)
      · skip
        refine i_icF (pc' := 24) X21 hx (hb hby d5_21) rfl (XT.ii_ne_f hc42) ?_
        refine i_iconst (pc' := 25) (1 : Int32) X21 hx (hb hby d5_24) rfl (by decide) ?_
        refine i_goto (pc' := 29) X21 hx (hb hby d5_25) (by decide) (by decide) ?_
        refine pf (pc' := 32) (host := "") (ty := .boolean) X21 hx hZ hown (Or.inl (hw _ (List.mem_of_getElem? (i := 25) rfl))) Via.refl H2 H0 (Or.inl (hw _ (List.mem_of_getElem? (i := 26) rfl))) (hw _ (List.mem_of_getElem? (i := 1) rfl)) (by decide) (by decide) (by decide) H3 (hb hby d5_29) rfl fun T43 h43 X43 W43 => ?_
        refine i_aloadN (v := (.ref o)) (pc' := 33) X43 hx (hb hby d5_32) rfl rfl rfl ?_
        refine i_sipush (pc' := 36) (1000 : Int32) X43 hx (hb hby d5_33) rfl (by decide) ?_
        refine i_iconst (pc' := 37) (2 : Int32) X43 hx (hb hby d5_36) rfl (by decide) ?_
        refine i_iloadN (v := n) (pc' := 38) X43 hx (hb hby d5_37) rfl rfl ?_
        refine i_imul (pc' := 39) X43 hx (hb hby d5_38) rfl ?_
        refine i_aloadN (v := (.ref o)) (pc' := 40) X43 hx (hb hby d5_39) rfl rfl rfl ?_
        have F44 : Fld Z h43 o "com/example/forefetch/forefetch/BatchWindow" "rows" "I" (.int r) := (Jvm.RoadKit.Fld.other W43 H1 (Or.inr (slot_ne (a0 := a0) (Or.inl (hw _ (List.mem_of_getElem? (i := 10) rfl))) (Or.inl (hw _ (List.mem_of_getElem? (i := 26) rfl))) (by decide) (t := .int) (t' := .boolean) (by decide) (by decide))))
        refine gf (pc' := 43) (host := "") X43 hx hZ hown (Or.inl (hw _ (List.mem_of_getElem? (i := 9) rfl))) Via.refl F44 (hb hby d5_40) rfl fun T45 X45 => ?_
        refine i_iconst (pc' := 44) (2 : Int32) X45 hx (hb hby d5_43) rfl (by decide) ?_
        refine i_idiv (pc' := 45) X45 hx (hb hby d5_44) rfl (by decide) ?_
        refine cS (y := (⟨"java/lang/Math", "max", "(II)I"⟩ : MethodName)) (rest := [(.int (1000 : Int32)), (.ref o)]) (pc' := 48) 2 [(.int ((2 : Int32) * n)), (.int (r / (2 : Int32)))] X45 hx hZ hown (hw _ (List.mem_of_getElem? (i := 27) rfl)) (hw _ (List.mem_of_getElem? (i := 28) rfl)) (hw _ (List.mem_of_getElem? (i := 29) rfl)) (hw _ (List.mem_of_getElem? (i := 30) rfl)) (by decide) (rmMax l Z a0 hw [] ((2 : Int32) * n) (r / (2 : Int32)) n0 h43 X45.le ) (by decide) (by decide) (by rw [hml]; rfl) rfl (lenOf pd0 rfl) rfl (Nat.le_of_eq rfl) (hb hby d5_45) rfl (by decide) (by decide) ?_
        intro r46 T46 h46 X46 q46
        obtain ⟨rfl, eh46⟩ := q46
        subst eh46
        show Go _ _ _ _ _ _ _ T46 (mkF m 48 #[.val (.ref o), .val (.int n), .val (.int (0 : Int32))] [(.int (own_max ((2 : Int32) * n) (r / (2 : Int32)))), (.int (1000 : Int32)), (.ref o)])
        refine cS (y := (⟨"java/lang/Math", "min", "(II)I"⟩ : MethodName)) (rest := [(.ref o)]) (pc' := 51) 1 [(.int (1000 : Int32)), (.int (own_max ((2 : Int32) * n) (r / (2 : Int32))))] X46 hx hZ hown (hw _ (List.mem_of_getElem? (i := 31) rfl)) (hw _ (List.mem_of_getElem? (i := 32) rfl)) (hw _ (List.mem_of_getElem? (i := 29) rfl)) (hw _ (List.mem_of_getElem? (i := 33) rfl)) (by decide) (rmMin l Z a0 hw [] (1000 : Int32) (own_max ((2 : Int32) * n) (r / (2 : Int32))) n0 h43 X46.le ) (by decide) (by decide) (by rw [hml]; rfl) rfl (lenOf pd0 rfl) rfl (Nat.le_of_eq rfl) (hb hby d5_48) rfl (by decide) (by decide) ?_
        intro r47 T47 h47 X47 q47
        obtain ⟨rfl, eh47⟩ := q47
        subst eh47
        show Go _ _ _ _ _ _ _ T47 (mkF m 51 #[.val (.ref o), .val (.int n), .val (.int (0 : Int32))] [(.int (own_min (1000 : Int32) (own_max ((2 : Int32) * n) (r / (2 : Int32))))), (.ref o)])
        have F48 : Exa Z h43 o "com/example/forefetch/forefetch/BatchWindow" := (Jvm.RoadKit.Exa.wr W43 H0)
        refine pf (pc' := 54) (host := "") (ty := .int) X47 hx hZ hown (Or.inl (hw _ (List.mem_of_getElem? (i := 9) rfl))) Via.refl F44 F48 (Or.inl (hw _ (List.mem_of_getElem? (i := 10) rfl))) (hw _ (List.mem_of_getElem? (i := 1) rfl)) (by decide) rfl rfl H3 (hb hby d5_51) rfl fun T49 h49 X49 W49 => ?_
        refine i_iloadN (v := (0 : Int32)) (pc' := 55) X49 hx (hb hby d5_54) rfl rfl ?_
        refine rN X49 hx hlk hret (by simp) (hb hby d5_55) (by decide) (by decide) ?_
        have F50 : Fld Z h49 o "com/example/forefetch/forefetch/BatchWindow" "rows" "I" (.int (own_min (1000 : Int32) (own_max ((2 : Int32) * n) (r / (2 : Int32))))) := (Jvm.RoadKit.Fld.same W49 F44)
        have F51 : Fld Z h49 o "com/example/forefetch/forefetch/BatchWindow" "staleAfterFirst" "Z" (.int (1 : Int32)) := (Jvm.RoadKit.Fld.other W49 (Jvm.RoadKit.Fld.same W43 H2) (Or.inr (slot_ne (a0 := a0) (Or.inl (hw _ (List.mem_of_getElem? (i := 26) rfl))) (Or.inl (hw _ (List.mem_of_getElem? (i := 10) rfl))) (by decide) (t := .boolean) (t' := .int) (by decide) (by decide))))
        exact ⟨(by first | (simp [own_nar1, own_nar0, hc1, hc22, hc42]; done) | (exfalso; rw [hc2] at hc1; exact absurd hc1 (by decide))), (((Keep.refl h0 _).wr W43 (Or.inl (List.mem_of_getElem? (i := 0) rfl))).wr W49 (Or.inl (List.mem_of_getElem? (i := 0) rfl))), F50, (by first | exact F51 | simpa [hc1, hc22, hc42] using F51)⟩
      · skip
        refine i_icT (pc' := 28) X21 hx (hb hby d5_21) (XT.ii_ne_t hc42) (by decide) (by decide) ?_
        refine i_iconst (pc' := 29) (0 : Int32) X21 hx (hb hby d5_28) rfl (by decide) ?_
        refine pf (pc' := 32) (host := "") (ty := .boolean) X21 hx hZ hown (Or.inl (hw _ (List.mem_of_getElem? (i := 25) rfl))) Via.refl H2 H0 (Or.inl (hw _ (List.mem_of_getElem? (i := 26) rfl))) (hw _ (List.mem_of_getElem? (i := 1) rfl)) (by decide) (by decide) (by decide) H3 (hb hby d5_29) rfl fun T52 h52 X52 W52 => ?_
        refine i_aloadN (v := (.ref o)) (pc' := 33) X52 hx (hb hby d5_32) rfl rfl rfl ?_
        refine i_sipush (pc' := 36) (1000 : Int32) X52 hx (hb hby d5_33) rfl (by decide) ?_
        refine i_iconst (pc' := 37) (2 : Int32) X52 hx (hb hby d5_36) rfl (by decide) ?_
        refine i_iloadN (v := n) (pc' := 38) X52 hx (hb hby d5_37) rfl rfl ?_
        refine i_imul (pc' := 39) X52 hx (hb hby d5_38) rfl ?_
        refine i_aloadN (v := (.ref o)) (pc' := 40) X52 hx (hb hby d5_39) rfl rfl rfl ?_
        have F53 : Fld Z h52 o "com/example/forefetch/forefetch/BatchWindow" "rows" "I" (.int r) := (Jvm.RoadKit.Fld.other W52 H1 (Or.inr (slot_ne (a0 := a0) (Or.inl (hw _ (List.mem_of_getElem? (i := 10) rfl))) (Or.inl (hw _ (List.mem_of_getElem? (i := 26) rfl))) (by decide) (t := .int) (t' := .boolean) (by decide) (by decide))))
        refine gf (pc' := 43) (host := "") X52 hx hZ hown (Or.inl (hw _ (List.mem_of_getElem? (i := 9) rfl))) Via.refl F53 (hb hby d5_40) rfl fun T54 X54 => ?_
        refine i_iconst (pc' := 44) (2 : Int32) X54 hx (hb hby d5_43) rfl (by decide) ?_
        refine i_idiv (pc' := 45) X54 hx (hb hby d5_44) rfl (by decide) ?_
        refine cS (y := (⟨"java/lang/Math", "max", "(II)I"⟩ : MethodName)) (rest := [(.int (1000 : Int32)), (.ref o)]) (pc' := 48) 2 [(.int ((2 : Int32) * n)), (.int (r / (2 : Int32)))] X54 hx hZ hown (hw _ (List.mem_of_getElem? (i := 27) rfl)) (hw _ (List.mem_of_getElem? (i := 28) rfl)) (hw _ (List.mem_of_getElem? (i := 29) rfl)) (hw _ (List.mem_of_getElem? (i := 30) rfl)) (by decide) (rmMax l Z a0 hw [] ((2 : Int32) * n) (r / (2 : Int32)) n0 h52 X54.le ) (by decide) (by decide) (by rw [hml]; rfl) rfl (lenOf pd0 rfl) rfl (Nat.le_of_eq rfl) (hb hby d5_45) rfl (by decide) (by decide) ?_
        intro r55 T55 h55 X55 q55
        obtain ⟨rfl, eh55⟩ := q55
        subst eh55
        show Go _ _ _ _ _ _ _ T55 (mkF m 48 #[.val (.ref o), .val (.int n), .val (.int (0 : Int32))] [(.int (own_max ((2 : Int32) * n) (r / (2 : Int32)))), (.int (1000 : Int32)), (.ref o)])
        refine cS (y := (⟨"java/lang/Math", "min", "(II)I"⟩ : MethodName)) (rest := [(.ref o)]) (pc' := 51) 1 [(.int (1000 : Int32)), (.int (own_max ((2 : Int32) * n) (r / (2 : Int32))))] X55 hx hZ hown (hw _ (List.mem_of_getElem? (i := 31) rfl)) (hw _ (List.mem_of_getElem? (i := 32) rfl)) (hw _ (List.mem_of_getElem? (i := 29) rfl)) (hw _ (List.mem_of_getElem? (i := 33) rfl)) (by decide) (rmMin l Z a0 hw [] (1000 : Int32) (own_max ((2 : Int32) * n) (r / (2 : Int32))) n0 h52 X55.le ) (by decide) (by decide) (by rw [hml]; rfl) rfl (lenOf pd0 rfl) rfl (Nat.le_of_eq rfl) (hb hby d5_48) rfl (by decide) (by decide) ?_
        intro r56 T56 h56 X56 q56
        obtain ⟨rfl, eh56⟩ := q56
        subst eh56
        show Go _ _ _ _ _ _ _ T56 (mkF m 51 #[.val (.ref o), .val (.int n), .val (.int (0 : Int32))] [(.int (own_min (1000 : Int32) (own_max ((2 : Int32) * n) (r / (2 : Int32))))), (.ref o)])
        have F57 : Exa Z h52 o "com/example/forefetch/forefetch/BatchWindow" := (Jvm.RoadKit.Exa.wr W52 H0)
        refine pf (pc' := 54) (host := "") (ty := .int) X56 hx hZ hown (Or.inl (hw _ (List.mem_of_getElem? (i := 9) rfl))) Via.refl F53 F57 (Or.inl (hw _ (List.mem_of_getElem? (i := 10) rfl))) (hw _ (List.mem_of_getElem? (i := 1) rfl)) (by decide) rfl rfl H3 (hb hby d5_51) rfl fun T58 h58 X58 W58 => ?_
        refine i_iloadN (v := (0 : Int32)) (pc' := 55) X58 hx (hb hby d5_54) rfl rfl ?_
        refine rN X58 hx hlk hret (by simp) (hb hby d5_55) (by decide) (by decide) ?_
        have F59 : Fld Z h58 o "com/example/forefetch/forefetch/BatchWindow" "rows" "I" (.int (own_min (1000 : Int32) (own_max ((2 : Int32) * n) (r / (2 : Int32))))) := (Jvm.RoadKit.Fld.same W58 F53)
        have F60 : Fld Z h58 o "com/example/forefetch/forefetch/BatchWindow" "staleAfterFirst" "Z" (.int (0 : Int32)) := (Jvm.RoadKit.Fld.other W58 (Jvm.RoadKit.Fld.same W52 H2) (Or.inr (slot_ne (a0 := a0) (Or.inl (hw _ (List.mem_of_getElem? (i := 26) rfl))) (Or.inl (hw _ (List.mem_of_getElem? (i := 10) rfl))) (by decide) (t := .boolean) (t' := .int) (by decide) (by decide))))
        exact ⟨(by first | (simp [own_nar1, own_nar0, hc1, hc22, hc42]; done) | (exfalso; rw [hc2] at hc1; exact absurd hc1 (by decide))), (((Keep.refl h0 _).wr W52 (Or.inl (List.mem_of_getElem? (i := 0) rfl))).wr W58 (Or.inl (List.mem_of_getElem? (i := 0) rfl))), F59, (by first | exact F60 | simpa [hc1, hc22, hc42] using F60)⟩
theorem own_pass {r : Int32} (h : 0 ≤ r.toInt ∧ r.toInt ≤ 1000) : own_min 1000 (2 * r) = (if (500 : Int32) < r then (1000 : Int32) else 2 * r) ∧ 0 ≤ (own_min 1000 (2 * r)).toInt ∧ (own_min 1000 (2 * r)).toInt ≤ 1000 := by
  have c1 : (500 : Int32).toInt = 500 := by decide
  have c2 : (1000 : Int32).toInt = 1000 := by decide
  have c3 : (2 : Int32).toInt = 2 := by decide
  have e : ((2 : Int32) * r).toInt = 2 * r.toInt := by rw [XT.mul32 (by unfold XT.fits32; rw [c3]; omega), c3]
  unfold own_min
  simp only [own_lt, c1, c2, e]
  by_cases a : 500 < r.toInt
  · rw [if_neg (by omega), if_pos a]; exact ⟨rfl, by omega, by omega⟩
  · rw [if_neg a]
    by_cases b : 2 * r.toInt < 1000
    · rw [if_pos b]; exact ⟨rfl, by omega, by omega⟩
    · rw [if_neg b]; exact ⟨Int32.toInt_inj.mp (by omega), by omega, by omega⟩
theorem own_next (q : Int32) : own_min 1000 q = (if (1000 : Int32) < q then (1000 : Int32) else q) := by
  have c2 : (1000 : Int32).toInt = 1000 := by decide
  unfold own_min
  simp only [own_lt, c2]
  by_cases a : 1000 < q.toInt
  · rw [if_neg (by omega), if_pos a]
  · rw [if_neg a]
    by_cases b : q.toInt < 1000
    · rw [if_pos b]
    · rw [if_neg b]; exact Int32.toInt_inj.mp (by omega)
theorem own_rng {r : Int32} (n : Int32) (h : 0 ≤ r.toInt ∧ r.toInt ≤ 1000) : 0 ≤ (own_min 1000 (own_max (2 * n) (r / 2))).toInt ∧ (own_min 1000 (own_max (2 * n) (r / 2))).toInt ≤ 1000 := by
  have c2 : (1000 : Int32).toInt = 1000 := by decide
  have d := (c_idiv r 2 2 (by decide) (by decide)).1 h.1
  have m : 0 ≤ (own_max (2 * n) (r / 2)).toInt := by
    unfold own_max
    split
    · omega
    · rename_i u
      have w := (not_congr (own_lt _ _)).mp u
      omega
  generalize own_max (2 * n) (r / 2) = q at m ⊢
  unfold own_min
  split
  · rename_i u
    have w := (own_lt _ _).mp u
    omega
  · omega
theorem own_worth (n b : Int32) (h : 1 ≤ n.toInt) : (if (1 : Int32) < n then (1 : Int32) else if b = 0 then (1 : Int32) else (0 : Int32)) = (if n = (1 : Int32) then (if b = 0 then (1 : Int32) else (0 : Int32)) else (1 : Int32)) := by
  have c1 : (1 : Int32).toInt = 1 := by decide
  by_cases a : n = 1
  · subst a; rfl
  · rw [if_neg a, if_pos ((own_lt _ _).mpr (by
      have : ¬ n.toInt = 1 := fun q => a (Int32.toInt_inj.mp (by rw [q]; rfl))
      omega))]
theorem d4_0 : decode method_3_code 0 = .ok (.iload_n 0, 1) := by decide +kernel
theorem d4_1 : decode method_3_code 1 = .ok (.ifCond .ge 10, 3) := by decide +kernel
theorem d4_4 : decode method_3_code 4 = .ok (.iconst 1, 1) := by decide +kernel
theorem d4_5 : decode method_3_code 5 = .ok (.iload_n 0, 1) := by decide +kernel
theorem d4_6 : decode method_3_code 6 = .ok (.bipush 7, 2) := by decide +kernel
theorem d4_8 : decode method_3_code 8 = .ok (.iand, 1) := by decide +kernel
theorem d4_9 : decode method_3_code 9 = .ok (.iadd, 1) := by decide +kernel
theorem d4_10 : decode method_3_code 10 = .ok (.ireturn, 1) := by decide +kernel
theorem d4_11 : decode method_3_code 11 = .ok (.iconst 1, 1) := by decide +kernel
theorem d4_12 : decode method_3_code 12 = .ok (.iload_n 0, 1) := by decide +kernel
theorem d4_13 : decode method_3_code 13 = .ok (.ldc 18, 2) := by decide +kernel
theorem d4_15 : decode method_3_code 15 = .ok (.iand, 1) := by decide +kernel
theorem d4_16 : decode method_3_code 16 = .ok (.iadd, 1) := by decide +kernel
theorem d4_17 : decode method_3_code 17 = .ok (.ireturn, 1) := by decide +kernel
theorem pn1 : plainName "com/example/forefetch/forefetch/BatchWindowStalePinLaw" = true := by first | (simp [plainName, overriddenIn]; done) | decide +kernel
theorem ef_rmA (m : MethodId) (x : Int32) : entryFrame m #[(.int x)] 1 = mkF m 0 #[.val (.int x)] [] := by first | (simp [entryFrame, mkF, argsToLocals, Value.category, maxLocals]; done) | rfl
def QrmA (Z : State) (x : Int32) (n0 : Nat) (h0 : Heap) (rv : Option Value) (h : Heap) : Prop := rv = some (.int (own_ans x)) ∧ h0 = h
abbrev RrmA : Room := { frames := 0, cells := 0, slots := 0, locals := 0 }
set_option maxRecDepth 65536 in
set_option maxHeartbeats 40000000 in
theorem rmA (l : Launch) (Z : State) (a0 : Array Value) (hw : ∀ d ∈ tables_1, d.before a0 Z = true) (ws : List Jvm.Cond) (x : Int32) (n0 : Nat) (h0 : Heap) (hn : n0 ≤ h0.size)   :
    Con l Z (⟨"com/example/forefetch/forefetch/BatchWindowStalePinLaw", "answered", "(I)I"⟩ : MethodName) method_3_code 1 (some .int) ws RrmA #[(.int x)] h0 n0 (QrmA Z x n0 h0) := by
  refine body (y := (⟨"com/example/forefetch/forefetch/BatchWindowStalePinLaw", "answered", "(I)I"⟩ : MethodName)) (Ls := #[.val (.int x)]) (plainFor_of_name pn1) hn (fun m => ef_rmA m x) ?_
  intro p e s m below meth c T0 hx hby hml hown hnm hret hlk hZ X0
  refine i_iloadN (v := x) (pc' := 1) X0 hx (hb hby d4_0) rfl rfl ?_
  by_cases hc1 : x < 0
  · skip
    refine i_ifF (pc' := 4) X0 hx (hb hby d4_1) rfl (XT.i0_ge_f hc1) ?_
    refine i_iconst (pc' := 5) (1 : Int32) X0 hx (hb hby d4_4) rfl (by decide) ?_
    refine i_iloadN (v := x) (pc' := 6) X0 hx (hb hby d4_5) rfl rfl ?_
    refine i_bipush (pc' := 8) (7 : Int32) X0 hx (hb hby d4_6) rfl (by decide) ?_
    refine i_iand (pc' := 9) X0 hx (hb hby d4_8) rfl ?_
    refine i_iadd (pc' := 10) X0 hx (hb hby d4_9) rfl ?_
    refine rI X0 hx hlk hret (hb hby d4_10) (by decide) (by decide) ?_
    exact ⟨(by simp [own_ans, hc1]), rfl⟩
  · skip
    refine i_ifT (pc' := 11) X0 hx (hb hby d4_1) (XT.i0_ge_t hc1) (by decide) (by decide) ?_
    refine i_iconst (pc' := 12) (1 : Int32) X0 hx (hb hby d4_11) rfl (by decide) ?_
    refine i_iloadN (v := x) (pc' := 13) X0 hx (hb hby d4_12) rfl rfl ?_
    refine i_ldc (pc' := 15) (536870911 : Int32) X0 hx hZ hown (hw _ (List.mem_of_getElem? (i := 19) rfl)) (hb hby d4_13) rfl ?_
    refine i_iand (pc' := 16) X0 hx (hb hby d4_15) rfl ?_
    refine i_iadd (pc' := 17) X0 hx (hb hby d4_16) rfl ?_
    refine rI X0 hx hlk hret (hb hby d4_17) (by decide) (by decide) ?_
    exact ⟨(by simp [own_ans, hc1]), rfl⟩
theorem d3_0 : decode method_4_code 0 = .ok (.iload_n 3, 1) := by decide +kernel
theorem d3_1 : decode method_4_code 1 = .ok (.ifCond .eq 53, 3) := by decide +kernel
theorem d3_4 : decode method_4_code 4 = .ok (.aload_n 0, 1) := by decide +kernel
theorem d3_5 : decode method_4_code 5 = .ok (.invokevirtual 19, 3) := by decide +kernel
theorem d3_8 : decode method_4_code 8 = .ok (.aload_n 1, 1) := by decide +kernel
theorem d3_9 : decode method_4_code 9 = .ok (.iconst 1, 1) := by decide +kernel
theorem d3_10 : decode method_4_code 10 = .ok (.iconst 0, 1) := by decide +kernel
theorem d3_11 : decode method_4_code 11 = .ok (.iastore, 1) := by decide +kernel
theorem d3_12 : decode method_4_code 12 = .ok (.aload_n 1, 1) := by decide +kernel
theorem d3_13 : decode method_4_code 13 = .ok (.iconst 0, 1) := by decide +kernel
theorem d3_14 : decode method_4_code 14 = .ok (.iaload, 1) := by decide +kernel
theorem d3_15 : decode method_4_code 15 = .ok (.sipush 500, 3) := by decide +kernel
theorem d3_18 : decode method_4_code 18 = .ok (.if_icmp .le 12, 3) := by decide +kernel
theorem d3_21 : decode method_4_code 21 = .ok (.aload_n 1, 1) := by decide +kernel
theorem d3_22 : decode method_4_code 22 = .ok (.iconst 0, 1) := by decide +kernel
theorem d3_23 : decode method_4_code 23 = .ok (.sipush 1000, 3) := by decide +kernel
theorem d3_26 : decode method_4_code 26 = .ok (.iastore, 1) := by decide +kernel
theorem d3_27 : decode method_4_code 27 = .ok (.goto 11, 3) := by decide +kernel
theorem d3_30 : decode method_4_code 30 = .ok (.aload_n 1, 1) := by decide +kernel
theorem d3_31 : decode method_4_code 31 = .ok (.iconst 0, 1) := by decide +kernel
theorem d3_32 : decode method_4_code 32 = .ok (.iconst 2, 1) := by decide +kernel
theorem d3_33 : decode method_4_code 33 = .ok (.aload_n 1, 1) := by decide +kernel
theorem d3_34 : decode method_4_code 34 = .ok (.iconst 0, 1) := by decide +kernel
theorem d3_35 : decode method_4_code 35 = .ok (.iaload, 1) := by decide +kernel
theorem d3_36 : decode method_4_code 36 = .ok (.imul, 1) := by decide +kernel
theorem d3_37 : decode method_4_code 37 = .ok (.iastore, 1) := by decide +kernel
theorem d3_38 : decode method_4_code 38 = .ok (.aload_n 0, 1) := by decide +kernel
theorem d3_39 : decode method_4_code 39 = .ok (.invokevirtual 22, 3) := by decide +kernel
theorem d3_42 : decode method_4_code 42 = .ok (.aload_n 1, 1) := by decide +kernel
theorem d3_43 : decode method_4_code 43 = .ok (.iconst 0, 1) := by decide +kernel
theorem d3_44 : decode method_4_code 44 = .ok (.iaload, 1) := by decide +kernel
theorem d3_45 : decode method_4_code 45 = .ok (.if_icmp .ne 7, 3) := by decide +kernel
theorem d3_48 : decode method_4_code 48 = .ok (.iconst 1, 1) := by decide +kernel
theorem d3_49 : decode method_4_code 49 = .ok (.goto 4, 3) := by decide +kernel
theorem d3_52 : decode method_4_code 52 = .ok (.iconst 0, 1) := by decide +kernel
theorem d3_53 : decode method_4_code 53 = .ok (.ireturn, 1) := by decide +kernel
theorem d3_54 : decode method_4_code 54 = .ok (.iload_n 2, 1) := by decide +kernel
theorem d3_55 : decode method_4_code 55 = .ok (.invokestatic 26, 3) := by decide +kernel
theorem d3_58 : decode method_4_code 58 = .ok (.istore 4, 2) := by decide +kernel
theorem d3_60 : decode method_4_code 60 = .ok (.iload 4, 2) := by decide +kernel
theorem d3_62 : decode method_4_code 62 = .ok (.iconst 1, 1) := by decide +kernel
theorem d3_63 : decode method_4_code 63 = .ok (.if_icmp .ne 19, 3) := by decide +kernel
theorem d3_66 : decode method_4_code 66 = .ok (.aload_n 1, 1) := by decide +kernel
theorem d3_67 : decode method_4_code 67 = .ok (.iconst 1, 1) := by decide +kernel
theorem d3_68 : decode method_4_code 68 = .ok (.iaload, 1) := by decide +kernel
theorem d3_69 : decode method_4_code 69 = .ok (.ifCond .ne 7, 3) := by decide +kernel
theorem d3_72 : decode method_4_code 72 = .ok (.iconst 1, 1) := by decide +kernel
theorem d3_73 : decode method_4_code 73 = .ok (.goto 4, 3) := by decide +kernel
theorem d3_76 : decode method_4_code 76 = .ok (.iconst 0, 1) := by decide +kernel
theorem d3_77 : decode method_4_code 77 = .ok (.istore 5, 2) := by decide +kernel
theorem d3_79 : decode method_4_code 79 = .ok (.goto 6, 3) := by decide +kernel
theorem d3_82 : decode method_4_code 82 = .ok (.iconst 1, 1) := by decide +kernel
theorem d3_83 : decode method_4_code 83 = .ok (.istore 5, 2) := by decide +kernel
theorem d3_85 : decode method_4_code 85 = .ok (.iconst 2, 1) := by decide +kernel
theorem d3_86 : decode method_4_code 86 = .ok (.iload 4, 2) := by decide +kernel
theorem d3_88 : decode method_4_code 88 = .ok (.imul, 1) := by decide +kernel
theorem d3_89 : decode method_4_code 89 = .ok (.istore 6, 2) := by decide +kernel
theorem d3_91 : decode method_4_code 91 = .ok (.aload_n 1, 1) := by decide +kernel
theorem d3_92 : decode method_4_code 92 = .ok (.iconst 0, 1) := by decide +kernel
theorem d3_93 : decode method_4_code 93 = .ok (.iaload, 1) := by decide +kernel
theorem d3_94 : decode method_4_code 94 = .ok (.iconst 2, 1) := by decide +kernel
theorem d3_95 : decode method_4_code 95 = .ok (.idiv, 1) := by decide +kernel
theorem d3_96 : decode method_4_code 96 = .ok (.istore 7, 2) := by decide +kernel
theorem d3_98 : decode method_4_code 98 = .ok (.iload 7, 2) := by decide +kernel
theorem d3_100 : decode method_4_code 100 = .ok (.iload 6, 2) := by decide +kernel
theorem d3_102 : decode method_4_code 102 = .ok (.if_icmp .le 7, 3) := by decide +kernel
theorem d3_105 : decode method_4_code 105 = .ok (.iload 7, 2) := by decide +kernel
theorem d3_107 : decode method_4_code 107 = .ok (.istore 6, 2) := by decide +kernel
theorem d3_109 : decode method_4_code 109 = .ok (.iload 6, 2) := by decide +kernel
theorem d3_111 : decode method_4_code 111 = .ok (.sipush 1000, 3) := by decide +kernel
theorem d3_114 : decode method_4_code 114 = .ok (.if_icmp .le 8, 3) := by decide +kernel
theorem d3_117 : decode method_4_code 117 = .ok (.sipush 1000, 3) := by decide +kernel
theorem d3_120 : decode method_4_code 120 = .ok (.istore 6, 2) := by decide +kernel
theorem d3_122 : decode method_4_code 122 = .ok (.aload_n 1, 1) := by decide +kernel
theorem d3_123 : decode method_4_code 123 = .ok (.iconst 0, 1) := by decide +kernel
theorem d3_124 : decode method_4_code 124 = .ok (.iload 6, 2) := by decide +kernel
theorem d3_126 : decode method_4_code 126 = .ok (.iastore, 1) := by decide +kernel
theorem d3_127 : decode method_4_code 127 = .ok (.iload 4, 2) := by decide +kernel
theorem d3_129 : decode method_4_code 129 = .ok (.iconst 1, 1) := by decide +kernel
theorem d3_130 : decode method_4_code 130 = .ok (.if_icmp .ne 10, 3) := by decide +kernel
theorem d3_133 : decode method_4_code 133 = .ok (.aload_n 1, 1) := by decide +kernel
theorem d3_134 : decode method_4_code 134 = .ok (.iconst 1, 1) := by decide +kernel
theorem d3_135 : decode method_4_code 135 = .ok (.iconst 1, 1) := by decide +kernel
theorem d3_136 : decode method_4_code 136 = .ok (.iastore, 1) := by decide +kernel
theorem d3_137 : decode method_4_code 137 = .ok (.goto 7, 3) := by decide +kernel
theorem d3_140 : decode method_4_code 140 = .ok (.aload_n 1, 1) := by decide +kernel
theorem d3_141 : decode method_4_code 141 = .ok (.iconst 1, 1) := by decide +kernel
theorem d3_142 : decode method_4_code 142 = .ok (.iconst 0, 1) := by decide +kernel
theorem d3_143 : decode method_4_code 143 = .ok (.iastore, 1) := by decide +kernel
theorem d3_144 : decode method_4_code 144 = .ok (.aload_n 0, 1) := by decide +kernel
theorem d3_145 : decode method_4_code 145 = .ok (.iload 4, 2) := by decide +kernel
theorem d3_147 : decode method_4_code 147 = .ok (.invokevirtual 30, 3) := by decide +kernel
theorem d3_150 : decode method_4_code 150 = .ok (.istore 8, 2) := by decide +kernel
theorem d3_152 : decode method_4_code 152 = .ok (.iload 8, 2) := by decide +kernel
theorem d3_154 : decode method_4_code 154 = .ok (.iload 5, 2) := by decide +kernel
theorem d3_156 : decode method_4_code 156 = .ok (.if_icmp .ne 17, 3) := by decide +kernel
theorem d3_159 : decode method_4_code 159 = .ok (.aload_n 0, 1) := by decide +kernel
theorem d3_160 : decode method_4_code 160 = .ok (.invokevirtual 22, 3) := by decide +kernel
theorem d3_163 : decode method_4_code 163 = .ok (.aload_n 1, 1) := by decide +kernel
theorem d3_164 : decode method_4_code 164 = .ok (.iconst 0, 1) := by decide +kernel
theorem d3_165 : decode method_4_code 165 = .ok (.iaload, 1) := by decide +kernel
theorem d3_166 : decode method_4_code 166 = .ok (.if_icmp .ne 7, 3) := by decide +kernel
theorem d3_169 : decode method_4_code 169 = .ok (.iconst 1, 1) := by decide +kernel
theorem d3_170 : decode method_4_code 170 = .ok (.goto 4, 3) := by decide +kernel
theorem d3_173 : decode method_4_code 173 = .ok (.iconst 0, 1) := by decide +kernel
theorem d3_174 : decode method_4_code 174 = .ok (.ireturn, 1) := by decide +kernel
theorem ef_rmS (m : MethodId) (o : Addr) (t : Addr) (x : Int32) (z : Int32) : entryFrame m #[(.ref o), (.ref t), (.int x), (.int z)] 9 = mkF m 0 #[.val (.ref o), .val (.ref t), .val (.int x), .val (.int z), .unset, .unset, .unset, .unset, .unset] [] := by first | (simp [entryFrame, mkF, argsToLocals, Value.category, maxLocals]; done) | rfl
def QrmS (Z : State) (o : Addr) (t : Addr) (x : Int32) (z : Int32) (r : Int32) (b : Int32) (n0 : Nat) (h0 : Heap) (rv : Option Value) (h : Heap) : Prop := ∃ r' : Int32, ∃ b' : Int32, rv = some (.int (1 : Int32)) ∧ Keep h0 h [o, t] ∧ Fld Z h o "com/example/forefetch/forefetch/BatchWindow" "rows" "I" (.int r') ∧ Fld Z h o "com/example/forefetch/forefetch/BatchWindow" "staleAfterFirst" "Z" (.int b') ∧ Av Z h t .int 2 (own_pair r' b') ∧ (0 ≤ r'.toInt ∧ r'.toInt ≤ 1000)
theorem pd1 : parseMethodDescriptor "(I)I" = some ⟨[.int], some .int⟩ := by decide +kernel
theorem pd2 : parseMethodDescriptor "(I)Z" = some ⟨[.int], some .boolean⟩ := by decide +kernel
theorem pd3 : parseMethodDescriptor "()I" = some ⟨[], some .int⟩ := by decide +kernel
theorem pd4 : parseMethodDescriptor "()V" = some ⟨[], none⟩ := by decide +kernel
abbrev RrmS : Room := { frames := 2, cells := 0, slots := 0, locals := 29 }
set_option maxRecDepth 65536 in
set_option maxHeartbeats 40000000 in
theorem rmS (l : Launch) (Z : State) (a0 : Array Value) (hw : ∀ d ∈ tables_1, d.before a0 Z = true) (ws : List Jvm.Cond) (o : Addr) (t : Addr) (x : Int32) (z : Int32) (r : Int32) (b : Int32) (n0 : Nat) (h0 : Heap) (hn : n0 ≤ h0.size) (H0 : Exa Z h0 o "com/example/forefetch/forefetch/BatchWindow") (H1 : Fld Z h0 o "com/example/forefetch/forefetch/BatchWindow" "rows" "I" (.int r)) (H2 : Fld Z h0 o "com/example/forefetch/forefetch/BatchWindow" "staleAfterFirst" "Z" (.int b)) (H3 : Av Z h0 t .int 2 (own_pair r b)) (H4 : n0 ≤ o) (H5 : n0 ≤ t) (H6 : o ≠ t) (hr : 0 ≤ r.toInt ∧ r.toInt ≤ 1000) :
    Con l Z (⟨"com/example/forefetch/forefetch/BatchWindowStalePinLaw", "step", "(Lcom/example/forefetch/forefetch/BatchWindow;[IIZ)Z"⟩ : MethodName) method_4_code 9 (some .boolean) ws RrmS #[(.ref o), (.ref t), (.int x), (.int z)] h0 n0 (QrmS Z o t x z r b n0 h0) := by
  refine body (y := (⟨"com/example/forefetch/forefetch/BatchWindowStalePinLaw", "step", "(Lcom/example/forefetch/forefetch/BatchWindow;[IIZ)Z"⟩ : MethodName)) (Ls := #[.val (.ref o), .val (.ref t), .val (.int x), .val (.int z), .unset, .unset, .unset, .unset, .unset]) (plainFor_of_name pn1) hn (fun m => ef_rmS m o t x z) ?_
  intro p e s m below meth c T0 hx hby hml hown hnm hret hlk hZ X0
  refine i_iloadN (v := z) (pc' := 1) X0 hx (hb hby d3_0) rfl rfl ?_
  by_cases hc1 : z = 0
  · skip
    refine i_ifT (pc' := 54) X0 hx (hb hby d3_1) (XT.i0_eq_t hc1) (by decide) (by decide) ?_
    refine i_iloadN (v := x) (pc' := 55) X0 hx (hb hby d3_54) rfl rfl ?_
    refine cS (y := (⟨"com/example/forefetch/forefetch/BatchWindowStalePinLaw", "answered", "(I)I"⟩ : MethodName)) (rest := []) (pc' := 58) 0 [(.int x)] X0 hx hZ hown (hw _ (List.mem_of_getElem? (i := 16) rfl)) (hw _ (List.mem_of_getElem? (i := 17) rfl)) (hw _ (List.mem_of_getElem? (i := 14) rfl)) (hw _ (List.mem_of_getElem? (i := 18) rfl)) (by decide) (rmA l Z a0 hw [] x n0 h0 X0.le ) (by decide) (by decide) (by rw [hml]; rfl) rfl (lenOf pd1 rfl) rfl (Nat.le_of_eq rfl) (hb hby d3_55) rfl (by decide) (by decide) ?_
    intro r2 T2 h2 X2 q2
    obtain ⟨rfl, eh2⟩ := q2
    subst eh2
    show Go _ _ _ _ _ _ _ T2 (mkF m 58 #[.val (.ref o), .val (.ref t), .val (.int x), .val (.int z), .unset, .unset, .unset, .unset, .unset] [(.int (own_ans x))])
    obtain ⟨v3, hv3⟩ : ∃ zz : Int32, zz = (own_ans x) := ⟨_, rfl⟩
    rw [← hv3]
    refine i_istore (L' := #[.val (.ref o), .val (.ref t), .val (.int x), .val (.int z), .val (.int v3), .unset, .unset, .unset, .unset]) (pc' := 60) X2 hx (hb hby d3_58) rfl rfl ?_
    refine i_iload (v := v3) (pc' := 62) X2 hx (hb hby d3_60) rfl rfl ?_
    refine i_iconst (pc' := 63) (1 : Int32) X2 hx (hb hby d3_62) rfl (by decide) ?_
    by_cases hc4 : v3 = (1 : Int32)
    · skip
      refine i_icF (pc' := 66) X2 hx (hb hby d3_63) rfl (XT.ii_ne_f hc4) ?_
      refine i_aloadN (v := (.ref t)) (pc' := 67) X2 hx (hb hby d3_66) rfl rfl rfl ?_
      refine i_iconst (pc' := 68) (1 : Int32) X2 hx (hb hby d3_67) rfl (by decide) ?_
      refine ldI (v := (.int b)) (pc' := 69) X2 hx hZ H3 (by decide) (by decide) (own_p1 _ _) (hb hby d3_68) rfl ?_
      by_cases hc5 : b = 0
      · skip
        refine i_ifF (pc' := 72) X2 hx (hb hby d3_69) rfl (XT.i0_ne_f hc5) ?_
        refine i_iconst (pc' := 73) (1 : Int32) X2 hx (hb hby d3_72) rfl (by decide) ?_
        refine i_goto (pc' := 77) X2 hx (hb hby d3_73) (by decide) (by decide) ?_
        refine i_istore (L' := #[.val (.ref o), .val (.ref t), .val (.int x), .val (.int z), .val (.int v3), .val (.int (1 : Int32)), .unset, .unset, .unset]) (pc' := 79) X2 hx (hb hby d3_77) rfl rfl ?_
        refine i_goto (pc' := 85) X2 hx (hb hby d3_79) (by decide) (by decide) ?_
        refine i_iconst (pc' := 86) (2 : Int32) X2 hx (hb hby d3_85) rfl (by decide) ?_
        refine i_iload (v := v3) (pc' := 88) X2 hx (hb hby d3_86) rfl rfl ?_
        refine i_imul (pc' := 89) X2 hx (hb hby d3_88) rfl ?_
        obtain ⟨v6, hv6⟩ : ∃ zz : Int32, zz = ((2 : Int32) * v3) := ⟨_, rfl⟩
        rw [← hv6]
        refine i_istore (L' := #[.val (.ref o), .val (.ref t), .val (.int x), .val (.int z), .val (.int v3), .val (.int (1 : Int32)), .val (.int v6), .unset, .unset]) (pc' := 91) X2 hx (hb hby d3_89) rfl rfl ?_
        refine i_aloadN (v := (.ref t)) (pc' := 92) X2 hx (hb hby d3_91) rfl rfl rfl ?_
        refine i_iconst (pc' := 93) (0 : Int32) X2 hx (hb hby d3_92) rfl (by decide) ?_
        refine ldI (v := (.int r)) (pc' := 94) X2 hx hZ H3 (by decide) (by decide) (own_p0 _ _) (hb hby d3_93) rfl ?_
        refine i_iconst (pc' := 95) (2 : Int32) X2 hx (hb hby d3_94) rfl (by decide) ?_
        refine i_idiv (pc' := 96) X2 hx (hb hby d3_95) rfl (by decide) ?_
        obtain ⟨v7, hv7⟩ : ∃ zz : Int32, zz = (r / (2 : Int32)) := ⟨_, rfl⟩
        rw [← hv7]
        refine i_istore (L' := #[.val (.ref o), .val (.ref t), .val (.int x), .val (.int z), .val (.int v3), .val (.int (1 : Int32)), .val (.int v6), .val (.int v7), .unset]) (pc' := 98) X2 hx (hb hby d3_96) rfl rfl ?_
        refine i_iload (v := v7) (pc' := 100) X2 hx (hb hby d3_98) rfl rfl ?_
        refine i_iload (v := v6) (pc' := 102) X2 hx (hb hby d3_100) rfl rfl ?_
        by_cases hc8 : v6 < v7
        · skip
          refine i_icF (pc' := 105) X2 hx (hb hby d3_102) rfl (XT.ii_le_f hc8) ?_
          refine i_iload (v := v7) (pc' := 107) X2 hx (hb hby d3_105) rfl rfl ?_
          refine i_istore (L' := #[.val (.ref o), .val (.ref t), .val (.int x), .val (.int z), .val (.int v3), .val (.int (1 : Int32)), .val (.int v7), .val (.int v7), .unset]) (pc' := 109) X2 hx (hb hby d3_107) rfl rfl ?_
          refine i_iload (v := v7) (pc' := 111) X2 hx (hb hby d3_109) rfl rfl ?_
          refine i_sipush (pc' := 114) (1000 : Int32) X2 hx (hb hby d3_111) rfl (by decide) ?_
          by_cases hc9 : (1000 : Int32) < v7
          · skip
            refine i_icF (pc' := 117) X2 hx (hb hby d3_114) rfl (XT.ii_le_f hc9) ?_
            refine i_sipush (pc' := 120) (1000 : Int32) X2 hx (hb hby d3_117) rfl (by decide) ?_
            refine i_istore (L' := #[.val (.ref o), .val (.ref t), .val (.int x), .val (.int z), .val (.int v3), .val (.int (1 : Int32)), .val (.int (1000 : Int32)), .val (.int v7), .unset]) (pc' := 122) X2 hx (hb hby d3_120) rfl rfl ?_
            refine i_aloadN (v := (.ref t)) (pc' := 123) X2 hx (hb hby d3_122) rfl rfl rfl ?_
            refine i_iconst (pc' := 124) (0 : Int32) X2 hx (hb hby d3_123) rfl (by decide) ?_
            refine i_iload (v := (1000 : Int32)) (pc' := 126) X2 hx (hb hby d3_124) rfl rfl ?_
            refine saI (pc' := 127) X2 hx hZ H3 H5 (by decide) (by decide) (hb hby d3_126) rfl fun T10 h10 X10 W10 => ?_
            refine i_iload (v := v3) (pc' := 129) X10 hx (hb hby d3_127) rfl rfl ?_
            refine i_iconst (pc' := 130) (1 : Int32) X10 hx (hb hby d3_129) rfl (by decide) ?_
            refine i_icF (pc' := 133) X10 hx (hb hby d3_130) rfl (XT.ii_ne_f hc4) ?_
            refine i_aloadN (v := (.ref t)) (pc' := 134) X10 hx (hb hby d3_133) rfl rfl rfl ?_
            refine i_iconst (pc' := 135) (1 : Int32) X10 hx (hb hby d3_134) rfl (by decide) ?_
            refine i_iconst (pc' := 136) (1 : Int32) X10 hx (hb hby d3_135) rfl (by decide) ?_
            have F11 : Av Z h10 t .int 2 (own_pair (1000 : Int32) b) := (own_set0 H3 W10)
            refine saI (pc' := 137) X10 hx hZ F11 H5 (by decide) (by decide) (hb hby d3_136) rfl fun T12 h12 X12 W12 => ?_
            refine i_goto (pc' := 144) X12 hx (hb hby d3_137) (by decide) (by decide) ?_
            refine i_aloadN (v := (.ref o)) (pc' := 145) X12 hx (hb hby d3_144) rfl rfl rfl ?_
            refine i_iload (v := v3) (pc' := 147) X12 hx (hb hby d3_145) rfl rfl ?_
            have F13 : Exa Z h12 o "com/example/forefetch/forefetch/BatchWindow" := (Jvm.RoadKit.Exa.wr W12 (Jvm.RoadKit.Exa.wr W10 H0))
            have F14 : Fld Z h12 o "com/example/forefetch/forefetch/BatchWindow" "rows" "I" (.int r) := (Jvm.RoadKit.Fld.other W12 (Jvm.RoadKit.Fld.other W10 H1 (Or.inl H6)) (Or.inl H6))
            have F15 : Fld Z h12 o "com/example/forefetch/forefetch/BatchWindow" "staleAfterFirst" "Z" (.int b) := (Jvm.RoadKit.Fld.other W12 (Jvm.RoadKit.Fld.other W10 H2 (Or.inl H6)) (Or.inl H6))
            refine cV (y := (⟨"com/example/forefetch/forefetch/BatchWindow", "stale", "(I)Z"⟩ : MethodName)) (C := "com/example/forefetch/forefetch/BatchWindow") (rest := []) (pc' := 150) 0 [(.int v3)] X12 hx hZ hown (hw _ (List.mem_of_getElem? (i := 20) rfl)) (hw _ (List.mem_of_getElem? (i := 21) rfl)) (hw _ (List.mem_of_getElem? (i := 23) rfl)) (hw _ (List.mem_of_getElem? (i := 22) rfl)) (hw _ (List.mem_of_getElem? (i := 2) rfl)) (hw _ (List.mem_of_getElem? (i := 24) rfl)) (by decide) F13 (rm6 l Z a0 hw [] o v3 r b n0 h12 X12.le F13 F14 F15 H4) (by decide) (by decide) (by rw [hml]; rfl) rfl (lenOf pd2 rfl) rfl (Nat.le_of_eq rfl) (hb hby d3_147) rfl (by decide) (by decide) ?_
            intro r16 T16 h16 X16 q16
            obtain ⟨rfl, K16c, P16_0, P16_1⟩ := q16
            show Go _ _ _ _ _ _ _ T16 (mkF m 150 #[.val (.ref o), .val (.ref t), .val (.int x), .val (.int z), .val (.int v3), .val (.int (1 : Int32)), .val (.int (1000 : Int32)), .val (.int v7), .unset] [(.int (if (1 : Int32) < v3 then (1 : Int32) else if b = 0 then (1 : Int32) else (0 : Int32)))])
            obtain ⟨v17, hv17⟩ : ∃ zz : Int32, zz = (if (1 : Int32) < v3 then (1 : Int32) else if b = 0 then (1 : Int32) else (0 : Int32)) := ⟨_, rfl⟩
            rw [← hv17]
            refine i_istore (L' := #[.val (.ref o), .val (.ref t), .val (.int x), .val (.int z), .val (.int v3), .val (.int (1 : Int32)), .val (.int (1000 : Int32)), .val (.int v7), .val (.int v17)]) (pc' := 152) X16 hx (hb hby d3_150) rfl rfl ?_
            refine i_iload (v := v17) (pc' := 154) X16 hx (hb hby d3_152) rfl rfl ?_
            refine i_iload (v := (1 : Int32)) (pc' := 156) X16 hx (hb hby d3_154) rfl rfl ?_
            refine i_icF (pc' := 159) X16 hx (hb hby d3_156) rfl (XT.ii_ne_f (hv17.trans ((own_worth _ _ (by rw [hv3]; exact own_ans1 _)).trans (by simp [hc1, hc4, hc5, hc8, hc9])))) ?_
            refine i_aloadN (v := (.ref o)) (pc' := 160) X16 hx (hb hby d3_159) rfl rfl rfl ?_
            have F19 : Exa Z h16 o "com/example/forefetch/forefetch/BatchWindow" := (F13.keep K16c)
            refine cV (y := (⟨"com/example/forefetch/forefetch/BatchWindow", "rows", "()I"⟩ : MethodName)) (C := "com/example/forefetch/forefetch/BatchWindow") (rest := []) (pc' := 163) 0 [] X16 hx hZ hown (hw _ (List.mem_of_getElem? (i := 34) rfl)) (hw _ (List.mem_of_getElem? (i := 35) rfl)) (hw _ (List.mem_of_getElem? (i := 37) rfl)) (hw _ (List.mem_of_getElem? (i := 36) rfl)) (hw _ (List.mem_of_getElem? (i := 2) rfl)) (hw _ (List.mem_of_getElem? (i := 38) rfl)) (by decide) F19 (rm3 l Z a0 hw [] o (own_min (1000 : Int32) (own_max ((2 : Int32) * v3) (r / (2 : Int32)))) n0 h16 X16.le P16_0) (by decide) (by decide) (by rw [hml]; rfl) rfl (lenOf pd3 rfl) rfl (Nat.le_of_eq rfl) (hb hby d3_160) rfl (by decide) (by decide) ?_
            intro r18 T18 h18 X18 q18
            obtain ⟨rfl, eh18⟩ := q18
            subst eh18
            show Go _ _ _ _ _ _ _ T18 (mkF m 163 #[.val (.ref o), .val (.ref t), .val (.int x), .val (.int z), .val (.int v3), .val (.int (1 : Int32)), .val (.int (1000 : Int32)), .val (.int v7), .val (.int v17)] [(.int (own_min (1000 : Int32) (own_max ((2 : Int32) * v3) (r / (2 : Int32)))))])
            refine i_aloadN (v := (.ref t)) (pc' := 164) X18 hx (hb hby d3_163) rfl rfl rfl ?_
            refine i_iconst (pc' := 165) (0 : Int32) X18 hx (hb hby d3_164) rfl (by decide) ?_
            have F20 : Av Z h16 t .int 2 (own_pair (1000 : Int32) (1 : Int32)) := ((own_set1 F11 W12).keep K16c (ninS (Ne.symm H6) nin0))
            refine ldI (v := (.int (1000 : Int32))) (pc' := 166) X18 hx hZ F20 (by decide) (by decide) (own_p0 _ _) (hb hby d3_165) rfl ?_
            have erow : own_min (1000 : Int32) (own_max ((2 : Int32) * v3) (r / (2 : Int32))) = (1000 : Int32) := by rw [own_next]; unfold own_max; rw [← hv6, ← hv7]; simp only [hc1, hc4, hc5, hc8, hc9, if_true, if_false]
            refine i_icF (pc' := 169) X18 hx (hb hby d3_166) rfl (XT.ii_ne_f erow) ?_
            refine i_iconst (pc' := 170) (1 : Int32) X18 hx (hb hby d3_169) rfl (by decide) ?_
            refine i_goto (pc' := 174) X18 hx (hb hby d3_170) (by decide) (by decide) ?_
            refine rN X18 hx hlk hret (by simp) (hb hby d3_174) (by decide) (by decide) ?_
            exact ⟨(own_min (1000 : Int32) (own_max ((2 : Int32) * v3) (r / (2 : Int32)))), (if v3 = (1 : Int32) then (1 : Int32) else (0 : Int32)), (by decide), (((((Keep.refl h0 _).wr W10 (Or.inl (List.mem_of_getElem? (i := 1) rfl))).wr W12 (Or.inl (List.mem_of_getElem? (i := 1) rfl))) : Keep h0 h12 [o, t]).trans K16c (allS (Or.inl (List.mem_of_getElem? (i := 0) rfl)) all0)), P16_0, P16_1, (by have q := F20; rw [erow, if_pos hc4]; exact q), (own_rng _ hr)⟩
          · skip
            refine i_icT (pc' := 122) X2 hx (hb hby d3_114) (XT.ii_le_t hc9) (by decide) (by decide) ?_
            refine i_aloadN (v := (.ref t)) (pc' := 123) X2 hx (hb hby d3_122) rfl rfl rfl ?_
            refine i_iconst (pc' := 124) (0 : Int32) X2 hx (hb hby d3_123) rfl (by decide) ?_
            refine i_iload (v := v7) (pc' := 126) X2 hx (hb hby d3_124) rfl rfl ?_
            refine saI (pc' := 127) X2 hx hZ H3 H5 (by decide) (by decide) (hb hby d3_126) rfl fun T21 h21 X21 W21 => ?_
            refine i_iload (v := v3) (pc' := 129) X21 hx (hb hby d3_127) rfl rfl ?_
            refine i_iconst (pc' := 130) (1 : Int32) X21 hx (hb hby d3_129) rfl (by decide) ?_
            refine i_icF (pc' := 133) X21 hx (hb hby d3_130) rfl (XT.ii_ne_f hc4) ?_
            refine i_aloadN (v := (.ref t)) (pc' := 134) X21 hx (hb hby d3_133) rfl rfl rfl ?_
            refine i_iconst (pc' := 135) (1 : Int32) X21 hx (hb hby d3_134) rfl (by decide) ?_
            refine i_iconst (pc' := 136) (1 : Int32) X21 hx (hb hby d3_135) rfl (by decide) ?_
            have F22 : Av Z h21 t .int 2 (own_pair v7 b) := (own_set0 H3 W21)
            refine saI (pc' := 137) X21 hx hZ F22 H5 (by decide) (by decide) (hb hby d3_136) rfl fun T23 h23 X23 W23 => ?_
            refine i_goto (pc' := 144) X23 hx (hb hby d3_137) (by decide) (by decide) ?_
            refine i_aloadN (v := (.ref o)) (pc' := 145) X23 hx (hb hby d3_144) rfl rfl rfl ?_
            refine i_iload (v := v3) (pc' := 147) X23 hx (hb hby d3_145) rfl rfl ?_
            have F24 : Exa Z h23 o "com/example/forefetch/forefetch/BatchWindow" := (Jvm.RoadKit.Exa.wr W23 (Jvm.RoadKit.Exa.wr W21 H0))
            have F25 : Fld Z h23 o "com/example/forefetch/forefetch/BatchWindow" "rows" "I" (.int r) := (Jvm.RoadKit.Fld.other W23 (Jvm.RoadKit.Fld.other W21 H1 (Or.inl H6)) (Or.inl H6))
            have F26 : Fld Z h23 o "com/example/forefetch/forefetch/BatchWindow" "staleAfterFirst" "Z" (.int b) := (Jvm.RoadKit.Fld.other W23 (Jvm.RoadKit.Fld.other W21 H2 (Or.inl H6)) (Or.inl H6))
            refine cV (y := (⟨"com/example/forefetch/forefetch/BatchWindow", "stale", "(I)Z"⟩ : MethodName)) (C := "com/example/forefetch/forefetch/BatchWindow") (rest := []) (pc' := 150) 0 [(.int v3)] X23 hx hZ hown (hw _ (List.mem_of_getElem? (i := 20) rfl)) (hw _ (List.mem_of_getElem? (i := 21) rfl)) (hw _ (List.mem_of_getElem? (i := 23) rfl)) (hw _ (List.mem_of_getElem? (i := 22) rfl)) (hw _ (List.mem_of_getElem? (i := 2) rfl)) (hw _ (List.mem_of_getElem? (i := 24) rfl)) (by decide) F24 (rm6 l Z a0 hw [] o v3 r b n0 h23 X23.le F24 F25 F26 H4) (by decide) (by decide) (by rw [hml]; rfl) rfl (lenOf pd2 rfl) rfl (Nat.le_of_eq rfl) (hb hby d3_147) rfl (by decide) (by decide) ?_
            intro r27 T27 h27 X27 q27
            obtain ⟨rfl, K27c, P27_0, P27_1⟩ := q27
            show Go _ _ _ _ _ _ _ T27 (mkF m 150 #[.val (.ref o), .val (.ref t), .val (.int x), .val (.int z), .val (.int v3), .val (.int (1 : Int32)), .val (.int v7), .val (.int v7), .unset] [(.int (if (1 : Int32) < v3 then (1 : Int32) else if b = 0 then (1 : Int32) else (0 : Int32)))])
            obtain ⟨v28, hv28⟩ : ∃ zz : Int32, zz = (if (1 : Int32) < v3 then (1 : Int32) else if b = 0 then (1 : Int32) else (0 : Int32)) := ⟨_, rfl⟩
            rw [← hv28]
            refine i_istore (L' := #[.val (.ref o), .val (.ref t), .val (.int x), .val (.int z), .val (.int v3), .val (.int (1 : Int32)), .val (.int v7), .val (.int v7), .val (.int v28)]) (pc' := 152) X27 hx (hb hby d3_150) rfl rfl ?_
            refine i_iload (v := v28) (pc' := 154) X27 hx (hb hby d3_152) rfl rfl ?_
            refine i_iload (v := (1 : Int32)) (pc' := 156) X27 hx (hb hby d3_154) rfl rfl ?_
            refine i_icF (pc' := 159) X27 hx (hb hby d3_156) rfl (XT.ii_ne_f (hv28.trans ((own_worth _ _ (by rw [hv3]; exact own_ans1 _)).trans (by simp [hc1, hc4, hc5, hc8, hc9])))) ?_
            refine i_aloadN (v := (.ref o)) (pc' := 160) X27 hx (hb hby d3_159) rfl rfl rfl ?_
            have F30 : Exa Z h27 o "com/example/forefetch/forefetch/BatchWindow" := (F24.keep K27c)
            refine cV (y := (⟨"com/example/forefetch/forefetch/BatchWindow", "rows", "()I"⟩ : MethodName)) (C := "com/example/forefetch/forefetch/BatchWindow") (rest := []) (pc' := 163) 0 [] X27 hx hZ hown (hw _ (List.mem_of_getElem? (i := 34) rfl)) (hw _ (List.mem_of_getElem? (i := 35) rfl)) (hw _ (List.mem_of_getElem? (i := 37) rfl)) (hw _ (List.mem_of_getElem? (i := 36) rfl)) (hw _ (List.mem_of_getElem? (i := 2) rfl)) (hw _ (List.mem_of_getElem? (i := 38) rfl)) (by decide) F30 (rm3 l Z a0 hw [] o (own_min (1000 : Int32) (own_max ((2 : Int32) * v3) (r / (2 : Int32)))) n0 h27 X27.le P27_0) (by decide) (by decide) (by rw [hml]; rfl) rfl (lenOf pd3 rfl) rfl (Nat.le_of_eq rfl) (hb hby d3_160) rfl (by decide) (by decide) ?_
            intro r29 T29 h29 X29 q29
            obtain ⟨rfl, eh29⟩ := q29
            subst eh29
            show Go _ _ _ _ _ _ _ T29 (mkF m 163 #[.val (.ref o), .val (.ref t), .val (.int x), .val (.int z), .val (.int v3), .val (.int (1 : Int32)), .val (.int v7), .val (.int v7), .val (.int v28)] [(.int (own_min (1000 : Int32) (own_max ((2 : Int32) * v3) (r / (2 : Int32)))))])
            refine i_aloadN (v := (.ref t)) (pc' := 164) X29 hx (hb hby d3_163) rfl rfl rfl ?_
            refine i_iconst (pc' := 165) (0 : Int32) X29 hx (hb hby d3_164) rfl (by decide) ?_
            have F31 : Av Z h27 t .int 2 (own_pair v7 (1 : Int32)) := ((own_set1 F22 W23).keep K27c (ninS (Ne.symm H6) nin0))
            refine ldI (v := (.int v7)) (pc' := 166) X29 hx hZ F31 (by decide) (by decide) (own_p0 _ _) (hb hby d3_165) rfl ?_
            have erow : own_min (1000 : Int32) (own_max ((2 : Int32) * v3) (r / (2 : Int32))) = v7 := by rw [own_next]; unfold own_max; rw [← hv6, ← hv7]; simp only [hc1, hc4, hc5, hc8, hc9, if_true, if_false]
            refine i_icF (pc' := 169) X29 hx (hb hby d3_166) rfl (XT.ii_ne_f erow) ?_
            refine i_iconst (pc' := 170) (1 : Int32) X29 hx (hb hby d3_169) rfl (by decide) ?_
            refine i_goto (pc' := 174) X29 hx (hb hby d3_170) (by decide) (by decide) ?_
            refine rN X29 hx hlk hret (by simp) (hb hby d3_174) (by decide) (by decide) ?_
            exact ⟨(own_min (1000 : Int32) (own_max ((2 : Int32) * v3) (r / (2 : Int32)))), (if v3 = (1 : Int32) then (1 : Int32) else (0 : Int32)), (by decide), (((((Keep.refl h0 _).wr W21 (Or.inl (List.mem_of_getElem? (i := 1) rfl))).wr W23 (Or.inl (List.mem_of_getElem? (i := 1) rfl))) : Keep h0 h23 [o, t]).trans K27c (allS (Or.inl (List.mem_of_getElem? (i := 0) rfl)) all0)), P27_0, P27_1, (by have q := F31; rw [erow, if_pos hc4]; exact q), (own_rng _ hr)⟩
        · skip
          refine i_icT (pc' := 109) X2 hx (hb hby d3_102) (XT.ii_le_t hc8) (by decide) (by decide) ?_
          refine i_iload (v := v6) (pc' := 111) X2 hx (hb hby d3_109) rfl rfl ?_
          refine i_sipush (pc' := 114) (1000 : Int32) X2 hx (hb hby d3_111) rfl (by decide) ?_
          by_cases hc32 : (1000 : Int32) < v6
          · skip
            refine i_icF (pc' := 117) X2 hx (hb hby d3_114) rfl (XT.ii_le_f hc32) ?_
            refine i_sipush (pc' := 120) (1000 : Int32) X2 hx (hb hby d3_117) rfl (by decide) ?_
            refine i_istore (L' := #[.val (.ref o), .val (.ref t), .val (.int x), .val (.int z), .val (.int v3), .val (.int (1 : Int32)), .val (.int (1000 : Int32)), .val (.int v7), .unset]) (pc' := 122) X2 hx (hb hby d3_120) rfl rfl ?_
            refine i_aloadN (v := (.ref t)) (pc' := 123) X2 hx (hb hby d3_122) rfl rfl rfl ?_
            refine i_iconst (pc' := 124) (0 : Int32) X2 hx (hb hby d3_123) rfl (by decide) ?_
            refine i_iload (v := (1000 : Int32)) (pc' := 126) X2 hx (hb hby d3_124) rfl rfl ?_
            refine saI (pc' := 127) X2 hx hZ H3 H5 (by decide) (by decide) (hb hby d3_126) rfl fun T33 h33 X33 W33 => ?_
            refine i_iload (v := v3) (pc' := 129) X33 hx (hb hby d3_127) rfl rfl ?_
            refine i_iconst (pc' := 130) (1 : Int32) X33 hx (hb hby d3_129) rfl (by decide) ?_
            refine i_icF (pc' := 133) X33 hx (hb hby d3_130) rfl (XT.ii_ne_f hc4) ?_
            refine i_aloadN (v := (.ref t)) (pc' := 134) X33 hx (hb hby d3_133) rfl rfl rfl ?_
            refine i_iconst (pc' := 135) (1 : Int32) X33 hx (hb hby d3_134) rfl (by decide) ?_
            refine i_iconst (pc' := 136) (1 : Int32) X33 hx (hb hby d3_135) rfl (by decide) ?_
            have F34 : Av Z h33 t .int 2 (own_pair (1000 : Int32) b) := (own_set0 H3 W33)
            refine saI (pc' := 137) X33 hx hZ F34 H5 (by decide) (by decide) (hb hby d3_136) rfl fun T35 h35 X35 W35 => ?_
            refine i_goto (pc' := 144) X35 hx (hb hby d3_137) (by decide) (by decide) ?_
            refine i_aloadN (v := (.ref o)) (pc' := 145) X35 hx (hb hby d3_144) rfl rfl rfl ?_
            refine i_iload (v := v3) (pc' := 147) X35 hx (hb hby d3_145) rfl rfl ?_
            have F36 : Exa Z h35 o "com/example/forefetch/forefetch/BatchWindow" := (Jvm.RoadKit.Exa.wr W35 (Jvm.RoadKit.Exa.wr W33 H0))
            have F37 : Fld Z h35 o "com/example/forefetch/forefetch/BatchWindow" "rows" "I" (.int r) := (Jvm.RoadKit.Fld.other W35 (Jvm.RoadKit.Fld.other W33 H1 (Or.inl H6)) (Or.inl H6))
            have F38 : Fld Z h35 o "com/example/forefetch/forefetch/BatchWindow" "staleAfterFirst" "Z" (.int b) := (Jvm.RoadKit.Fld.other W35 (Jvm.RoadKit.Fld.other W33 H2 (Or.inl H6)) (Or.inl H6))
            refine cV (y := (⟨"com/example/forefetch/forefetch/BatchWindow", "stale", "(I)Z"⟩ : MethodName)) (C := "com/example/forefetch/forefetch/BatchWindow") (rest := []) (pc' := 150) 0 [(.int v3)] X35 hx hZ hown (hw _ (List.mem_of_getElem? (i := 20) rfl)) (hw _ (List.mem_of_getElem? (i := 21) rfl)) (hw _ (List.mem_of_getElem? (i := 23) rfl)) (hw _ (List.mem_of_getElem? (i := 22) rfl)) (hw _ (List.mem_of_getElem? (i := 2) rfl)) (hw _ (List.mem_of_getElem? (i := 24) rfl)) (by decide) F36 (rm6 l Z a0 hw [] o v3 r b n0 h35 X35.le F36 F37 F38 H4) (by decide) (by decide) (by rw [hml]; rfl) rfl (lenOf pd2 rfl) rfl (Nat.le_of_eq rfl) (hb hby d3_147) rfl (by decide) (by decide) ?_
            intro r39 T39 h39 X39 q39
            obtain ⟨rfl, K39c, P39_0, P39_1⟩ := q39
            show Go _ _ _ _ _ _ _ T39 (mkF m 150 #[.val (.ref o), .val (.ref t), .val (.int x), .val (.int z), .val (.int v3), .val (.int (1 : Int32)), .val (.int (1000 : Int32)), .val (.int v7), .unset] [(.int (if (1 : Int32) < v3 then (1 : Int32) else if b = 0 then (1 : Int32) else (0 : Int32)))])
            obtain ⟨v40, hv40⟩ : ∃ zz : Int32, zz = (if (1 : Int32) < v3 then (1 : Int32) else if b = 0 then (1 : Int32) else (0 : Int32)) := ⟨_, rfl⟩
            rw [← hv40]
            refine i_istore (L' := #[.val (.ref o), .val (.ref t), .val (.int x), .val (.int z), .val (.int v3), .val (.int (1 : Int32)), .val (.int (1000 : Int32)), .val (.int v7), .val (.int v40)]) (pc' := 152) X39 hx (hb hby d3_150) rfl rfl ?_
            refine i_iload (v := v40) (pc' := 154) X39 hx (hb hby d3_152) rfl rfl ?_
            refine i_iload (v := (1 : Int32)) (pc' := 156) X39 hx (hb hby d3_154) rfl rfl ?_
            refine i_icF (pc' := 159) X39 hx (hb hby d3_156) rfl (XT.ii_ne_f (hv40.trans ((own_worth _ _ (by rw [hv3]; exact own_ans1 _)).trans (by simp [hc1, hc4, hc5, hc8, hc32])))) ?_
            refine i_aloadN (v := (.ref o)) (pc' := 160) X39 hx (hb hby d3_159) rfl rfl rfl ?_
            have F42 : Exa Z h39 o "com/example/forefetch/forefetch/BatchWindow" := (F36.keep K39c)
            refine cV (y := (⟨"com/example/forefetch/forefetch/BatchWindow", "rows", "()I"⟩ : MethodName)) (C := "com/example/forefetch/forefetch/BatchWindow") (rest := []) (pc' := 163) 0 [] X39 hx hZ hown (hw _ (List.mem_of_getElem? (i := 34) rfl)) (hw _ (List.mem_of_getElem? (i := 35) rfl)) (hw _ (List.mem_of_getElem? (i := 37) rfl)) (hw _ (List.mem_of_getElem? (i := 36) rfl)) (hw _ (List.mem_of_getElem? (i := 2) rfl)) (hw _ (List.mem_of_getElem? (i := 38) rfl)) (by decide) F42 (rm3 l Z a0 hw [] o (own_min (1000 : Int32) (own_max ((2 : Int32) * v3) (r / (2 : Int32)))) n0 h39 X39.le P39_0) (by decide) (by decide) (by rw [hml]; rfl) rfl (lenOf pd3 rfl) rfl (Nat.le_of_eq rfl) (hb hby d3_160) rfl (by decide) (by decide) ?_
            intro r41 T41 h41 X41 q41
            obtain ⟨rfl, eh41⟩ := q41
            subst eh41
            show Go _ _ _ _ _ _ _ T41 (mkF m 163 #[.val (.ref o), .val (.ref t), .val (.int x), .val (.int z), .val (.int v3), .val (.int (1 : Int32)), .val (.int (1000 : Int32)), .val (.int v7), .val (.int v40)] [(.int (own_min (1000 : Int32) (own_max ((2 : Int32) * v3) (r / (2 : Int32)))))])
            refine i_aloadN (v := (.ref t)) (pc' := 164) X41 hx (hb hby d3_163) rfl rfl rfl ?_
            refine i_iconst (pc' := 165) (0 : Int32) X41 hx (hb hby d3_164) rfl (by decide) ?_
            have F43 : Av Z h39 t .int 2 (own_pair (1000 : Int32) (1 : Int32)) := ((own_set1 F34 W35).keep K39c (ninS (Ne.symm H6) nin0))
            refine ldI (v := (.int (1000 : Int32))) (pc' := 166) X41 hx hZ F43 (by decide) (by decide) (own_p0 _ _) (hb hby d3_165) rfl ?_
            have erow : own_min (1000 : Int32) (own_max ((2 : Int32) * v3) (r / (2 : Int32))) = (1000 : Int32) := by rw [own_next]; unfold own_max; rw [← hv6, ← hv7]; simp only [hc1, hc4, hc5, hc8, hc32, if_true, if_false]
            refine i_icF (pc' := 169) X41 hx (hb hby d3_166) rfl (XT.ii_ne_f erow) ?_
            refine i_iconst (pc' := 170) (1 : Int32) X41 hx (hb hby d3_169) rfl (by decide) ?_
            refine i_goto (pc' := 174) X41 hx (hb hby d3_170) (by decide) (by decide) ?_
            refine rN X41 hx hlk hret (by simp) (hb hby d3_174) (by decide) (by decide) ?_
            exact ⟨(own_min (1000 : Int32) (own_max ((2 : Int32) * v3) (r / (2 : Int32)))), (if v3 = (1 : Int32) then (1 : Int32) else (0 : Int32)), (by decide), (((((Keep.refl h0 _).wr W33 (Or.inl (List.mem_of_getElem? (i := 1) rfl))).wr W35 (Or.inl (List.mem_of_getElem? (i := 1) rfl))) : Keep h0 h35 [o, t]).trans K39c (allS (Or.inl (List.mem_of_getElem? (i := 0) rfl)) all0)), P39_0, P39_1, (by have q := F43; rw [erow, if_pos hc4]; exact q), (own_rng _ hr)⟩
          · skip
            refine i_icT (pc' := 122) X2 hx (hb hby d3_114) (XT.ii_le_t hc32) (by decide) (by decide) ?_
            refine i_aloadN (v := (.ref t)) (pc' := 123) X2 hx (hb hby d3_122) rfl rfl rfl ?_
            refine i_iconst (pc' := 124) (0 : Int32) X2 hx (hb hby d3_123) rfl (by decide) ?_
            refine i_iload (v := v6) (pc' := 126) X2 hx (hb hby d3_124) rfl rfl ?_
            refine saI (pc' := 127) X2 hx hZ H3 H5 (by decide) (by decide) (hb hby d3_126) rfl fun T44 h44 X44 W44 => ?_
            refine i_iload (v := v3) (pc' := 129) X44 hx (hb hby d3_127) rfl rfl ?_
            refine i_iconst (pc' := 130) (1 : Int32) X44 hx (hb hby d3_129) rfl (by decide) ?_
            refine i_icF (pc' := 133) X44 hx (hb hby d3_130) rfl (XT.ii_ne_f hc4) ?_
            refine i_aloadN (v := (.ref t)) (pc' := 134) X44 hx (hb hby d3_133) rfl rfl rfl ?_
            refine i_iconst (pc' := 135) (1 : Int32) X44 hx (hb hby d3_134) rfl (by decide) ?_
            refine i_iconst (pc' := 136) (1 : Int32) X44 hx (hb hby d3_135) rfl (by decide) ?_
            have F45 : Av Z h44 t .int 2 (own_pair v6 b) := (own_set0 H3 W44)
            refine saI (pc' := 137) X44 hx hZ F45 H5 (by decide) (by decide) (hb hby d3_136) rfl fun T46 h46 X46 W46 => ?_
            refine i_goto (pc' := 144) X46 hx (hb hby d3_137) (by decide) (by decide) ?_
            refine i_aloadN (v := (.ref o)) (pc' := 145) X46 hx (hb hby d3_144) rfl rfl rfl ?_
            refine i_iload (v := v3) (pc' := 147) X46 hx (hb hby d3_145) rfl rfl ?_
            have F47 : Exa Z h46 o "com/example/forefetch/forefetch/BatchWindow" := (Jvm.RoadKit.Exa.wr W46 (Jvm.RoadKit.Exa.wr W44 H0))
            have F48 : Fld Z h46 o "com/example/forefetch/forefetch/BatchWindow" "rows" "I" (.int r) := (Jvm.RoadKit.Fld.other W46 (Jvm.RoadKit.Fld.other W44 H1 (Or.inl H6)) (Or.inl H6))
            have F49 : Fld Z h46 o "com/example/forefetch/forefetch/BatchWindow" "staleAfterFirst" "Z" (.int b) := (Jvm.RoadKit.Fld.other W46 (Jvm.RoadKit.Fld.other W44 H2 (Or.inl H6)) (Or.inl H6))
            refine cV (y := (⟨"com/example/forefetch/forefetch/BatchWindow", "stale", "(I)Z"⟩ : MethodName)) (C := "com/example/forefetch/forefetch/BatchWindow") (rest := []) (pc' := 150) 0 [(.int v3)] X46 hx hZ hown (hw _ (List.mem_of_getElem? (i := 20) rfl)) (hw _ (List.mem_of_getElem? (i := 21) rfl)) (hw _ (List.mem_of_getElem? (i := 23) rfl)) (hw _ (List.mem_of_getElem? (i := 22) rfl)) (hw _ (List.mem_of_getElem? (i := 2) rfl)) (hw _ (List.mem_of_getElem? (i := 24) rfl)) (by decide) F47 (rm6 l Z a0 hw [] o v3 r b n0 h46 X46.le F47 F48 F49 H4) (by decide) (by decide) (by rw [hml]; rfl) rfl (lenOf pd2 rfl) rfl (Nat.le_of_eq rfl) (hb hby d3_147) rfl (by decide) (by decide) ?_
            intro r50 T50 h50 X50 q50
            obtain ⟨rfl, K50c, P50_0, P50_1⟩ := q50
            show Go _ _ _ _ _ _ _ T50 (mkF m 150 #[.val (.ref o), .val (.ref t), .val (.int x), .val (.int z), .val (.int v3), .val (.int (1 : Int32)), .val (.int v6), .val (.int v7), .unset] [(.int (if (1 : Int32) < v3 then (1 : Int32) else if b = 0 then (1 : Int32) else (0 : Int32)))])
            obtain ⟨v51, hv51⟩ : ∃ zz : Int32, zz = (if (1 : Int32) < v3 then (1 : Int32) else if b = 0 then (1 : Int32) else (0 : Int32)) := ⟨_, rfl⟩
            rw [← hv51]
            refine i_istore (L' := #[.val (.ref o), .val (.ref t), .val (.int x), .val (.int z), .val (.int v3), .val (.int (1 : Int32)), .val (.int v6), .val (.int v7), .val (.int v51)]) (pc' := 152) X50 hx (hb hby d3_150) rfl rfl ?_
            refine i_iload (v := v51) (pc' := 154) X50 hx (hb hby d3_152) rfl rfl ?_
            refine i_iload (v := (1 : Int32)) (pc' := 156) X50 hx (hb hby d3_154) rfl rfl ?_
            refine i_icF (pc' := 159) X50 hx (hb hby d3_156) rfl (XT.ii_ne_f (hv51.trans ((own_worth _ _ (by rw [hv3]; exact own_ans1 _)).trans (by simp [hc1, hc4, hc5, hc8, hc32])))) ?_
            refine i_aloadN (v := (.ref o)) (pc' := 160) X50 hx (hb hby d3_159) rfl rfl rfl ?_
            have F53 : Exa Z h50 o "com/example/forefetch/forefetch/BatchWindow" := (F47.keep K50c)
            refine cV (y := (⟨"com/example/forefetch/forefetch/BatchWindow", "rows", "()I"⟩ : MethodName)) (C := "com/example/forefetch/forefetch/BatchWindow") (rest := []) (pc' := 163) 0 [] X50 hx hZ hown (hw _ (List.mem_of_getElem? (i := 34) rfl)) (hw _ (List.mem_of_getElem? (i := 35) rfl)) (hw _ (List.mem_of_getElem? (i := 37) rfl)) (hw _ (List.mem_of_getElem? (i := 36) rfl)) (hw _ (List.mem_of_getElem? (i := 2) rfl)) (hw _ (List.mem_of_getElem? (i := 38) rfl)) (by decide) F53 (rm3 l Z a0 hw [] o (own_min (1000 : Int32) (own_max ((2 : Int32) * v3) (r / (2 : Int32)))) n0 h50 X50.le P50_0) (by decide) (by decide) (by rw [hml]; rfl) rfl (lenOf pd3 rfl) rfl (Nat.le_of_eq rfl) (hb hby d3_160) rfl (by decide) (by decide) ?_
            intro r52 T52 h52 X52 q52
            obtain ⟨rfl, eh52⟩ := q52
            subst eh52
            show Go _ _ _ _ _ _ _ T52 (mkF m 163 #[.val (.ref o), .val (.ref t), .val (.int x), .val (.int z), .val (.int v3), .val (.int (1 : Int32)), .val (.int v6), .val (.int v7), .val (.int v51)] [(.int (own_min (1000 : Int32) (own_max ((2 : Int32) * v3) (r / (2 : Int32)))))])
            refine i_aloadN (v := (.ref t)) (pc' := 164) X52 hx (hb hby d3_163) rfl rfl rfl ?_
            refine i_iconst (pc' := 165) (0 : Int32) X52 hx (hb hby d3_164) rfl (by decide) ?_
            have F54 : Av Z h50 t .int 2 (own_pair v6 (1 : Int32)) := ((own_set1 F45 W46).keep K50c (ninS (Ne.symm H6) nin0))
            refine ldI (v := (.int v6)) (pc' := 166) X52 hx hZ F54 (by decide) (by decide) (own_p0 _ _) (hb hby d3_165) rfl ?_
            have erow : own_min (1000 : Int32) (own_max ((2 : Int32) * v3) (r / (2 : Int32))) = v6 := by rw [own_next]; unfold own_max; rw [← hv6, ← hv7]; simp only [hc1, hc4, hc5, hc8, hc32, if_true, if_false]
            refine i_icF (pc' := 169) X52 hx (hb hby d3_166) rfl (XT.ii_ne_f erow) ?_
            refine i_iconst (pc' := 170) (1 : Int32) X52 hx (hb hby d3_169) rfl (by decide) ?_
            refine i_goto (pc' := 174) X52 hx (hb hby d3_170) (by decide) (by decide) ?_
            refine rN X52 hx hlk hret (by simp) (hb hby d3_174) (by decide) (by decide) ?_
            exact ⟨(own_min (1000 : Int32) (own_max ((2 : Int32) * v3) (r / (2 : Int32)))), (if v3 = (1 : Int32) then (1 : Int32) else (0 : Int32)), (by decide), (((((Keep.refl h0 _).wr W44 (Or.inl (List.mem_of_getElem? (i := 1) rfl))).wr W46 (Or.inl (List.mem_of_getElem? (i := 1) rfl))) : Keep h0 h46 [o, t]).trans K50c (allS (Or.inl (List.mem_of_getElem? (i := 0) rfl)) all0)), P50_0, P50_1, (by have q := F54; rw [erow, if_pos hc4]; exact q), (own_rng _ hr)⟩
      · skip
        refine i_ifT (pc' := 76) X2 hx (hb hby d3_69) (XT.i0_ne_t hc5) (by decide) (by decide) ?_
        refine i_iconst (pc' := 77) (0 : Int32) X2 hx (hb hby d3_76) rfl (by decide) ?_
        refine i_istore (L' := #[.val (.ref o), .val (.ref t), .val (.int x), .val (.int z), .val (.int v3), .val (.int (0 : Int32)), .unset, .unset, .unset]) (pc' := 79) X2 hx (hb hby d3_77) rfl rfl ?_
        refine i_goto (pc' := 85) X2 hx (hb hby d3_79) (by decide) (by decide) ?_
        refine i_iconst (pc' := 86) (2 : Int32) X2 hx (hb hby d3_85) rfl (by decide) ?_
        refine i_iload (v := v3) (pc' := 88) X2 hx (hb hby d3_86) rfl rfl ?_
        refine i_imul (pc' := 89) X2 hx (hb hby d3_88) rfl ?_
        obtain ⟨v55, hv55⟩ : ∃ zz : Int32, zz = ((2 : Int32) * v3) := ⟨_, rfl⟩
        rw [← hv55]
        refine i_istore (L' := #[.val (.ref o), .val (.ref t), .val (.int x), .val (.int z), .val (.int v3), .val (.int (0 : Int32)), .val (.int v55), .unset, .unset]) (pc' := 91) X2 hx (hb hby d3_89) rfl rfl ?_
        refine i_aloadN (v := (.ref t)) (pc' := 92) X2 hx (hb hby d3_91) rfl rfl rfl ?_
        refine i_iconst (pc' := 93) (0 : Int32) X2 hx (hb hby d3_92) rfl (by decide) ?_
        refine ldI (v := (.int r)) (pc' := 94) X2 hx hZ H3 (by decide) (by decide) (own_p0 _ _) (hb hby d3_93) rfl ?_
        refine i_iconst (pc' := 95) (2 : Int32) X2 hx (hb hby d3_94) rfl (by decide) ?_
        refine i_idiv (pc' := 96) X2 hx (hb hby d3_95) rfl (by decide) ?_
        obtain ⟨v56, hv56⟩ : ∃ zz : Int32, zz = (r / (2 : Int32)) := ⟨_, rfl⟩
        rw [← hv56]
        refine i_istore (L' := #[.val (.ref o), .val (.ref t), .val (.int x), .val (.int z), .val (.int v3), .val (.int (0 : Int32)), .val (.int v55), .val (.int v56), .unset]) (pc' := 98) X2 hx (hb hby d3_96) rfl rfl ?_
        refine i_iload (v := v56) (pc' := 100) X2 hx (hb hby d3_98) rfl rfl ?_
        refine i_iload (v := v55) (pc' := 102) X2 hx (hb hby d3_100) rfl rfl ?_
        by_cases hc57 : v55 < v56
        · skip
          refine i_icF (pc' := 105) X2 hx (hb hby d3_102) rfl (XT.ii_le_f hc57) ?_
          refine i_iload (v := v56) (pc' := 107) X2 hx (hb hby d3_105) rfl rfl ?_
          refine i_istore (L' := #[.val (.ref o), .val (.ref t), .val (.int x), .val (.int z), .val (.int v3), .val (.int (0 : Int32)), .val (.int v56), .val (.int v56), .unset]) (pc' := 109) X2 hx (hb hby d3_107) rfl rfl ?_
          refine i_iload (v := v56) (pc' := 111) X2 hx (hb hby d3_109) rfl rfl ?_
          refine i_sipush (pc' := 114) (1000 : Int32) X2 hx (hb hby d3_111) rfl (by decide) ?_
          by_cases hc58 : (1000 : Int32) < v56
          · skip
            refine i_icF (pc' := 117) X2 hx (hb hby d3_114) rfl (XT.ii_le_f hc58) ?_
            refine i_sipush (pc' := 120) (1000 : Int32) X2 hx (hb hby d3_117) rfl (by decide) ?_
            refine i_istore (L' := #[.val (.ref o), .val (.ref t), .val (.int x), .val (.int z), .val (.int v3), .val (.int (0 : Int32)), .val (.int (1000 : Int32)), .val (.int v56), .unset]) (pc' := 122) X2 hx (hb hby d3_120) rfl rfl ?_
            refine i_aloadN (v := (.ref t)) (pc' := 123) X2 hx (hb hby d3_122) rfl rfl rfl ?_
            refine i_iconst (pc' := 124) (0 : Int32) X2 hx (hb hby d3_123) rfl (by decide) ?_
            refine i_iload (v := (1000 : Int32)) (pc' := 126) X2 hx (hb hby d3_124) rfl rfl ?_
            refine saI (pc' := 127) X2 hx hZ H3 H5 (by decide) (by decide) (hb hby d3_126) rfl fun T59 h59 X59 W59 => ?_
            refine i_iload (v := v3) (pc' := 129) X59 hx (hb hby d3_127) rfl rfl ?_
            refine i_iconst (pc' := 130) (1 : Int32) X59 hx (hb hby d3_129) rfl (by decide) ?_
            refine i_icF (pc' := 133) X59 hx (hb hby d3_130) rfl (XT.ii_ne_f hc4) ?_
            refine i_aloadN (v := (.ref t)) (pc' := 134) X59 hx (hb hby d3_133) rfl rfl rfl ?_
            refine i_iconst (pc' := 135) (1 : Int32) X59 hx (hb hby d3_134) rfl (by decide) ?_
            refine i_iconst (pc' := 136) (1 : Int32) X59 hx (hb hby d3_135) rfl (by decide) ?_
            have F60 : Av Z h59 t .int 2 (own_pair (1000 : Int32) b) := (own_set0 H3 W59)
            refine saI (pc' := 137) X59 hx hZ F60 H5 (by decide) (by decide) (hb hby d3_136) rfl fun T61 h61 X61 W61 => ?_
            refine i_goto (pc' := 144) X61 hx (hb hby d3_137) (by decide) (by decide) ?_
            refine i_aloadN (v := (.ref o)) (pc' := 145) X61 hx (hb hby d3_144) rfl rfl rfl ?_
            refine i_iload (v := v3) (pc' := 147) X61 hx (hb hby d3_145) rfl rfl ?_
            have F62 : Exa Z h61 o "com/example/forefetch/forefetch/BatchWindow" := (Jvm.RoadKit.Exa.wr W61 (Jvm.RoadKit.Exa.wr W59 H0))
            have F63 : Fld Z h61 o "com/example/forefetch/forefetch/BatchWindow" "rows" "I" (.int r) := (Jvm.RoadKit.Fld.other W61 (Jvm.RoadKit.Fld.other W59 H1 (Or.inl H6)) (Or.inl H6))
            have F64 : Fld Z h61 o "com/example/forefetch/forefetch/BatchWindow" "staleAfterFirst" "Z" (.int b) := (Jvm.RoadKit.Fld.other W61 (Jvm.RoadKit.Fld.other W59 H2 (Or.inl H6)) (Or.inl H6))
            refine cV (y := (⟨"com/example/forefetch/forefetch/BatchWindow", "stale", "(I)Z"⟩ : MethodName)) (C := "com/example/forefetch/forefetch/BatchWindow") (rest := []) (pc' := 150) 0 [(.int v3)] X61 hx hZ hown (hw _ (List.mem_of_getElem? (i := 20) rfl)) (hw _ (List.mem_of_getElem? (i := 21) rfl)) (hw _ (List.mem_of_getElem? (i := 23) rfl)) (hw _ (List.mem_of_getElem? (i := 22) rfl)) (hw _ (List.mem_of_getElem? (i := 2) rfl)) (hw _ (List.mem_of_getElem? (i := 24) rfl)) (by decide) F62 (rm6 l Z a0 hw [] o v3 r b n0 h61 X61.le F62 F63 F64 H4) (by decide) (by decide) (by rw [hml]; rfl) rfl (lenOf pd2 rfl) rfl (Nat.le_of_eq rfl) (hb hby d3_147) rfl (by decide) (by decide) ?_
            intro r65 T65 h65 X65 q65
            obtain ⟨rfl, K65c, P65_0, P65_1⟩ := q65
            show Go _ _ _ _ _ _ _ T65 (mkF m 150 #[.val (.ref o), .val (.ref t), .val (.int x), .val (.int z), .val (.int v3), .val (.int (0 : Int32)), .val (.int (1000 : Int32)), .val (.int v56), .unset] [(.int (if (1 : Int32) < v3 then (1 : Int32) else if b = 0 then (1 : Int32) else (0 : Int32)))])
            obtain ⟨v66, hv66⟩ : ∃ zz : Int32, zz = (if (1 : Int32) < v3 then (1 : Int32) else if b = 0 then (1 : Int32) else (0 : Int32)) := ⟨_, rfl⟩
            rw [← hv66]
            refine i_istore (L' := #[.val (.ref o), .val (.ref t), .val (.int x), .val (.int z), .val (.int v3), .val (.int (0 : Int32)), .val (.int (1000 : Int32)), .val (.int v56), .val (.int v66)]) (pc' := 152) X65 hx (hb hby d3_150) rfl rfl ?_
            refine i_iload (v := v66) (pc' := 154) X65 hx (hb hby d3_152) rfl rfl ?_
            refine i_iload (v := (0 : Int32)) (pc' := 156) X65 hx (hb hby d3_154) rfl rfl ?_
            refine i_icF (pc' := 159) X65 hx (hb hby d3_156) rfl (XT.ii_ne_f (hv66.trans ((own_worth _ _ (by rw [hv3]; exact own_ans1 _)).trans (by simp [hc1, hc4, hc5, hc57, hc58])))) ?_
            refine i_aloadN (v := (.ref o)) (pc' := 160) X65 hx (hb hby d3_159) rfl rfl rfl ?_
            have F68 : Exa Z h65 o "com/example/forefetch/forefetch/BatchWindow" := (F62.keep K65c)
            refine cV (y := (⟨"com/example/forefetch/forefetch/BatchWindow", "rows", "()I"⟩ : MethodName)) (C := "com/example/forefetch/forefetch/BatchWindow") (rest := []) (pc' := 163) 0 [] X65 hx hZ hown (hw _ (List.mem_of_getElem? (i := 34) rfl)) (hw _ (List.mem_of_getElem? (i := 35) rfl)) (hw _ (List.mem_of_getElem? (i := 37) rfl)) (hw _ (List.mem_of_getElem? (i := 36) rfl)) (hw _ (List.mem_of_getElem? (i := 2) rfl)) (hw _ (List.mem_of_getElem? (i := 38) rfl)) (by decide) F68 (rm3 l Z a0 hw [] o (own_min (1000 : Int32) (own_max ((2 : Int32) * v3) (r / (2 : Int32)))) n0 h65 X65.le P65_0) (by decide) (by decide) (by rw [hml]; rfl) rfl (lenOf pd3 rfl) rfl (Nat.le_of_eq rfl) (hb hby d3_160) rfl (by decide) (by decide) ?_
            intro r67 T67 h67 X67 q67
            obtain ⟨rfl, eh67⟩ := q67
            subst eh67
            show Go _ _ _ _ _ _ _ T67 (mkF m 163 #[.val (.ref o), .val (.ref t), .val (.int x), .val (.int z), .val (.int v3), .val (.int (0 : Int32)), .val (.int (1000 : Int32)), .val (.int v56), .val (.int v66)] [(.int (own_min (1000 : Int32) (own_max ((2 : Int32) * v3) (r / (2 : Int32)))))])
            refine i_aloadN (v := (.ref t)) (pc' := 164) X67 hx (hb hby d3_163) rfl rfl rfl ?_
            refine i_iconst (pc' := 165) (0 : Int32) X67 hx (hb hby d3_164) rfl (by decide) ?_
            have F69 : Av Z h65 t .int 2 (own_pair (1000 : Int32) (1 : Int32)) := ((own_set1 F60 W61).keep K65c (ninS (Ne.symm H6) nin0))
            refine ldI (v := (.int (1000 : Int32))) (pc' := 166) X67 hx hZ F69 (by decide) (by decide) (own_p0 _ _) (hb hby d3_165) rfl ?_
            have erow : own_min (1000 : Int32) (own_max ((2 : Int32) * v3) (r / (2 : Int32))) = (1000 : Int32) := by rw [own_next]; unfold own_max; rw [← hv55, ← hv56]; simp only [hc1, hc4, hc5, hc57, hc58, if_true, if_false]
            refine i_icF (pc' := 169) X67 hx (hb hby d3_166) rfl (XT.ii_ne_f erow) ?_
            refine i_iconst (pc' := 170) (1 : Int32) X67 hx (hb hby d3_169) rfl (by decide) ?_
            refine i_goto (pc' := 174) X67 hx (hb hby d3_170) (by decide) (by decide) ?_
            refine rN X67 hx hlk hret (by simp) (hb hby d3_174) (by decide) (by decide) ?_
            exact ⟨(own_min (1000 : Int32) (own_max ((2 : Int32) * v3) (r / (2 : Int32)))), (if v3 = (1 : Int32) then (1 : Int32) else (0 : Int32)), (by decide), (((((Keep.refl h0 _).wr W59 (Or.inl (List.mem_of_getElem? (i := 1) rfl))).wr W61 (Or.inl (List.mem_of_getElem? (i := 1) rfl))) : Keep h0 h61 [o, t]).trans K65c (allS (Or.inl (List.mem_of_getElem? (i := 0) rfl)) all0)), P65_0, P65_1, (by have q := F69; rw [erow, if_pos hc4]; exact q), (own_rng _ hr)⟩
          · skip
            refine i_icT (pc' := 122) X2 hx (hb hby d3_114) (XT.ii_le_t hc58) (by decide) (by decide) ?_
            refine i_aloadN (v := (.ref t)) (pc' := 123) X2 hx (hb hby d3_122) rfl rfl rfl ?_
            refine i_iconst (pc' := 124) (0 : Int32) X2 hx (hb hby d3_123) rfl (by decide) ?_
            refine i_iload (v := v56) (pc' := 126) X2 hx (hb hby d3_124) rfl rfl ?_
            refine saI (pc' := 127) X2 hx hZ H3 H5 (by decide) (by decide) (hb hby d3_126) rfl fun T70 h70 X70 W70 => ?_
            refine i_iload (v := v3) (pc' := 129) X70 hx (hb hby d3_127) rfl rfl ?_
            refine i_iconst (pc' := 130) (1 : Int32) X70 hx (hb hby d3_129) rfl (by decide) ?_
            refine i_icF (pc' := 133) X70 hx (hb hby d3_130) rfl (XT.ii_ne_f hc4) ?_
            refine i_aloadN (v := (.ref t)) (pc' := 134) X70 hx (hb hby d3_133) rfl rfl rfl ?_
            refine i_iconst (pc' := 135) (1 : Int32) X70 hx (hb hby d3_134) rfl (by decide) ?_
            refine i_iconst (pc' := 136) (1 : Int32) X70 hx (hb hby d3_135) rfl (by decide) ?_
            have F71 : Av Z h70 t .int 2 (own_pair v56 b) := (own_set0 H3 W70)
            refine saI (pc' := 137) X70 hx hZ F71 H5 (by decide) (by decide) (hb hby d3_136) rfl fun T72 h72 X72 W72 => ?_
            refine i_goto (pc' := 144) X72 hx (hb hby d3_137) (by decide) (by decide) ?_
            refine i_aloadN (v := (.ref o)) (pc' := 145) X72 hx (hb hby d3_144) rfl rfl rfl ?_
            refine i_iload (v := v3) (pc' := 147) X72 hx (hb hby d3_145) rfl rfl ?_
            have F73 : Exa Z h72 o "com/example/forefetch/forefetch/BatchWindow" := (Jvm.RoadKit.Exa.wr W72 (Jvm.RoadKit.Exa.wr W70 H0))
            have F74 : Fld Z h72 o "com/example/forefetch/forefetch/BatchWindow" "rows" "I" (.int r) := (Jvm.RoadKit.Fld.other W72 (Jvm.RoadKit.Fld.other W70 H1 (Or.inl H6)) (Or.inl H6))
            have F75 : Fld Z h72 o "com/example/forefetch/forefetch/BatchWindow" "staleAfterFirst" "Z" (.int b) := (Jvm.RoadKit.Fld.other W72 (Jvm.RoadKit.Fld.other W70 H2 (Or.inl H6)) (Or.inl H6))
            refine cV (y := (⟨"com/example/forefetch/forefetch/BatchWindow", "stale", "(I)Z"⟩ : MethodName)) (C := "com/example/forefetch/forefetch/BatchWindow") (rest := []) (pc' := 150) 0 [(.int v3)] X72 hx hZ hown (hw _ (List.mem_of_getElem? (i := 20) rfl)) (hw _ (List.mem_of_getElem? (i := 21) rfl)) (hw _ (List.mem_of_getElem? (i := 23) rfl)) (hw _ (List.mem_of_getElem? (i := 22) rfl)) (hw _ (List.mem_of_getElem? (i := 2) rfl)) (hw _ (List.mem_of_getElem? (i := 24) rfl)) (by decide) F73 (rm6 l Z a0 hw [] o v3 r b n0 h72 X72.le F73 F74 F75 H4) (by decide) (by decide) (by rw [hml]; rfl) rfl (lenOf pd2 rfl) rfl (Nat.le_of_eq rfl) (hb hby d3_147) rfl (by decide) (by decide) ?_
            intro r76 T76 h76 X76 q76
            obtain ⟨rfl, K76c, P76_0, P76_1⟩ := q76
            show Go _ _ _ _ _ _ _ T76 (mkF m 150 #[.val (.ref o), .val (.ref t), .val (.int x), .val (.int z), .val (.int v3), .val (.int (0 : Int32)), .val (.int v56), .val (.int v56), .unset] [(.int (if (1 : Int32) < v3 then (1 : Int32) else if b = 0 then (1 : Int32) else (0 : Int32)))])
            obtain ⟨v77, hv77⟩ : ∃ zz : Int32, zz = (if (1 : Int32) < v3 then (1 : Int32) else if b = 0 then (1 : Int32) else (0 : Int32)) := ⟨_, rfl⟩
            rw [← hv77]
            refine i_istore (L' := #[.val (.ref o), .val (.ref t), .val (.int x), .val (.int z), .val (.int v3), .val (.int (0 : Int32)), .val (.int v56), .val (.int v56), .val (.int v77)]) (pc' := 152) X76 hx (hb hby d3_150) rfl rfl ?_
            refine i_iload (v := v77) (pc' := 154) X76 hx (hb hby d3_152) rfl rfl ?_
            refine i_iload (v := (0 : Int32)) (pc' := 156) X76 hx (hb hby d3_154) rfl rfl ?_
            refine i_icF (pc' := 159) X76 hx (hb hby d3_156) rfl (XT.ii_ne_f (hv77.trans ((own_worth _ _ (by rw [hv3]; exact own_ans1 _)).trans (by simp [hc1, hc4, hc5, hc57, hc58])))) ?_
            refine i_aloadN (v := (.ref o)) (pc' := 160) X76 hx (hb hby d3_159) rfl rfl rfl ?_
            have F79 : Exa Z h76 o "com/example/forefetch/forefetch/BatchWindow" := (F73.keep K76c)
            refine cV (y := (⟨"com/example/forefetch/forefetch/BatchWindow", "rows", "()I"⟩ : MethodName)) (C := "com/example/forefetch/forefetch/BatchWindow") (rest := []) (pc' := 163) 0 [] X76 hx hZ hown (hw _ (List.mem_of_getElem? (i := 34) rfl)) (hw _ (List.mem_of_getElem? (i := 35) rfl)) (hw _ (List.mem_of_getElem? (i := 37) rfl)) (hw _ (List.mem_of_getElem? (i := 36) rfl)) (hw _ (List.mem_of_getElem? (i := 2) rfl)) (hw _ (List.mem_of_getElem? (i := 38) rfl)) (by decide) F79 (rm3 l Z a0 hw [] o (own_min (1000 : Int32) (own_max ((2 : Int32) * v3) (r / (2 : Int32)))) n0 h76 X76.le P76_0) (by decide) (by decide) (by rw [hml]; rfl) rfl (lenOf pd3 rfl) rfl (Nat.le_of_eq rfl) (hb hby d3_160) rfl (by decide) (by decide) ?_
            intro r78 T78 h78 X78 q78
            obtain ⟨rfl, eh78⟩ := q78
            subst eh78
            show Go _ _ _ _ _ _ _ T78 (mkF m 163 #[.val (.ref o), .val (.ref t), .val (.int x), .val (.int z), .val (.int v3), .val (.int (0 : Int32)), .val (.int v56), .val (.int v56), .val (.int v77)] [(.int (own_min (1000 : Int32) (own_max ((2 : Int32) * v3) (r / (2 : Int32)))))])
            refine i_aloadN (v := (.ref t)) (pc' := 164) X78 hx (hb hby d3_163) rfl rfl rfl ?_
            refine i_iconst (pc' := 165) (0 : Int32) X78 hx (hb hby d3_164) rfl (by decide) ?_
            have F80 : Av Z h76 t .int 2 (own_pair v56 (1 : Int32)) := ((own_set1 F71 W72).keep K76c (ninS (Ne.symm H6) nin0))
            refine ldI (v := (.int v56)) (pc' := 166) X78 hx hZ F80 (by decide) (by decide) (own_p0 _ _) (hb hby d3_165) rfl ?_
            have erow : own_min (1000 : Int32) (own_max ((2 : Int32) * v3) (r / (2 : Int32))) = v56 := by rw [own_next]; unfold own_max; rw [← hv55, ← hv56]; simp only [hc1, hc4, hc5, hc57, hc58, if_true, if_false]
            refine i_icF (pc' := 169) X78 hx (hb hby d3_166) rfl (XT.ii_ne_f erow) ?_
            refine i_iconst (pc' := 170) (1 : Int32) X78 hx (hb hby d3_169) rfl (by decide) ?_
            refine i_goto (pc' := 174) X78 hx (hb hby d3_170) (by decide) (by decide) ?_
            refine rN X78 hx hlk hret (by simp) (hb hby d3_174) (by decide) (by decide) ?_
            exact ⟨(own_min (1000 : Int32) (own_max ((2 : Int32) * v3) (r / (2 : Int32)))), (if v3 = (1 : Int32) then (1 : Int32) else (0 : Int32)), (by decide), (((((Keep.refl h0 _).wr W70 (Or.inl (List.mem_of_getElem? (i := 1) rfl))).wr W72 (Or.inl (List.mem_of_getElem? (i := 1) rfl))) : Keep h0 h72 [o, t]).trans K76c (allS (Or.inl (List.mem_of_getElem? (i := 0) rfl)) all0)), P76_0, P76_1, (by have q := F80; rw [erow, if_pos hc4]; exact q), (own_rng _ hr)⟩
        · skip
          refine i_icT (pc' := 109) X2 hx (hb hby d3_102) (XT.ii_le_t hc57) (by decide) (by decide) ?_
          refine i_iload (v := v55) (pc' := 111) X2 hx (hb hby d3_109) rfl rfl ?_
          refine i_sipush (pc' := 114) (1000 : Int32) X2 hx (hb hby d3_111) rfl (by decide) ?_
          by_cases hc81 : (1000 : Int32) < v55
          · skip
            refine i_icF (pc' := 117) X2 hx (hb hby d3_114) rfl (XT.ii_le_f hc81) ?_
            refine i_sipush (pc' := 120) (1000 : Int32) X2 hx (hb hby d3_117) rfl (by decide) ?_
            refine i_istore (L' := #[.val (.ref o), .val (.ref t), .val (.int x), .val (.int z), .val (.int v3), .val (.int (0 : Int32)), .val (.int (1000 : Int32)), .val (.int v56), .unset]) (pc' := 122) X2 hx (hb hby d3_120) rfl rfl ?_
            refine i_aloadN (v := (.ref t)) (pc' := 123) X2 hx (hb hby d3_122) rfl rfl rfl ?_
            refine i_iconst (pc' := 124) (0 : Int32) X2 hx (hb hby d3_123) rfl (by decide) ?_
            refine i_iload (v := (1000 : Int32)) (pc' := 126) X2 hx (hb hby d3_124) rfl rfl ?_
            refine saI (pc' := 127) X2 hx hZ H3 H5 (by decide) (by decide) (hb hby d3_126) rfl fun T82 h82 X82 W82 => ?_
            refine i_iload (v := v3) (pc' := 129) X82 hx (hb hby d3_127) rfl rfl ?_
            refine i_iconst (pc' := 130) (1 : Int32) X82 hx (hb hby d3_129) rfl (by decide) ?_
            refine i_icF (pc' := 133) X82 hx (hb hby d3_130) rfl (XT.ii_ne_f hc4) ?_
            refine i_aloadN (v := (.ref t)) (pc' := 134) X82 hx (hb hby d3_133) rfl rfl rfl ?_
            refine i_iconst (pc' := 135) (1 : Int32) X82 hx (hb hby d3_134) rfl (by decide) ?_
            refine i_iconst (pc' := 136) (1 : Int32) X82 hx (hb hby d3_135) rfl (by decide) ?_
            have F83 : Av Z h82 t .int 2 (own_pair (1000 : Int32) b) := (own_set0 H3 W82)
            refine saI (pc' := 137) X82 hx hZ F83 H5 (by decide) (by decide) (hb hby d3_136) rfl fun T84 h84 X84 W84 => ?_
            refine i_goto (pc' := 144) X84 hx (hb hby d3_137) (by decide) (by decide) ?_
            refine i_aloadN (v := (.ref o)) (pc' := 145) X84 hx (hb hby d3_144) rfl rfl rfl ?_
            refine i_iload (v := v3) (pc' := 147) X84 hx (hb hby d3_145) rfl rfl ?_
            have F85 : Exa Z h84 o "com/example/forefetch/forefetch/BatchWindow" := (Jvm.RoadKit.Exa.wr W84 (Jvm.RoadKit.Exa.wr W82 H0))
            have F86 : Fld Z h84 o "com/example/forefetch/forefetch/BatchWindow" "rows" "I" (.int r) := (Jvm.RoadKit.Fld.other W84 (Jvm.RoadKit.Fld.other W82 H1 (Or.inl H6)) (Or.inl H6))
            have F87 : Fld Z h84 o "com/example/forefetch/forefetch/BatchWindow" "staleAfterFirst" "Z" (.int b) := (Jvm.RoadKit.Fld.other W84 (Jvm.RoadKit.Fld.other W82 H2 (Or.inl H6)) (Or.inl H6))
            refine cV (y := (⟨"com/example/forefetch/forefetch/BatchWindow", "stale", "(I)Z"⟩ : MethodName)) (C := "com/example/forefetch/forefetch/BatchWindow") (rest := []) (pc' := 150) 0 [(.int v3)] X84 hx hZ hown (hw _ (List.mem_of_getElem? (i := 20) rfl)) (hw _ (List.mem_of_getElem? (i := 21) rfl)) (hw _ (List.mem_of_getElem? (i := 23) rfl)) (hw _ (List.mem_of_getElem? (i := 22) rfl)) (hw _ (List.mem_of_getElem? (i := 2) rfl)) (hw _ (List.mem_of_getElem? (i := 24) rfl)) (by decide) F85 (rm6 l Z a0 hw [] o v3 r b n0 h84 X84.le F85 F86 F87 H4) (by decide) (by decide) (by rw [hml]; rfl) rfl (lenOf pd2 rfl) rfl (Nat.le_of_eq rfl) (hb hby d3_147) rfl (by decide) (by decide) ?_
            intro r88 T88 h88 X88 q88
            obtain ⟨rfl, K88c, P88_0, P88_1⟩ := q88
            show Go _ _ _ _ _ _ _ T88 (mkF m 150 #[.val (.ref o), .val (.ref t), .val (.int x), .val (.int z), .val (.int v3), .val (.int (0 : Int32)), .val (.int (1000 : Int32)), .val (.int v56), .unset] [(.int (if (1 : Int32) < v3 then (1 : Int32) else if b = 0 then (1 : Int32) else (0 : Int32)))])
            obtain ⟨v89, hv89⟩ : ∃ zz : Int32, zz = (if (1 : Int32) < v3 then (1 : Int32) else if b = 0 then (1 : Int32) else (0 : Int32)) := ⟨_, rfl⟩
            rw [← hv89]
            refine i_istore (L' := #[.val (.ref o), .val (.ref t), .val (.int x), .val (.int z), .val (.int v3), .val (.int (0 : Int32)), .val (.int (1000 : Int32)), .val (.int v56), .val (.int v89)]) (pc' := 152) X88 hx (hb hby d3_150) rfl rfl ?_
            refine i_iload (v := v89) (pc' := 154) X88 hx (hb hby d3_152) rfl rfl ?_
            refine i_iload (v := (0 : Int32)) (pc' := 156) X88 hx (hb hby d3_154) rfl rfl ?_
            refine i_icF (pc' := 159) X88 hx (hb hby d3_156) rfl (XT.ii_ne_f (hv89.trans ((own_worth _ _ (by rw [hv3]; exact own_ans1 _)).trans (by simp [hc1, hc4, hc5, hc57, hc81])))) ?_
            refine i_aloadN (v := (.ref o)) (pc' := 160) X88 hx (hb hby d3_159) rfl rfl rfl ?_
            have F91 : Exa Z h88 o "com/example/forefetch/forefetch/BatchWindow" := (F85.keep K88c)
            refine cV (y := (⟨"com/example/forefetch/forefetch/BatchWindow", "rows", "()I"⟩ : MethodName)) (C := "com/example/forefetch/forefetch/BatchWindow") (rest := []) (pc' := 163) 0 [] X88 hx hZ hown (hw _ (List.mem_of_getElem? (i := 34) rfl)) (hw _ (List.mem_of_getElem? (i := 35) rfl)) (hw _ (List.mem_of_getElem? (i := 37) rfl)) (hw _ (List.mem_of_getElem? (i := 36) rfl)) (hw _ (List.mem_of_getElem? (i := 2) rfl)) (hw _ (List.mem_of_getElem? (i := 38) rfl)) (by decide) F91 (rm3 l Z a0 hw [] o (own_min (1000 : Int32) (own_max ((2 : Int32) * v3) (r / (2 : Int32)))) n0 h88 X88.le P88_0) (by decide) (by decide) (by rw [hml]; rfl) rfl (lenOf pd3 rfl) rfl (Nat.le_of_eq rfl) (hb hby d3_160) rfl (by decide) (by decide) ?_
            intro r90 T90 h90 X90 q90
            obtain ⟨rfl, eh90⟩ := q90
            subst eh90
            show Go _ _ _ _ _ _ _ T90 (mkF m 163 #[.val (.ref o), .val (.ref t), .val (.int x), .val (.int z), .val (.int v3), .val (.int (0 : Int32)), .val (.int (1000 : Int32)), .val (.int v56), .val (.int v89)] [(.int (own_min (1000 : Int32) (own_max ((2 : Int32) * v3) (r / (2 : Int32)))))])
            refine i_aloadN (v := (.ref t)) (pc' := 164) X90 hx (hb hby d3_163) rfl rfl rfl ?_
            refine i_iconst (pc' := 165) (0 : Int32) X90 hx (hb hby d3_164) rfl (by decide) ?_
            have F92 : Av Z h88 t .int 2 (own_pair (1000 : Int32) (1 : Int32)) := ((own_set1 F83 W84).keep K88c (ninS (Ne.symm H6) nin0))
            refine ldI (v := (.int (1000 : Int32))) (pc' := 166) X90 hx hZ F92 (by decide) (by decide) (own_p0 _ _) (hb hby d3_165) rfl ?_
            have erow : own_min (1000 : Int32) (own_max ((2 : Int32) * v3) (r / (2 : Int32))) = (1000 : Int32) := by rw [own_next]; unfold own_max; rw [← hv55, ← hv56]; simp only [hc1, hc4, hc5, hc57, hc81, if_true, if_false]
            refine i_icF (pc' := 169) X90 hx (hb hby d3_166) rfl (XT.ii_ne_f erow) ?_
            refine i_iconst (pc' := 170) (1 : Int32) X90 hx (hb hby d3_169) rfl (by decide) ?_
            refine i_goto (pc' := 174) X90 hx (hb hby d3_170) (by decide) (by decide) ?_
            refine rN X90 hx hlk hret (by simp) (hb hby d3_174) (by decide) (by decide) ?_
            exact ⟨(own_min (1000 : Int32) (own_max ((2 : Int32) * v3) (r / (2 : Int32)))), (if v3 = (1 : Int32) then (1 : Int32) else (0 : Int32)), (by decide), (((((Keep.refl h0 _).wr W82 (Or.inl (List.mem_of_getElem? (i := 1) rfl))).wr W84 (Or.inl (List.mem_of_getElem? (i := 1) rfl))) : Keep h0 h84 [o, t]).trans K88c (allS (Or.inl (List.mem_of_getElem? (i := 0) rfl)) all0)), P88_0, P88_1, (by have q := F92; rw [erow, if_pos hc4]; exact q), (own_rng _ hr)⟩
          · skip
            refine i_icT (pc' := 122) X2 hx (hb hby d3_114) (XT.ii_le_t hc81) (by decide) (by decide) ?_
            refine i_aloadN (v := (.ref t)) (pc' := 123) X2 hx (hb hby d3_122) rfl rfl rfl ?_
            refine i_iconst (pc' := 124) (0 : Int32) X2 hx (hb hby d3_123) rfl (by decide) ?_
            refine i_iload (v := v55) (pc' := 126) X2 hx (hb hby d3_124) rfl rfl ?_
            refine saI (pc' := 127) X2 hx hZ H3 H5 (by decide) (by decide) (hb hby d3_126) rfl fun T93 h93 X93 W93 => ?_
            refine i_iload (v := v3) (pc' := 129) X93 hx (hb hby d3_127) rfl rfl ?_
            refine i_iconst (pc' := 130) (1 : Int32) X93 hx (hb hby d3_129) rfl (by decide) ?_
            refine i_icF (pc' := 133) X93 hx (hb hby d3_130) rfl (XT.ii_ne_f hc4) ?_
            refine i_aloadN (v := (.ref t)) (pc' := 134) X93 hx (hb hby d3_133) rfl rfl rfl ?_
            refine i_iconst (pc' := 135) (1 : Int32) X93 hx (hb hby d3_134) rfl (by decide) ?_
            refine i_iconst (pc' := 136) (1 : Int32) X93 hx (hb hby d3_135) rfl (by decide) ?_
            have F94 : Av Z h93 t .int 2 (own_pair v55 b) := (own_set0 H3 W93)
            refine saI (pc' := 137) X93 hx hZ F94 H5 (by decide) (by decide) (hb hby d3_136) rfl fun T95 h95 X95 W95 => ?_
            refine i_goto (pc' := 144) X95 hx (hb hby d3_137) (by decide) (by decide) ?_
            refine i_aloadN (v := (.ref o)) (pc' := 145) X95 hx (hb hby d3_144) rfl rfl rfl ?_
            refine i_iload (v := v3) (pc' := 147) X95 hx (hb hby d3_145) rfl rfl ?_
            have F96 : Exa Z h95 o "com/example/forefetch/forefetch/BatchWindow" := (Jvm.RoadKit.Exa.wr W95 (Jvm.RoadKit.Exa.wr W93 H0))
            have F97 : Fld Z h95 o "com/example/forefetch/forefetch/BatchWindow" "rows" "I" (.int r) := (Jvm.RoadKit.Fld.other W95 (Jvm.RoadKit.Fld.other W93 H1 (Or.inl H6)) (Or.inl H6))
            have F98 : Fld Z h95 o "com/example/forefetch/forefetch/BatchWindow" "staleAfterFirst" "Z" (.int b) := (Jvm.RoadKit.Fld.other W95 (Jvm.RoadKit.Fld.other W93 H2 (Or.inl H6)) (Or.inl H6))
            refine cV (y := (⟨"com/example/forefetch/forefetch/BatchWindow", "stale", "(I)Z"⟩ : MethodName)) (C := "com/example/forefetch/forefetch/BatchWindow") (rest := []) (pc' := 150) 0 [(.int v3)] X95 hx hZ hown (hw _ (List.mem_of_getElem? (i := 20) rfl)) (hw _ (List.mem_of_getElem? (i := 21) rfl)) (hw _ (List.mem_of_getElem? (i := 23) rfl)) (hw _ (List.mem_of_getElem? (i := 22) rfl)) (hw _ (List.mem_of_getElem? (i := 2) rfl)) (hw _ (List.mem_of_getElem? (i := 24) rfl)) (by decide) F96 (rm6 l Z a0 hw [] o v3 r b n0 h95 X95.le F96 F97 F98 H4) (by decide) (by decide) (by rw [hml]; rfl) rfl (lenOf pd2 rfl) rfl (Nat.le_of_eq rfl) (hb hby d3_147) rfl (by decide) (by decide) ?_
            intro r99 T99 h99 X99 q99
            obtain ⟨rfl, K99c, P99_0, P99_1⟩ := q99
            show Go _ _ _ _ _ _ _ T99 (mkF m 150 #[.val (.ref o), .val (.ref t), .val (.int x), .val (.int z), .val (.int v3), .val (.int (0 : Int32)), .val (.int v55), .val (.int v56), .unset] [(.int (if (1 : Int32) < v3 then (1 : Int32) else if b = 0 then (1 : Int32) else (0 : Int32)))])
            obtain ⟨v100, hv100⟩ : ∃ zz : Int32, zz = (if (1 : Int32) < v3 then (1 : Int32) else if b = 0 then (1 : Int32) else (0 : Int32)) := ⟨_, rfl⟩
            rw [← hv100]
            refine i_istore (L' := #[.val (.ref o), .val (.ref t), .val (.int x), .val (.int z), .val (.int v3), .val (.int (0 : Int32)), .val (.int v55), .val (.int v56), .val (.int v100)]) (pc' := 152) X99 hx (hb hby d3_150) rfl rfl ?_
            refine i_iload (v := v100) (pc' := 154) X99 hx (hb hby d3_152) rfl rfl ?_
            refine i_iload (v := (0 : Int32)) (pc' := 156) X99 hx (hb hby d3_154) rfl rfl ?_
            refine i_icF (pc' := 159) X99 hx (hb hby d3_156) rfl (XT.ii_ne_f (hv100.trans ((own_worth _ _ (by rw [hv3]; exact own_ans1 _)).trans (by simp [hc1, hc4, hc5, hc57, hc81])))) ?_
            refine i_aloadN (v := (.ref o)) (pc' := 160) X99 hx (hb hby d3_159) rfl rfl rfl ?_
            have F102 : Exa Z h99 o "com/example/forefetch/forefetch/BatchWindow" := (F96.keep K99c)
            refine cV (y := (⟨"com/example/forefetch/forefetch/BatchWindow", "rows", "()I"⟩ : MethodName)) (C := "com/example/forefetch/forefetch/BatchWindow") (rest := []) (pc' := 163) 0 [] X99 hx hZ hown (hw _ (List.mem_of_getElem? (i := 34) rfl)) (hw _ (List.mem_of_getElem? (i := 35) rfl)) (hw _ (List.mem_of_getElem? (i := 37) rfl)) (hw _ (List.mem_of_getElem? (i := 36) rfl)) (hw _ (List.mem_of_getElem? (i := 2) rfl)) (hw _ (List.mem_of_getElem? (i := 38) rfl)) (by decide) F102 (rm3 l Z a0 hw [] o (own_min (1000 : Int32) (own_max ((2 : Int32) * v3) (r / (2 : Int32)))) n0 h99 X99.le P99_0) (by decide) (by decide) (by rw [hml]; rfl) rfl (lenOf pd3 rfl) rfl (Nat.le_of_eq rfl) (hb hby d3_160) rfl (by decide) (by decide) ?_
            intro r101 T101 h101 X101 q101
            obtain ⟨rfl, eh101⟩ := q101
            subst eh101
            show Go _ _ _ _ _ _ _ T101 (mkF m 163 #[.val (.ref o), .val (.ref t), .val (.int x), .val (.int z), .val (.int v3), .val (.int (0 : Int32)), .val (.int v55), .val (.int v56), .val (.int v100)] [(.int (own_min (1000 : Int32) (own_max ((2 : Int32) * v3) (r / (2 : Int32)))))])
            refine i_aloadN (v := (.ref t)) (pc' := 164) X101 hx (hb hby d3_163) rfl rfl rfl ?_
            refine i_iconst (pc' := 165) (0 : Int32) X101 hx (hb hby d3_164) rfl (by decide) ?_
            have F103 : Av Z h99 t .int 2 (own_pair v55 (1 : Int32)) := ((own_set1 F94 W95).keep K99c (ninS (Ne.symm H6) nin0))
            refine ldI (v := (.int v55)) (pc' := 166) X101 hx hZ F103 (by decide) (by decide) (own_p0 _ _) (hb hby d3_165) rfl ?_
            have erow : own_min (1000 : Int32) (own_max ((2 : Int32) * v3) (r / (2 : Int32))) = v55 := by rw [own_next]; unfold own_max; rw [← hv55, ← hv56]; simp only [hc1, hc4, hc5, hc57, hc81, if_true, if_false]
            refine i_icF (pc' := 169) X101 hx (hb hby d3_166) rfl (XT.ii_ne_f erow) ?_
            refine i_iconst (pc' := 170) (1 : Int32) X101 hx (hb hby d3_169) rfl (by decide) ?_
            refine i_goto (pc' := 174) X101 hx (hb hby d3_170) (by decide) (by decide) ?_
            refine rN X101 hx hlk hret (by simp) (hb hby d3_174) (by decide) (by decide) ?_
            exact ⟨(own_min (1000 : Int32) (own_max ((2 : Int32) * v3) (r / (2 : Int32)))), (if v3 = (1 : Int32) then (1 : Int32) else (0 : Int32)), (by decide), (((((Keep.refl h0 _).wr W93 (Or.inl (List.mem_of_getElem? (i := 1) rfl))).wr W95 (Or.inl (List.mem_of_getElem? (i := 1) rfl))) : Keep h0 h95 [o, t]).trans K99c (allS (Or.inl (List.mem_of_getElem? (i := 0) rfl)) all0)), P99_0, P99_1, (by have q := F103; rw [erow, if_pos hc4]; exact q), (own_rng _ hr)⟩
    · skip
      refine i_icT (pc' := 82) X2 hx (hb hby d3_63) (XT.ii_ne_t hc4) (by decide) (by decide) ?_
      refine i_iconst (pc' := 83) (1 : Int32) X2 hx (hb hby d3_82) rfl (by decide) ?_
      refine i_istore (L' := #[.val (.ref o), .val (.ref t), .val (.int x), .val (.int z), .val (.int v3), .val (.int (1 : Int32)), .unset, .unset, .unset]) (pc' := 85) X2 hx (hb hby d3_83) rfl rfl ?_
      refine i_iconst (pc' := 86) (2 : Int32) X2 hx (hb hby d3_85) rfl (by decide) ?_
      refine i_iload (v := v3) (pc' := 88) X2 hx (hb hby d3_86) rfl rfl ?_
      refine i_imul (pc' := 89) X2 hx (hb hby d3_88) rfl ?_
      obtain ⟨v104, hv104⟩ : ∃ zz : Int32, zz = ((2 : Int32) * v3) := ⟨_, rfl⟩
      rw [← hv104]
      refine i_istore (L' := #[.val (.ref o), .val (.ref t), .val (.int x), .val (.int z), .val (.int v3), .val (.int (1 : Int32)), .val (.int v104), .unset, .unset]) (pc' := 91) X2 hx (hb hby d3_89) rfl rfl ?_
      refine i_aloadN (v := (.ref t)) (pc' := 92) X2 hx (hb hby d3_91) rfl rfl rfl ?_
      refine i_iconst (pc' := 93) (0 : Int32) X2 hx (hb hby d3_92) rfl (by decide) ?_
      refine ldI (v := (.int r)) (pc' := 94) X2 hx hZ H3 (by decide) (by decide) (own_p0 _ _) (hb hby d3_93) rfl ?_
      refine i_iconst (pc' := 95) (2 : Int32) X2 hx (hb hby d3_94) rfl (by decide) ?_
      refine i_idiv (pc' := 96) X2 hx (hb hby d3_95) rfl (by decide) ?_
      obtain ⟨v105, hv105⟩ : ∃ zz : Int32, zz = (r / (2 : Int32)) := ⟨_, rfl⟩
      rw [← hv105]
      refine i_istore (L' := #[.val (.ref o), .val (.ref t), .val (.int x), .val (.int z), .val (.int v3), .val (.int (1 : Int32)), .val (.int v104), .val (.int v105), .unset]) (pc' := 98) X2 hx (hb hby d3_96) rfl rfl ?_
      refine i_iload (v := v105) (pc' := 100) X2 hx (hb hby d3_98) rfl rfl ?_
      refine i_iload (v := v104) (pc' := 102) X2 hx (hb hby d3_100) rfl rfl ?_
      by_cases hc106 : v104 < v105
      · skip
        refine i_icF (pc' := 105) X2 hx (hb hby d3_102) rfl (XT.ii_le_f hc106) ?_
        refine i_iload (v := v105) (pc' := 107) X2 hx (hb hby d3_105) rfl rfl ?_
        refine i_istore (L' := #[.val (.ref o), .val (.ref t), .val (.int x), .val (.int z), .val (.int v3), .val (.int (1 : Int32)), .val (.int v105), .val (.int v105), .unset]) (pc' := 109) X2 hx (hb hby d3_107) rfl rfl ?_
        refine i_iload (v := v105) (pc' := 111) X2 hx (hb hby d3_109) rfl rfl ?_
        refine i_sipush (pc' := 114) (1000 : Int32) X2 hx (hb hby d3_111) rfl (by decide) ?_
        by_cases hc107 : (1000 : Int32) < v105
        · skip
          refine i_icF (pc' := 117) X2 hx (hb hby d3_114) rfl (XT.ii_le_f hc107) ?_
          refine i_sipush (pc' := 120) (1000 : Int32) X2 hx (hb hby d3_117) rfl (by decide) ?_
          refine i_istore (L' := #[.val (.ref o), .val (.ref t), .val (.int x), .val (.int z), .val (.int v3), .val (.int (1 : Int32)), .val (.int (1000 : Int32)), .val (.int v105), .unset]) (pc' := 122) X2 hx (hb hby d3_120) rfl rfl ?_
          refine i_aloadN (v := (.ref t)) (pc' := 123) X2 hx (hb hby d3_122) rfl rfl rfl ?_
          refine i_iconst (pc' := 124) (0 : Int32) X2 hx (hb hby d3_123) rfl (by decide) ?_
          refine i_iload (v := (1000 : Int32)) (pc' := 126) X2 hx (hb hby d3_124) rfl rfl ?_
          refine saI (pc' := 127) X2 hx hZ H3 H5 (by decide) (by decide) (hb hby d3_126) rfl fun T108 h108 X108 W108 => ?_
          refine i_iload (v := v3) (pc' := 129) X108 hx (hb hby d3_127) rfl rfl ?_
          refine i_iconst (pc' := 130) (1 : Int32) X108 hx (hb hby d3_129) rfl (by decide) ?_
          refine i_icT (pc' := 140) X108 hx (hb hby d3_130) (XT.ii_ne_t hc4) (by decide) (by decide) ?_
          refine i_aloadN (v := (.ref t)) (pc' := 141) X108 hx (hb hby d3_140) rfl rfl rfl ?_
          refine i_iconst (pc' := 142) (1 : Int32) X108 hx (hb hby d3_141) rfl (by decide) ?_
          refine i_iconst (pc' := 143) (0 : Int32) X108 hx (hb hby d3_142) rfl (by decide) ?_
          have F109 : Av Z h108 t .int 2 (own_pair (1000 : Int32) b) := (own_set0 H3 W108)
          refine saI (pc' := 144) X108 hx hZ F109 H5 (by decide) (by decide) (hb hby d3_143) rfl fun T110 h110 X110 W110 => ?_
          refine i_aloadN (v := (.ref o)) (pc' := 145) X110 hx (hb hby d3_144) rfl rfl rfl ?_
          refine i_iload (v := v3) (pc' := 147) X110 hx (hb hby d3_145) rfl rfl ?_
          have F111 : Exa Z h110 o "com/example/forefetch/forefetch/BatchWindow" := (Jvm.RoadKit.Exa.wr W110 (Jvm.RoadKit.Exa.wr W108 H0))
          have F112 : Fld Z h110 o "com/example/forefetch/forefetch/BatchWindow" "rows" "I" (.int r) := (Jvm.RoadKit.Fld.other W110 (Jvm.RoadKit.Fld.other W108 H1 (Or.inl H6)) (Or.inl H6))
          have F113 : Fld Z h110 o "com/example/forefetch/forefetch/BatchWindow" "staleAfterFirst" "Z" (.int b) := (Jvm.RoadKit.Fld.other W110 (Jvm.RoadKit.Fld.other W108 H2 (Or.inl H6)) (Or.inl H6))
          refine cV (y := (⟨"com/example/forefetch/forefetch/BatchWindow", "stale", "(I)Z"⟩ : MethodName)) (C := "com/example/forefetch/forefetch/BatchWindow") (rest := []) (pc' := 150) 0 [(.int v3)] X110 hx hZ hown (hw _ (List.mem_of_getElem? (i := 20) rfl)) (hw _ (List.mem_of_getElem? (i := 21) rfl)) (hw _ (List.mem_of_getElem? (i := 23) rfl)) (hw _ (List.mem_of_getElem? (i := 22) rfl)) (hw _ (List.mem_of_getElem? (i := 2) rfl)) (hw _ (List.mem_of_getElem? (i := 24) rfl)) (by decide) F111 (rm6 l Z a0 hw [] o v3 r b n0 h110 X110.le F111 F112 F113 H4) (by decide) (by decide) (by rw [hml]; rfl) rfl (lenOf pd2 rfl) rfl (Nat.le_of_eq rfl) (hb hby d3_147) rfl (by decide) (by decide) ?_
          intro r114 T114 h114 X114 q114
          obtain ⟨rfl, K114c, P114_0, P114_1⟩ := q114
          show Go _ _ _ _ _ _ _ T114 (mkF m 150 #[.val (.ref o), .val (.ref t), .val (.int x), .val (.int z), .val (.int v3), .val (.int (1 : Int32)), .val (.int (1000 : Int32)), .val (.int v105), .unset] [(.int (if (1 : Int32) < v3 then (1 : Int32) else if b = 0 then (1 : Int32) else (0 : Int32)))])
          obtain ⟨v115, hv115⟩ : ∃ zz : Int32, zz = (if (1 : Int32) < v3 then (1 : Int32) else if b = 0 then (1 : Int32) else (0 : Int32)) := ⟨_, rfl⟩
          rw [← hv115]
          refine i_istore (L' := #[.val (.ref o), .val (.ref t), .val (.int x), .val (.int z), .val (.int v3), .val (.int (1 : Int32)), .val (.int (1000 : Int32)), .val (.int v105), .val (.int v115)]) (pc' := 152) X114 hx (hb hby d3_150) rfl rfl ?_
          refine i_iload (v := v115) (pc' := 154) X114 hx (hb hby d3_152) rfl rfl ?_
          refine i_iload (v := (1 : Int32)) (pc' := 156) X114 hx (hb hby d3_154) rfl rfl ?_
          refine i_icF (pc' := 159) X114 hx (hb hby d3_156) rfl (XT.ii_ne_f (hv115.trans ((own_worth _ _ (by rw [hv3]; exact own_ans1 _)).trans (by simp [hc1, hc4, hc106, hc107])))) ?_
          refine i_aloadN (v := (.ref o)) (pc' := 160) X114 hx (hb hby d3_159) rfl rfl rfl ?_
          have F117 : Exa Z h114 o "com/example/forefetch/forefetch/BatchWindow" := (F111.keep K114c)
          refine cV (y := (⟨"com/example/forefetch/forefetch/BatchWindow", "rows", "()I"⟩ : MethodName)) (C := "com/example/forefetch/forefetch/BatchWindow") (rest := []) (pc' := 163) 0 [] X114 hx hZ hown (hw _ (List.mem_of_getElem? (i := 34) rfl)) (hw _ (List.mem_of_getElem? (i := 35) rfl)) (hw _ (List.mem_of_getElem? (i := 37) rfl)) (hw _ (List.mem_of_getElem? (i := 36) rfl)) (hw _ (List.mem_of_getElem? (i := 2) rfl)) (hw _ (List.mem_of_getElem? (i := 38) rfl)) (by decide) F117 (rm3 l Z a0 hw [] o (own_min (1000 : Int32) (own_max ((2 : Int32) * v3) (r / (2 : Int32)))) n0 h114 X114.le P114_0) (by decide) (by decide) (by rw [hml]; rfl) rfl (lenOf pd3 rfl) rfl (Nat.le_of_eq rfl) (hb hby d3_160) rfl (by decide) (by decide) ?_
          intro r116 T116 h116 X116 q116
          obtain ⟨rfl, eh116⟩ := q116
          subst eh116
          show Go _ _ _ _ _ _ _ T116 (mkF m 163 #[.val (.ref o), .val (.ref t), .val (.int x), .val (.int z), .val (.int v3), .val (.int (1 : Int32)), .val (.int (1000 : Int32)), .val (.int v105), .val (.int v115)] [(.int (own_min (1000 : Int32) (own_max ((2 : Int32) * v3) (r / (2 : Int32)))))])
          refine i_aloadN (v := (.ref t)) (pc' := 164) X116 hx (hb hby d3_163) rfl rfl rfl ?_
          refine i_iconst (pc' := 165) (0 : Int32) X116 hx (hb hby d3_164) rfl (by decide) ?_
          have F118 : Av Z h114 t .int 2 (own_pair (1000 : Int32) (0 : Int32)) := ((own_set1 F109 W110).keep K114c (ninS (Ne.symm H6) nin0))
          refine ldI (v := (.int (1000 : Int32))) (pc' := 166) X116 hx hZ F118 (by decide) (by decide) (own_p0 _ _) (hb hby d3_165) rfl ?_
          have erow : own_min (1000 : Int32) (own_max ((2 : Int32) * v3) (r / (2 : Int32))) = (1000 : Int32) := by rw [own_next]; unfold own_max; rw [← hv104, ← hv105]; simp only [hc1, hc4, hc106, hc107, if_true, if_false]
          refine i_icF (pc' := 169) X116 hx (hb hby d3_166) rfl (XT.ii_ne_f erow) ?_
          refine i_iconst (pc' := 170) (1 : Int32) X116 hx (hb hby d3_169) rfl (by decide) ?_
          refine i_goto (pc' := 174) X116 hx (hb hby d3_170) (by decide) (by decide) ?_
          refine rN X116 hx hlk hret (by simp) (hb hby d3_174) (by decide) (by decide) ?_
          exact ⟨(own_min (1000 : Int32) (own_max ((2 : Int32) * v3) (r / (2 : Int32)))), (if v3 = (1 : Int32) then (1 : Int32) else (0 : Int32)), (by decide), (((((Keep.refl h0 _).wr W108 (Or.inl (List.mem_of_getElem? (i := 1) rfl))).wr W110 (Or.inl (List.mem_of_getElem? (i := 1) rfl))) : Keep h0 h110 [o, t]).trans K114c (allS (Or.inl (List.mem_of_getElem? (i := 0) rfl)) all0)), P114_0, P114_1, (by have q := F118; rw [erow, if_neg hc4]; exact q), (own_rng _ hr)⟩
        · skip
          refine i_icT (pc' := 122) X2 hx (hb hby d3_114) (XT.ii_le_t hc107) (by decide) (by decide) ?_
          refine i_aloadN (v := (.ref t)) (pc' := 123) X2 hx (hb hby d3_122) rfl rfl rfl ?_
          refine i_iconst (pc' := 124) (0 : Int32) X2 hx (hb hby d3_123) rfl (by decide) ?_
          refine i_iload (v := v105) (pc' := 126) X2 hx (hb hby d3_124) rfl rfl ?_
          refine saI (pc' := 127) X2 hx hZ H3 H5 (by decide) (by decide) (hb hby d3_126) rfl fun T119 h119 X119 W119 => ?_
          refine i_iload (v := v3) (pc' := 129) X119 hx (hb hby d3_127) rfl rfl ?_
          refine i_iconst (pc' := 130) (1 : Int32) X119 hx (hb hby d3_129) rfl (by decide) ?_
          refine i_icT (pc' := 140) X119 hx (hb hby d3_130) (XT.ii_ne_t hc4) (by decide) (by decide) ?_
          refine i_aloadN (v := (.ref t)) (pc' := 141) X119 hx (hb hby d3_140) rfl rfl rfl ?_
          refine i_iconst (pc' := 142) (1 : Int32) X119 hx (hb hby d3_141) rfl (by decide) ?_
          refine i_iconst (pc' := 143) (0 : Int32) X119 hx (hb hby d3_142) rfl (by decide) ?_
          have F120 : Av Z h119 t .int 2 (own_pair v105 b) := (own_set0 H3 W119)
          refine saI (pc' := 144) X119 hx hZ F120 H5 (by decide) (by decide) (hb hby d3_143) rfl fun T121 h121 X121 W121 => ?_
          refine i_aloadN (v := (.ref o)) (pc' := 145) X121 hx (hb hby d3_144) rfl rfl rfl ?_
          refine i_iload (v := v3) (pc' := 147) X121 hx (hb hby d3_145) rfl rfl ?_
          have F122 : Exa Z h121 o "com/example/forefetch/forefetch/BatchWindow" := (Jvm.RoadKit.Exa.wr W121 (Jvm.RoadKit.Exa.wr W119 H0))
          have F123 : Fld Z h121 o "com/example/forefetch/forefetch/BatchWindow" "rows" "I" (.int r) := (Jvm.RoadKit.Fld.other W121 (Jvm.RoadKit.Fld.other W119 H1 (Or.inl H6)) (Or.inl H6))
          have F124 : Fld Z h121 o "com/example/forefetch/forefetch/BatchWindow" "staleAfterFirst" "Z" (.int b) := (Jvm.RoadKit.Fld.other W121 (Jvm.RoadKit.Fld.other W119 H2 (Or.inl H6)) (Or.inl H6))
          refine cV (y := (⟨"com/example/forefetch/forefetch/BatchWindow", "stale", "(I)Z"⟩ : MethodName)) (C := "com/example/forefetch/forefetch/BatchWindow") (rest := []) (pc' := 150) 0 [(.int v3)] X121 hx hZ hown (hw _ (List.mem_of_getElem? (i := 20) rfl)) (hw _ (List.mem_of_getElem? (i := 21) rfl)) (hw _ (List.mem_of_getElem? (i := 23) rfl)) (hw _ (List.mem_of_getElem? (i := 22) rfl)) (hw _ (List.mem_of_getElem? (i := 2) rfl)) (hw _ (List.mem_of_getElem? (i := 24) rfl)) (by decide) F122 (rm6 l Z a0 hw [] o v3 r b n0 h121 X121.le F122 F123 F124 H4) (by decide) (by decide) (by rw [hml]; rfl) rfl (lenOf pd2 rfl) rfl (Nat.le_of_eq rfl) (hb hby d3_147) rfl (by decide) (by decide) ?_
          intro r125 T125 h125 X125 q125
          obtain ⟨rfl, K125c, P125_0, P125_1⟩ := q125
          show Go _ _ _ _ _ _ _ T125 (mkF m 150 #[.val (.ref o), .val (.ref t), .val (.int x), .val (.int z), .val (.int v3), .val (.int (1 : Int32)), .val (.int v105), .val (.int v105), .unset] [(.int (if (1 : Int32) < v3 then (1 : Int32) else if b = 0 then (1 : Int32) else (0 : Int32)))])
          obtain ⟨v126, hv126⟩ : ∃ zz : Int32, zz = (if (1 : Int32) < v3 then (1 : Int32) else if b = 0 then (1 : Int32) else (0 : Int32)) := ⟨_, rfl⟩
          rw [← hv126]
          refine i_istore (L' := #[.val (.ref o), .val (.ref t), .val (.int x), .val (.int z), .val (.int v3), .val (.int (1 : Int32)), .val (.int v105), .val (.int v105), .val (.int v126)]) (pc' := 152) X125 hx (hb hby d3_150) rfl rfl ?_
          refine i_iload (v := v126) (pc' := 154) X125 hx (hb hby d3_152) rfl rfl ?_
          refine i_iload (v := (1 : Int32)) (pc' := 156) X125 hx (hb hby d3_154) rfl rfl ?_
          refine i_icF (pc' := 159) X125 hx (hb hby d3_156) rfl (XT.ii_ne_f (hv126.trans ((own_worth _ _ (by rw [hv3]; exact own_ans1 _)).trans (by simp [hc1, hc4, hc106, hc107])))) ?_
          refine i_aloadN (v := (.ref o)) (pc' := 160) X125 hx (hb hby d3_159) rfl rfl rfl ?_
          have F128 : Exa Z h125 o "com/example/forefetch/forefetch/BatchWindow" := (F122.keep K125c)
          refine cV (y := (⟨"com/example/forefetch/forefetch/BatchWindow", "rows", "()I"⟩ : MethodName)) (C := "com/example/forefetch/forefetch/BatchWindow") (rest := []) (pc' := 163) 0 [] X125 hx hZ hown (hw _ (List.mem_of_getElem? (i := 34) rfl)) (hw _ (List.mem_of_getElem? (i := 35) rfl)) (hw _ (List.mem_of_getElem? (i := 37) rfl)) (hw _ (List.mem_of_getElem? (i := 36) rfl)) (hw _ (List.mem_of_getElem? (i := 2) rfl)) (hw _ (List.mem_of_getElem? (i := 38) rfl)) (by decide) F128 (rm3 l Z a0 hw [] o (own_min (1000 : Int32) (own_max ((2 : Int32) * v3) (r / (2 : Int32)))) n0 h125 X125.le P125_0) (by decide) (by decide) (by rw [hml]; rfl) rfl (lenOf pd3 rfl) rfl (Nat.le_of_eq rfl) (hb hby d3_160) rfl (by decide) (by decide) ?_
          intro r127 T127 h127 X127 q127
          obtain ⟨rfl, eh127⟩ := q127
          subst eh127
          show Go _ _ _ _ _ _ _ T127 (mkF m 163 #[.val (.ref o), .val (.ref t), .val (.int x), .val (.int z), .val (.int v3), .val (.int (1 : Int32)), .val (.int v105), .val (.int v105), .val (.int v126)] [(.int (own_min (1000 : Int32) (own_max ((2 : Int32) * v3) (r / (2 : Int32)))))])
          refine i_aloadN (v := (.ref t)) (pc' := 164) X127 hx (hb hby d3_163) rfl rfl rfl ?_
          refine i_iconst (pc' := 165) (0 : Int32) X127 hx (hb hby d3_164) rfl (by decide) ?_
          have F129 : Av Z h125 t .int 2 (own_pair v105 (0 : Int32)) := ((own_set1 F120 W121).keep K125c (ninS (Ne.symm H6) nin0))
          refine ldI (v := (.int v105)) (pc' := 166) X127 hx hZ F129 (by decide) (by decide) (own_p0 _ _) (hb hby d3_165) rfl ?_
          have erow : own_min (1000 : Int32) (own_max ((2 : Int32) * v3) (r / (2 : Int32))) = v105 := by rw [own_next]; unfold own_max; rw [← hv104, ← hv105]; simp only [hc1, hc4, hc106, hc107, if_true, if_false]
          refine i_icF (pc' := 169) X127 hx (hb hby d3_166) rfl (XT.ii_ne_f erow) ?_
          refine i_iconst (pc' := 170) (1 : Int32) X127 hx (hb hby d3_169) rfl (by decide) ?_
          refine i_goto (pc' := 174) X127 hx (hb hby d3_170) (by decide) (by decide) ?_
          refine rN X127 hx hlk hret (by simp) (hb hby d3_174) (by decide) (by decide) ?_
          exact ⟨(own_min (1000 : Int32) (own_max ((2 : Int32) * v3) (r / (2 : Int32)))), (if v3 = (1 : Int32) then (1 : Int32) else (0 : Int32)), (by decide), (((((Keep.refl h0 _).wr W119 (Or.inl (List.mem_of_getElem? (i := 1) rfl))).wr W121 (Or.inl (List.mem_of_getElem? (i := 1) rfl))) : Keep h0 h121 [o, t]).trans K125c (allS (Or.inl (List.mem_of_getElem? (i := 0) rfl)) all0)), P125_0, P125_1, (by have q := F129; rw [erow, if_neg hc4]; exact q), (own_rng _ hr)⟩
      · skip
        refine i_icT (pc' := 109) X2 hx (hb hby d3_102) (XT.ii_le_t hc106) (by decide) (by decide) ?_
        refine i_iload (v := v104) (pc' := 111) X2 hx (hb hby d3_109) rfl rfl ?_
        refine i_sipush (pc' := 114) (1000 : Int32) X2 hx (hb hby d3_111) rfl (by decide) ?_
        by_cases hc130 : (1000 : Int32) < v104
        · skip
          refine i_icF (pc' := 117) X2 hx (hb hby d3_114) rfl (XT.ii_le_f hc130) ?_
          refine i_sipush (pc' := 120) (1000 : Int32) X2 hx (hb hby d3_117) rfl (by decide) ?_
          refine i_istore (L' := #[.val (.ref o), .val (.ref t), .val (.int x), .val (.int z), .val (.int v3), .val (.int (1 : Int32)), .val (.int (1000 : Int32)), .val (.int v105), .unset]) (pc' := 122) X2 hx (hb hby d3_120) rfl rfl ?_
          refine i_aloadN (v := (.ref t)) (pc' := 123) X2 hx (hb hby d3_122) rfl rfl rfl ?_
          refine i_iconst (pc' := 124) (0 : Int32) X2 hx (hb hby d3_123) rfl (by decide) ?_
          refine i_iload (v := (1000 : Int32)) (pc' := 126) X2 hx (hb hby d3_124) rfl rfl ?_
          refine saI (pc' := 127) X2 hx hZ H3 H5 (by decide) (by decide) (hb hby d3_126) rfl fun T131 h131 X131 W131 => ?_
          refine i_iload (v := v3) (pc' := 129) X131 hx (hb hby d3_127) rfl rfl ?_
          refine i_iconst (pc' := 130) (1 : Int32) X131 hx (hb hby d3_129) rfl (by decide) ?_
          refine i_icT (pc' := 140) X131 hx (hb hby d3_130) (XT.ii_ne_t hc4) (by decide) (by decide) ?_
          refine i_aloadN (v := (.ref t)) (pc' := 141) X131 hx (hb hby d3_140) rfl rfl rfl ?_
          refine i_iconst (pc' := 142) (1 : Int32) X131 hx (hb hby d3_141) rfl (by decide) ?_
          refine i_iconst (pc' := 143) (0 : Int32) X131 hx (hb hby d3_142) rfl (by decide) ?_
          have F132 : Av Z h131 t .int 2 (own_pair (1000 : Int32) b) := (own_set0 H3 W131)
          refine saI (pc' := 144) X131 hx hZ F132 H5 (by decide) (by decide) (hb hby d3_143) rfl fun T133 h133 X133 W133 => ?_
          refine i_aloadN (v := (.ref o)) (pc' := 145) X133 hx (hb hby d3_144) rfl rfl rfl ?_
          refine i_iload (v := v3) (pc' := 147) X133 hx (hb hby d3_145) rfl rfl ?_
          have F134 : Exa Z h133 o "com/example/forefetch/forefetch/BatchWindow" := (Jvm.RoadKit.Exa.wr W133 (Jvm.RoadKit.Exa.wr W131 H0))
          have F135 : Fld Z h133 o "com/example/forefetch/forefetch/BatchWindow" "rows" "I" (.int r) := (Jvm.RoadKit.Fld.other W133 (Jvm.RoadKit.Fld.other W131 H1 (Or.inl H6)) (Or.inl H6))
          have F136 : Fld Z h133 o "com/example/forefetch/forefetch/BatchWindow" "staleAfterFirst" "Z" (.int b) := (Jvm.RoadKit.Fld.other W133 (Jvm.RoadKit.Fld.other W131 H2 (Or.inl H6)) (Or.inl H6))
          refine cV (y := (⟨"com/example/forefetch/forefetch/BatchWindow", "stale", "(I)Z"⟩ : MethodName)) (C := "com/example/forefetch/forefetch/BatchWindow") (rest := []) (pc' := 150) 0 [(.int v3)] X133 hx hZ hown (hw _ (List.mem_of_getElem? (i := 20) rfl)) (hw _ (List.mem_of_getElem? (i := 21) rfl)) (hw _ (List.mem_of_getElem? (i := 23) rfl)) (hw _ (List.mem_of_getElem? (i := 22) rfl)) (hw _ (List.mem_of_getElem? (i := 2) rfl)) (hw _ (List.mem_of_getElem? (i := 24) rfl)) (by decide) F134 (rm6 l Z a0 hw [] o v3 r b n0 h133 X133.le F134 F135 F136 H4) (by decide) (by decide) (by rw [hml]; rfl) rfl (lenOf pd2 rfl) rfl (Nat.le_of_eq rfl) (hb hby d3_147) rfl (by decide) (by decide) ?_
          intro r137 T137 h137 X137 q137
          obtain ⟨rfl, K137c, P137_0, P137_1⟩ := q137
          show Go _ _ _ _ _ _ _ T137 (mkF m 150 #[.val (.ref o), .val (.ref t), .val (.int x), .val (.int z), .val (.int v3), .val (.int (1 : Int32)), .val (.int (1000 : Int32)), .val (.int v105), .unset] [(.int (if (1 : Int32) < v3 then (1 : Int32) else if b = 0 then (1 : Int32) else (0 : Int32)))])
          obtain ⟨v138, hv138⟩ : ∃ zz : Int32, zz = (if (1 : Int32) < v3 then (1 : Int32) else if b = 0 then (1 : Int32) else (0 : Int32)) := ⟨_, rfl⟩
          rw [← hv138]
          refine i_istore (L' := #[.val (.ref o), .val (.ref t), .val (.int x), .val (.int z), .val (.int v3), .val (.int (1 : Int32)), .val (.int (1000 : Int32)), .val (.int v105), .val (.int v138)]) (pc' := 152) X137 hx (hb hby d3_150) rfl rfl ?_
          refine i_iload (v := v138) (pc' := 154) X137 hx (hb hby d3_152) rfl rfl ?_
          refine i_iload (v := (1 : Int32)) (pc' := 156) X137 hx (hb hby d3_154) rfl rfl ?_
          refine i_icF (pc' := 159) X137 hx (hb hby d3_156) rfl (XT.ii_ne_f (hv138.trans ((own_worth _ _ (by rw [hv3]; exact own_ans1 _)).trans (by simp [hc1, hc4, hc106, hc130])))) ?_
          refine i_aloadN (v := (.ref o)) (pc' := 160) X137 hx (hb hby d3_159) rfl rfl rfl ?_
          have F140 : Exa Z h137 o "com/example/forefetch/forefetch/BatchWindow" := (F134.keep K137c)
          refine cV (y := (⟨"com/example/forefetch/forefetch/BatchWindow", "rows", "()I"⟩ : MethodName)) (C := "com/example/forefetch/forefetch/BatchWindow") (rest := []) (pc' := 163) 0 [] X137 hx hZ hown (hw _ (List.mem_of_getElem? (i := 34) rfl)) (hw _ (List.mem_of_getElem? (i := 35) rfl)) (hw _ (List.mem_of_getElem? (i := 37) rfl)) (hw _ (List.mem_of_getElem? (i := 36) rfl)) (hw _ (List.mem_of_getElem? (i := 2) rfl)) (hw _ (List.mem_of_getElem? (i := 38) rfl)) (by decide) F140 (rm3 l Z a0 hw [] o (own_min (1000 : Int32) (own_max ((2 : Int32) * v3) (r / (2 : Int32)))) n0 h137 X137.le P137_0) (by decide) (by decide) (by rw [hml]; rfl) rfl (lenOf pd3 rfl) rfl (Nat.le_of_eq rfl) (hb hby d3_160) rfl (by decide) (by decide) ?_
          intro r139 T139 h139 X139 q139
          obtain ⟨rfl, eh139⟩ := q139
          subst eh139
          show Go _ _ _ _ _ _ _ T139 (mkF m 163 #[.val (.ref o), .val (.ref t), .val (.int x), .val (.int z), .val (.int v3), .val (.int (1 : Int32)), .val (.int (1000 : Int32)), .val (.int v105), .val (.int v138)] [(.int (own_min (1000 : Int32) (own_max ((2 : Int32) * v3) (r / (2 : Int32)))))])
          refine i_aloadN (v := (.ref t)) (pc' := 164) X139 hx (hb hby d3_163) rfl rfl rfl ?_
          refine i_iconst (pc' := 165) (0 : Int32) X139 hx (hb hby d3_164) rfl (by decide) ?_
          have F141 : Av Z h137 t .int 2 (own_pair (1000 : Int32) (0 : Int32)) := ((own_set1 F132 W133).keep K137c (ninS (Ne.symm H6) nin0))
          refine ldI (v := (.int (1000 : Int32))) (pc' := 166) X139 hx hZ F141 (by decide) (by decide) (own_p0 _ _) (hb hby d3_165) rfl ?_
          have erow : own_min (1000 : Int32) (own_max ((2 : Int32) * v3) (r / (2 : Int32))) = (1000 : Int32) := by rw [own_next]; unfold own_max; rw [← hv104, ← hv105]; simp only [hc1, hc4, hc106, hc130, if_true, if_false]
          refine i_icF (pc' := 169) X139 hx (hb hby d3_166) rfl (XT.ii_ne_f erow) ?_
          refine i_iconst (pc' := 170) (1 : Int32) X139 hx (hb hby d3_169) rfl (by decide) ?_
          refine i_goto (pc' := 174) X139 hx (hb hby d3_170) (by decide) (by decide) ?_
          refine rN X139 hx hlk hret (by simp) (hb hby d3_174) (by decide) (by decide) ?_
          exact ⟨(own_min (1000 : Int32) (own_max ((2 : Int32) * v3) (r / (2 : Int32)))), (if v3 = (1 : Int32) then (1 : Int32) else (0 : Int32)), (by decide), (((((Keep.refl h0 _).wr W131 (Or.inl (List.mem_of_getElem? (i := 1) rfl))).wr W133 (Or.inl (List.mem_of_getElem? (i := 1) rfl))) : Keep h0 h133 [o, t]).trans K137c (allS (Or.inl (List.mem_of_getElem? (i := 0) rfl)) all0)), P137_0, P137_1, (by have q := F141; rw [erow, if_neg hc4]; exact q), (own_rng _ hr)⟩
        · skip
          refine i_icT (pc' := 122) X2 hx (hb hby d3_114) (XT.ii_le_t hc130) (by decide) (by decide) ?_
          refine i_aloadN (v := (.ref t)) (pc' := 123) X2 hx (hb hby d3_122) rfl rfl rfl ?_
          refine i_iconst (pc' := 124) (0 : Int32) X2 hx (hb hby d3_123) rfl (by decide) ?_
          refine i_iload (v := v104) (pc' := 126) X2 hx (hb hby d3_124) rfl rfl ?_
          refine saI (pc' := 127) X2 hx hZ H3 H5 (by decide) (by decide) (hb hby d3_126) rfl fun T142 h142 X142 W142 => ?_
          refine i_iload (v := v3) (pc' := 129) X142 hx (hb hby d3_127) rfl rfl ?_
          refine i_iconst (pc' := 130) (1 : Int32) X142 hx (hb hby d3_129) rfl (by decide) ?_
          refine i_icT (pc' := 140) X142 hx (hb hby d3_130) (XT.ii_ne_t hc4) (by decide) (by decide) ?_
          refine i_aloadN (v := (.ref t)) (pc' := 141) X142 hx (hb hby d3_140) rfl rfl rfl ?_
          refine i_iconst (pc' := 142) (1 : Int32) X142 hx (hb hby d3_141) rfl (by decide) ?_
          refine i_iconst (pc' := 143) (0 : Int32) X142 hx (hb hby d3_142) rfl (by decide) ?_
          have F143 : Av Z h142 t .int 2 (own_pair v104 b) := (own_set0 H3 W142)
          refine saI (pc' := 144) X142 hx hZ F143 H5 (by decide) (by decide) (hb hby d3_143) rfl fun T144 h144 X144 W144 => ?_
          refine i_aloadN (v := (.ref o)) (pc' := 145) X144 hx (hb hby d3_144) rfl rfl rfl ?_
          refine i_iload (v := v3) (pc' := 147) X144 hx (hb hby d3_145) rfl rfl ?_
          have F145 : Exa Z h144 o "com/example/forefetch/forefetch/BatchWindow" := (Jvm.RoadKit.Exa.wr W144 (Jvm.RoadKit.Exa.wr W142 H0))
          have F146 : Fld Z h144 o "com/example/forefetch/forefetch/BatchWindow" "rows" "I" (.int r) := (Jvm.RoadKit.Fld.other W144 (Jvm.RoadKit.Fld.other W142 H1 (Or.inl H6)) (Or.inl H6))
          have F147 : Fld Z h144 o "com/example/forefetch/forefetch/BatchWindow" "staleAfterFirst" "Z" (.int b) := (Jvm.RoadKit.Fld.other W144 (Jvm.RoadKit.Fld.other W142 H2 (Or.inl H6)) (Or.inl H6))
          refine cV (y := (⟨"com/example/forefetch/forefetch/BatchWindow", "stale", "(I)Z"⟩ : MethodName)) (C := "com/example/forefetch/forefetch/BatchWindow") (rest := []) (pc' := 150) 0 [(.int v3)] X144 hx hZ hown (hw _ (List.mem_of_getElem? (i := 20) rfl)) (hw _ (List.mem_of_getElem? (i := 21) rfl)) (hw _ (List.mem_of_getElem? (i := 23) rfl)) (hw _ (List.mem_of_getElem? (i := 22) rfl)) (hw _ (List.mem_of_getElem? (i := 2) rfl)) (hw _ (List.mem_of_getElem? (i := 24) rfl)) (by decide) F145 (rm6 l Z a0 hw [] o v3 r b n0 h144 X144.le F145 F146 F147 H4) (by decide) (by decide) (by rw [hml]; rfl) rfl (lenOf pd2 rfl) rfl (Nat.le_of_eq rfl) (hb hby d3_147) rfl (by decide) (by decide) ?_
          intro r148 T148 h148 X148 q148
          obtain ⟨rfl, K148c, P148_0, P148_1⟩ := q148
          show Go _ _ _ _ _ _ _ T148 (mkF m 150 #[.val (.ref o), .val (.ref t), .val (.int x), .val (.int z), .val (.int v3), .val (.int (1 : Int32)), .val (.int v104), .val (.int v105), .unset] [(.int (if (1 : Int32) < v3 then (1 : Int32) else if b = 0 then (1 : Int32) else (0 : Int32)))])
          obtain ⟨v149, hv149⟩ : ∃ zz : Int32, zz = (if (1 : Int32) < v3 then (1 : Int32) else if b = 0 then (1 : Int32) else (0 : Int32)) := ⟨_, rfl⟩
          rw [← hv149]
          refine i_istore (L' := #[.val (.ref o), .val (.ref t), .val (.int x), .val (.int z), .val (.int v3), .val (.int (1 : Int32)), .val (.int v104), .val (.int v105), .val (.int v149)]) (pc' := 152) X148 hx (hb hby d3_150) rfl rfl ?_
          refine i_iload (v := v149) (pc' := 154) X148 hx (hb hby d3_152) rfl rfl ?_
          refine i_iload (v := (1 : Int32)) (pc' := 156) X148 hx (hb hby d3_154) rfl rfl ?_
          refine i_icF (pc' := 159) X148 hx (hb hby d3_156) rfl (XT.ii_ne_f (hv149.trans ((own_worth _ _ (by rw [hv3]; exact own_ans1 _)).trans (by simp [hc1, hc4, hc106, hc130])))) ?_
          refine i_aloadN (v := (.ref o)) (pc' := 160) X148 hx (hb hby d3_159) rfl rfl rfl ?_
          have F151 : Exa Z h148 o "com/example/forefetch/forefetch/BatchWindow" := (F145.keep K148c)
          refine cV (y := (⟨"com/example/forefetch/forefetch/BatchWindow", "rows", "()I"⟩ : MethodName)) (C := "com/example/forefetch/forefetch/BatchWindow") (rest := []) (pc' := 163) 0 [] X148 hx hZ hown (hw _ (List.mem_of_getElem? (i := 34) rfl)) (hw _ (List.mem_of_getElem? (i := 35) rfl)) (hw _ (List.mem_of_getElem? (i := 37) rfl)) (hw _ (List.mem_of_getElem? (i := 36) rfl)) (hw _ (List.mem_of_getElem? (i := 2) rfl)) (hw _ (List.mem_of_getElem? (i := 38) rfl)) (by decide) F151 (rm3 l Z a0 hw [] o (own_min (1000 : Int32) (own_max ((2 : Int32) * v3) (r / (2 : Int32)))) n0 h148 X148.le P148_0) (by decide) (by decide) (by rw [hml]; rfl) rfl (lenOf pd3 rfl) rfl (Nat.le_of_eq rfl) (hb hby d3_160) rfl (by decide) (by decide) ?_
          intro r150 T150 h150 X150 q150
          obtain ⟨rfl, eh150⟩ := q150
          subst eh150
          show Go _ _ _ _ _ _ _ T150 (mkF m 163 #[.val (.ref o), .val (.ref t), .val (.int x), .val (.int z), .val (.int v3), .val (.int (1 : Int32)), .val (.int v104), .val (.int v105), .val (.int v149)] [(.int (own_min (1000 : Int32) (own_max ((2 : Int32) * v3) (r / (2 : Int32)))))])
          refine i_aloadN (v := (.ref t)) (pc' := 164) X150 hx (hb hby d3_163) rfl rfl rfl ?_
          refine i_iconst (pc' := 165) (0 : Int32) X150 hx (hb hby d3_164) rfl (by decide) ?_
          have F152 : Av Z h148 t .int 2 (own_pair v104 (0 : Int32)) := ((own_set1 F143 W144).keep K148c (ninS (Ne.symm H6) nin0))
          refine ldI (v := (.int v104)) (pc' := 166) X150 hx hZ F152 (by decide) (by decide) (own_p0 _ _) (hb hby d3_165) rfl ?_
          have erow : own_min (1000 : Int32) (own_max ((2 : Int32) * v3) (r / (2 : Int32))) = v104 := by rw [own_next]; unfold own_max; rw [← hv104, ← hv105]; simp only [hc1, hc4, hc106, hc130, if_true, if_false]
          refine i_icF (pc' := 169) X150 hx (hb hby d3_166) rfl (XT.ii_ne_f erow) ?_
          refine i_iconst (pc' := 170) (1 : Int32) X150 hx (hb hby d3_169) rfl (by decide) ?_
          refine i_goto (pc' := 174) X150 hx (hb hby d3_170) (by decide) (by decide) ?_
          refine rN X150 hx hlk hret (by simp) (hb hby d3_174) (by decide) (by decide) ?_
          exact ⟨(own_min (1000 : Int32) (own_max ((2 : Int32) * v3) (r / (2 : Int32)))), (if v3 = (1 : Int32) then (1 : Int32) else (0 : Int32)), (by decide), (((((Keep.refl h0 _).wr W142 (Or.inl (List.mem_of_getElem? (i := 1) rfl))).wr W144 (Or.inl (List.mem_of_getElem? (i := 1) rfl))) : Keep h0 h144 [o, t]).trans K148c (allS (Or.inl (List.mem_of_getElem? (i := 0) rfl)) all0)), P148_0, P148_1, (by have q := F152; rw [erow, if_neg hc4]; exact q), (own_rng _ hr)⟩
  · skip
    refine i_ifF (pc' := 4) X0 hx (hb hby d3_1) rfl (XT.i0_eq_f hc1) ?_
    refine i_aloadN (v := (.ref o)) (pc' := 5) X0 hx (hb hby d3_4) rfl rfl rfl ?_
    refine cV (y := (⟨"com/example/forefetch/forefetch/BatchWindow", "passed", "()V"⟩ : MethodName)) (C := "com/example/forefetch/forefetch/BatchWindow") (rest := []) (pc' := 8) 0 [] X0 hx hZ hown (hw _ (List.mem_of_getElem? (i := 39) rfl)) (hw _ (List.mem_of_getElem? (i := 40) rfl)) (hw _ (List.mem_of_getElem? (i := 42) rfl)) (hw _ (List.mem_of_getElem? (i := 41) rfl)) (hw _ (List.mem_of_getElem? (i := 2) rfl)) (hw _ (List.mem_of_getElem? (i := 43) rfl)) (by decide) H0 (rm4 l Z a0 hw [] o r b n0 h0 X0.le H0 H1 H2 H4) (by decide) (by decide) (by rw [hml]; rfl) rfl (lenOf pd4 rfl) rfl (Nat.le_of_eq rfl) (hb hby d3_5) rfl (by decide) (by decide) ?_
    intro r153 T153 h153 X153 q153
    obtain ⟨rfl, K153c, P153_0, P153_1⟩ := q153
    show Go _ _ _ _ _ _ _ T153 (mkF m 8 #[.val (.ref o), .val (.ref t), .val (.int x), .val (.int z), .unset, .unset, .unset, .unset, .unset] [])
    refine i_aloadN (v := (.ref t)) (pc' := 9) X153 hx (hb hby d3_8) rfl rfl rfl ?_
    refine i_iconst (pc' := 10) (1 : Int32) X153 hx (hb hby d3_9) rfl (by decide) ?_
    refine i_iconst (pc' := 11) (0 : Int32) X153 hx (hb hby d3_10) rfl (by decide) ?_
    have F154 : Av Z h153 t .int 2 (own_pair r b) := (H3.keep K153c (ninS (Ne.symm H6) nin0))
    refine saI (pc' := 12) X153 hx hZ F154 H5 (by decide) (by decide) (hb hby d3_11) rfl fun T155 h155 X155 W155 => ?_
    refine i_aloadN (v := (.ref t)) (pc' := 13) X155 hx (hb hby d3_12) rfl rfl rfl ?_
    refine i_iconst (pc' := 14) (0 : Int32) X155 hx (hb hby d3_13) rfl (by decide) ?_
    have F156 : Av Z h155 t .int 2 (own_pair r (0 : Int32)) := (own_set1 F154 W155)
    refine ldI (v := (.int r)) (pc' := 15) X155 hx hZ F156 (by decide) (by decide) (own_p0 _ _) (hb hby d3_14) rfl ?_
    refine i_sipush (pc' := 18) (500 : Int32) X155 hx (hb hby d3_15) rfl (by decide) ?_
    by_cases hc157 : (500 : Int32) < r
    · skip
      refine i_icF (pc' := 21) X155 hx (hb hby d3_18) rfl (XT.ii_le_f hc157) ?_
      refine i_aloadN (v := (.ref t)) (pc' := 22) X155 hx (hb hby d3_21) rfl rfl rfl ?_
      refine i_iconst (pc' := 23) (0 : Int32) X155 hx (hb hby d3_22) rfl (by decide) ?_
      refine i_sipush (pc' := 26) (1000 : Int32) X155 hx (hb hby d3_23) rfl (by decide) ?_
      refine saI (pc' := 27) X155 hx hZ F156 H5 (by decide) (by decide) (hb hby d3_26) rfl fun T158 h158 X158 W158 => ?_
      refine i_goto (pc' := 38) X158 hx (hb hby d3_27) (by decide) (by decide) ?_
      refine i_aloadN (v := (.ref o)) (pc' := 39) X158 hx (hb hby d3_38) rfl rfl rfl ?_
      have F159 : Fld Z h158 o "com/example/forefetch/forefetch/BatchWindow" "rows" "I" (.int (own_min (1000 : Int32) ((2 : Int32) * r))) := (Jvm.RoadKit.Fld.other W158 (Jvm.RoadKit.Fld.other W155 P153_0 (Or.inl H6)) (Or.inl H6))
      have F161 : Exa Z h158 o "com/example/forefetch/forefetch/BatchWindow" := (Jvm.RoadKit.Exa.wr W158 (Jvm.RoadKit.Exa.wr W155 (H0.keep K153c)))
      refine cV (y := (⟨"com/example/forefetch/forefetch/BatchWindow", "rows", "()I"⟩ : MethodName)) (C := "com/example/forefetch/forefetch/BatchWindow") (rest := []) (pc' := 42) 0 [] X158 hx hZ hown (hw _ (List.mem_of_getElem? (i := 34) rfl)) (hw _ (List.mem_of_getElem? (i := 35) rfl)) (hw _ (List.mem_of_getElem? (i := 37) rfl)) (hw _ (List.mem_of_getElem? (i := 36) rfl)) (hw _ (List.mem_of_getElem? (i := 2) rfl)) (hw _ (List.mem_of_getElem? (i := 38) rfl)) (by decide) F161 (rm3 l Z a0 hw [] o (own_min (1000 : Int32) ((2 : Int32) * r)) n0 h158 X158.le F159) (by decide) (by decide) (by rw [hml]; rfl) rfl (lenOf pd3 rfl) rfl (Nat.le_of_eq rfl) (hb hby d3_39) rfl (by decide) (by decide) ?_
      intro r160 T160 h160 X160 q160
      obtain ⟨rfl, eh160⟩ := q160
      subst eh160
      show Go _ _ _ _ _ _ _ T160 (mkF m 42 #[.val (.ref o), .val (.ref t), .val (.int x), .val (.int z), .unset, .unset, .unset, .unset, .unset] [(.int (own_min (1000 : Int32) ((2 : Int32) * r)))])
      refine i_aloadN (v := (.ref t)) (pc' := 43) X160 hx (hb hby d3_42) rfl rfl rfl ?_
      refine i_iconst (pc' := 44) (0 : Int32) X160 hx (hb hby d3_43) rfl (by decide) ?_
      have F162 : Av Z h158 t .int 2 (own_pair (1000 : Int32) (0 : Int32)) := (own_set0 F156 W158)
      refine ldI (v := (.int (1000 : Int32))) (pc' := 45) X160 hx hZ F162 (by decide) (by decide) (own_p0 _ _) (hb hby d3_44) rfl ?_
      refine i_icF (pc' := 48) X160 hx (hb hby d3_45) rfl (XT.ii_ne_f ((own_pass hr).1.trans (by rw [if_pos hc157]))) ?_
      refine i_iconst (pc' := 49) (1 : Int32) X160 hx (hb hby d3_48) rfl (by decide) ?_
      refine i_goto (pc' := 53) X160 hx (hb hby d3_49) (by decide) (by decide) ?_
      refine rN X160 hx hlk hret (by simp) (hb hby d3_53) (by decide) (by decide) ?_
      have F163 : Fld Z h158 o "com/example/forefetch/forefetch/BatchWindow" "staleAfterFirst" "Z" (.int (0 : Int32)) := (Jvm.RoadKit.Fld.other W158 (Jvm.RoadKit.Fld.other W155 P153_1 (Or.inl H6)) (Or.inl H6))
      exact ⟨(own_min (1000 : Int32) ((2 : Int32) * r)), (0 : Int32), (by decide), (((((Keep.refl h0 _) : Keep h0 h0 [o, t]).trans K153c (allS (Or.inl (List.mem_of_getElem? (i := 0) rfl)) all0)).wr W155 (Or.inl (List.mem_of_getElem? (i := 1) rfl))).wr W158 (Or.inl (List.mem_of_getElem? (i := 1) rfl))), F159, F163, (by have q := F162; rw [(own_pass hr).1, if_pos hc157]; exact q), ⟨(own_pass hr).2.1, (own_pass hr).2.2⟩⟩
    · skip
      refine i_icT (pc' := 30) X155 hx (hb hby d3_18) (XT.ii_le_t hc157) (by decide) (by decide) ?_
      refine i_aloadN (v := (.ref t)) (pc' := 31) X155 hx (hb hby d3_30) rfl rfl rfl ?_
      refine i_iconst (pc' := 32) (0 : Int32) X155 hx (hb hby d3_31) rfl (by decide) ?_
      refine i_iconst (pc' := 33) (2 : Int32) X155 hx (hb hby d3_32) rfl (by decide) ?_
      refine i_aloadN (v := (.ref t)) (pc' := 34) X155 hx (hb hby d3_33) rfl rfl rfl ?_
      refine i_iconst (pc' := 35) (0 : Int32) X155 hx (hb hby d3_34) rfl (by decide) ?_
      refine ldI (v := (.int r)) (pc' := 36) X155 hx hZ F156 (by decide) (by decide) (own_p0 _ _) (hb hby d3_35) rfl ?_
      refine i_imul (pc' := 37) X155 hx (hb hby d3_36) rfl ?_
      refine saI (pc' := 38) X155 hx hZ F156 H5 (by decide) (by decide) (hb hby d3_37) rfl fun T164 h164 X164 W164 => ?_
      refine i_aloadN (v := (.ref o)) (pc' := 39) X164 hx (hb hby d3_38) rfl rfl rfl ?_
      have F165 : Fld Z h164 o "com/example/forefetch/forefetch/BatchWindow" "rows" "I" (.int (own_min (1000 : Int32) ((2 : Int32) * r))) := (Jvm.RoadKit.Fld.other W164 (Jvm.RoadKit.Fld.other W155 P153_0 (Or.inl H6)) (Or.inl H6))
      have F167 : Exa Z h164 o "com/example/forefetch/forefetch/BatchWindow" := (Jvm.RoadKit.Exa.wr W164 (Jvm.RoadKit.Exa.wr W155 (H0.keep K153c)))
      refine cV (y := (⟨"com/example/forefetch/forefetch/BatchWindow", "rows", "()I"⟩ : MethodName)) (C := "com/example/forefetch/forefetch/BatchWindow") (rest := []) (pc' := 42) 0 [] X164 hx hZ hown (hw _ (List.mem_of_getElem? (i := 34) rfl)) (hw _ (List.mem_of_getElem? (i := 35) rfl)) (hw _ (List.mem_of_getElem? (i := 37) rfl)) (hw _ (List.mem_of_getElem? (i := 36) rfl)) (hw _ (List.mem_of_getElem? (i := 2) rfl)) (hw _ (List.mem_of_getElem? (i := 38) rfl)) (by decide) F167 (rm3 l Z a0 hw [] o (own_min (1000 : Int32) ((2 : Int32) * r)) n0 h164 X164.le F165) (by decide) (by decide) (by rw [hml]; rfl) rfl (lenOf pd3 rfl) rfl (Nat.le_of_eq rfl) (hb hby d3_39) rfl (by decide) (by decide) ?_
      intro r166 T166 h166 X166 q166
      obtain ⟨rfl, eh166⟩ := q166
      subst eh166
      show Go _ _ _ _ _ _ _ T166 (mkF m 42 #[.val (.ref o), .val (.ref t), .val (.int x), .val (.int z), .unset, .unset, .unset, .unset, .unset] [(.int (own_min (1000 : Int32) ((2 : Int32) * r)))])
      refine i_aloadN (v := (.ref t)) (pc' := 43) X166 hx (hb hby d3_42) rfl rfl rfl ?_
      refine i_iconst (pc' := 44) (0 : Int32) X166 hx (hb hby d3_43) rfl (by decide) ?_
      have F168 : Av Z h164 t .int 2 (own_pair ((2 : Int32) * r) (0 : Int32)) := (own_set0 F156 W164)
      refine ldI (v := (.int ((2 : Int32) * r))) (pc' := 45) X166 hx hZ F168 (by decide) (by decide) (own_p0 _ _) (hb hby d3_44) rfl ?_
      refine i_icF (pc' := 48) X166 hx (hb hby d3_45) rfl (XT.ii_ne_f ((own_pass hr).1.trans (by rw [if_neg hc157]))) ?_
      refine i_iconst (pc' := 49) (1 : Int32) X166 hx (hb hby d3_48) rfl (by decide) ?_
      refine i_goto (pc' := 53) X166 hx (hb hby d3_49) (by decide) (by decide) ?_
      refine rN X166 hx hlk hret (by simp) (hb hby d3_53) (by decide) (by decide) ?_
      have F169 : Fld Z h164 o "com/example/forefetch/forefetch/BatchWindow" "staleAfterFirst" "Z" (.int (0 : Int32)) := (Jvm.RoadKit.Fld.other W164 (Jvm.RoadKit.Fld.other W155 P153_1 (Or.inl H6)) (Or.inl H6))
      exact ⟨(own_min (1000 : Int32) ((2 : Int32) * r)), (0 : Int32), (by decide), (((((Keep.refl h0 _) : Keep h0 h0 [o, t]).trans K153c (allS (Or.inl (List.mem_of_getElem? (i := 0) rfl)) all0)).wr W155 (Or.inl (List.mem_of_getElem? (i := 1) rfl))).wr W164 (Or.inl (List.mem_of_getElem? (i := 1) rfl))), F165, F169, (by have q := F168; rw [(own_pass hr).1, if_neg hc157]; exact q), ⟨(own_pass hr).2.1, (own_pass hr).2.2⟩⟩
theorem ef_rm0 (m : MethodId) (p1 : Int32) (p2 : Int32) (p3 : Int32) (p4 : Int32) (p5 : Int32) : entryFrame m #[(.int p1), (.int p2), (.int p3), (.int p4), (.int p5)] maxLocals = mkF m 0 #[.val (.int p1), .val (.int p2), .val (.int p3), .val (.int p4), .val (.int p5), .unset, .unset, .unset] [] := by first | (simp [entryFrame, mkF, argsToLocals, Value.category, maxLocals]; done) | rfl
abbrev Q0 : Option Value → Heap → Prop := fun v _ => v = some (.int 1)
theorem pd5 : parseMethodDescriptor "(Lcom/example/forefetch/forefetch/BatchWindow;[IIZ)Z" = some ⟨[(.object "com/example/forefetch/forefetch/BatchWindow"), (.array .int), .int, .boolean], some .boolean⟩ := by decide +kernel
set_option maxRecDepth 65536 in
set_option maxHeartbeats 40000000 in
theorem rm0 (l : Launch) (Z : State) (a0 : Array Value) (hw : ∀ d ∈ tables_1, d.before a0 Z = true) (ws : List Jvm.Cond) (p1 : Int32) (p2 : Int32) (p3 : Int32) (p4 : Int32) (p5 : Int32) (n0 : Nat) (h0 : Heap) (hn : n0 ≤ h0.size)   :
    Con l Z x code maxLocals ret ws room_1 #[(.int p1), (.int p2), (.int p3), (.int p4), (.int p5)] h0 n0 Q0 := by
  refine body (y := x) (Ls := #[.val (.int p1), .val (.int p2), .val (.int p3), .val (.int p4), .val (.int p5), .unset, .unset, .unset]) (plainFor_of_name pn1) hn (fun m => ef_rm0 m p1 p2 p3 p4 p5) ?_
  intro p e s m below meth c T0 hx hby hml hown hnm hret hlk hZ X0
  replace hown : s.vm.findClass "com/example/forefetch/forefetch/BatchWindowStalePinLaw" = some m.cls := hown
  replace hml : c.maxLocals = 8 := hml
  replace hret : meth.sig.returnType = (some .boolean) := hret
  refine nw (pc' := 3) X0 hx hZ hown (hw _ (List.mem_of_getElem? (i := 0) rfl)) (hw _ (List.mem_of_getElem? (i := 1) rfl)) (hw _ (List.mem_of_getElem? (i := 2) rfl)) (hb hby at_0) rfl (by decide) (by decide) fun T1 h1 b1 X1 g1 ge1 E1 A1 D1 => ?_
  have sz_b1 : h0.size ≤ b1 := Nat.le_trans ((Keep.refl h0 _) : Keep h0 h0 []).1 (Nat.le_of_eq g1.symm)
  have K1 : Keep h0 h1 [] := ((Keep.refl h0 _) : Keep h0 h0 []).ext E1
  refine i_dup (pc' := 4) X1 hx (hb hby at_3) rfl rfl ?_
  have F2 : Fld Z h1 b1 "com/example/forefetch/forefetch/BatchWindow" "rows" "I" (.int (0 : Int32)) := (D1 (Or.inl (hw _ (List.mem_of_getElem? (i := 10) rfl))) (ty := .int) (by decide))
  have F3 : Fld Z h1 b1 "com/example/forefetch/forefetch/BatchWindow" "staleAfterFirst" "Z" (.int (0 : Int32)) := (D1 (Or.inl (hw _ (List.mem_of_getElem? (i := 26) rfl))) (ty := .boolean) (by decide))
  refine cI (y := (⟨"com/example/forefetch/forefetch/BatchWindow", "<init>", "()V"⟩ : MethodName)) (rest := [(.ref b1)]) (pc' := 7) (a := b1) 1 [] X1 hx hZ hown rfl (hw _ (List.mem_of_getElem? (i := 3) rfl)) (hw _ (List.mem_of_getElem? (i := 4) rfl)) (hw _ (List.mem_of_getElem? (i := 2) rfl)) (hw _ (List.mem_of_getElem? (i := 5) rfl)) (by decide) (rm1 l Z a0 hw [] b1 n0 h1 X1.le A1 F2 F3 ge1) (by decide) (by decide) (by rw [hml]; rfl) rfl (lenOf pd4 rfl) rfl (Nat.le_of_eq rfl) (hb hby at_4) rfl (by decide) (by decide) ?_
  intro r4 T4 h4 X4 q4
  obtain ⟨rfl, K4c, P4_0, P4_1⟩ := q4
  show Go _ _ _ _ _ _ _ T4 (mkF m 7 #[.val (.int p1), .val (.int p2), .val (.int p3), .val (.int p4), .val (.int p5), .unset, .unset, .unset] [(.ref b1)])
  refine i_astore (L' := #[.val (.int p1), .val (.int p2), .val (.int p3), .val (.int p4), .val (.int p5), .val (.ref b1), .unset, .unset]) (pc' := 9) X4 hx (hb hby at_7) rfl rfl rfl ?_
  refine i_iconst (pc' := 10) (2 : Int32) X4 hx (hb hby at_9) rfl (by decide) ?_
  refine na (aty := .int) (pc' := 12) 2 X4 hx hZ (hw _ (List.mem_of_getElem? (i := 11) rfl)) (hb hby at_10) rfl (by decide) (by decide) (by decide) (by decide) (by decide) fun T5 h5 b5 X5 g5 ge5 E5 V5 => ?_
  have F6 : Exa Z h4 b1 "com/example/forefetch/forefetch/BatchWindow" := (A1.keep K4c)
  have ne_b1_b5 : b1 ≠ b5 := Nat.ne_of_lt (Nat.lt_of_lt_of_eq F6.lt g5.symm)
  have sz_b5 : h0.size ≤ b5 := Nat.le_trans (((K1 : Keep h0 h1 []).trans K4c (allS (Or.inr sz_b1) all0)) : Keep h0 h4 []).1 (Nat.le_of_eq g5.symm)
  have K5 : Keep h0 h5 [] := (((K1 : Keep h0 h1 []).trans K4c (allS (Or.inr sz_b1) all0)) : Keep h0 h4 []).ext E5
  have A5 : Av Z h5 b5 .int 2 (fun _ => .int 0) := V5
  refine i_dup (pc' := 13) X5 hx (hb hby at_12) rfl rfl ?_
  refine i_iconst (pc' := 14) (0 : Int32) X5 hx (hb hby at_13) rfl (by decide) ?_
  refine i_sipush (pc' := 17) (1000 : Int32) X5 hx (hb hby at_14) rfl (by decide) ?_
  refine saI (pc' := 18) X5 hx hZ A5 ge5 (by decide) (by decide) (hb hby at_17) rfl fun T7 h7 X7 W7 => ?_
  refine i_dup (pc' := 19) X7 hx (hb hby at_18) rfl rfl ?_
  refine i_iconst (pc' := 20) (1 : Int32) X7 hx (hb hby at_19) rfl (by decide) ?_
  refine i_iconst (pc' := 21) (0 : Int32) X7 hx (hb hby at_20) rfl (by decide) ?_
  have F8 : Av Z h7 b5 .int 2 (own_pair (1000 : Int32) 0) := (own_new0 A5 W7)
  refine saI (pc' := 22) X7 hx hZ F8 ge5 (by decide) (by decide) (hb hby at_21) rfl fun T9 h9 X9 W9 => ?_
  refine i_astore (L' := #[.val (.int p1), .val (.int p2), .val (.int p3), .val (.int p4), .val (.int p5), .val (.ref b1), .val (.ref b5), .unset]) (pc' := 24) X9 hx (hb hby at_22) rfl rfl rfl ?_
  refine i_aload (v := (.ref b1)) (pc' := 26) X9 hx (hb hby at_24) rfl rfl rfl ?_
  refine i_aload (v := (.ref b5)) (pc' := 28) X9 hx (hb hby at_26) rfl rfl rfl ?_
  refine i_iloadN (v := p1) (pc' := 29) X9 hx (hb hby at_28) rfl rfl ?_
  refine i_iload (v := p5) (pc' := 31) X9 hx (hb hby at_29) rfl rfl ?_
  refine i_iconst (pc' := 32) (1 : Int32) X9 hx (hb hby at_31) rfl (by decide) ?_
  refine i_iand (pc' := 33) X9 hx (hb hby at_32) rfl ?_
  obtain ⟨v10, hv10⟩ : ∃ zz : Int32, zz = (if (p5 &&& (1 : Int32)) = 0 then (0 : Int32) else (1 : Int32)) := ⟨_, rfl⟩
  have J11 : ∀ (T : State), Pn p l e room_1 s m #[(.int p1), (.int p2), (.int p3), (.int p4), (.int p5)] below meth c T h9 n0 (0 + 1 + 0 + 1) (0 + 2 + 0 + 2) → Go p e s below n0 Q0 room_1 T (mkF m 41 #[.val (.int p1), .val (.int p2), .val (.int p3), .val (.int p4), .val (.int p5), .val (.ref b1), .val (.ref b5), .unset] [(.int v10), (.int p1), (.ref b5), (.ref b1)]) := by
    intro T11 X11
    have F12 : Exa Z h9 b1 "com/example/forefetch/forefetch/BatchWindow" := (Jvm.RoadKit.Exa.wr W9 (Jvm.RoadKit.Exa.wr W7 (Jvm.RoadKit.Exa.ext E5 F6)))
    have F13 : Fld Z h9 b1 "com/example/forefetch/forefetch/BatchWindow" "rows" "I" (.int (1000 : Int32)) := (Jvm.RoadKit.Fld.other W9 (Jvm.RoadKit.Fld.other W7 (Jvm.RoadKit.Fld.ext E5 P4_0) (Or.inl ne_b1_b5)) (Or.inl ne_b1_b5))
    have F14 : Fld Z h9 b1 "com/example/forefetch/forefetch/BatchWindow" "staleAfterFirst" "Z" (.int (0 : Int32)) := (Jvm.RoadKit.Fld.other W9 (Jvm.RoadKit.Fld.other W7 (Jvm.RoadKit.Fld.ext E5 P4_1) (Or.inl ne_b1_b5)) (Or.inl ne_b1_b5))
    have F15 : Av Z h9 b5 .int 2 (own_pair (1000 : Int32) (0 : Int32)) := (own_set1 F8 W9)
    refine cS (y := (⟨"com/example/forefetch/forefetch/BatchWindowStalePinLaw", "step", "(Lcom/example/forefetch/forefetch/BatchWindow;[IIZ)Z"⟩ : MethodName)) (rest := []) (pc' := 44) 0 [(.ref b1), (.ref b5), (.int p1), (.int v10)] X11 hx hZ hown (hw _ (List.mem_of_getElem? (i := 12) rfl)) (hw _ (List.mem_of_getElem? (i := 13) rfl)) (hw _ (List.mem_of_getElem? (i := 14) rfl)) (hw _ (List.mem_of_getElem? (i := 15) rfl)) (by decide) (rmS l Z a0 hw [] b1 b5 p1 v10 (1000 : Int32) (0 : Int32) n0 h9 X11.le F12 F13 F14 F15 ge1 ge5 ne_b1_b5 ⟨by decide, by decide⟩) (by decide) (by decide) (by rw [hml]; rfl) rfl (lenOf pd5 rfl) rfl (Nat.le_of_eq rfl) (hb hby at_41) rfl (by decide) (by decide) ?_
    intro r16 T16 h16 X16 q16
    obtain ⟨r'16, b'16, rfl, K16c, P16_0, P16_1, P16_2, p16_0⟩ := q16
    show Go _ _ _ _ _ _ _ T16 (mkF m 44 #[.val (.int p1), .val (.int p2), .val (.int p3), .val (.int p4), .val (.int p5), .val (.ref b1), .val (.ref b5), .unset] [(.int (1 : Int32))])
    refine i_istore (L' := #[.val (.int p1), .val (.int p2), .val (.int p3), .val (.int p4), .val (.int p5), .val (.ref b1), .val (.ref b5), .val (.int (1 : Int32))]) (pc' := 46) X16 hx (hb hby at_44) rfl rfl ?_
    refine i_iload (v := (1 : Int32)) (pc' := 48) X16 hx (hb hby at_46) rfl rfl ?_
    refine i_ifF (pc' := 51) X16 hx (hb hby at_48) rfl (XT.i0_eq_f (by decide)) ?_
    refine i_aload (v := (.ref b1)) (pc' := 53) X16 hx (hb hby at_51) rfl rfl rfl ?_
    refine i_aload (v := (.ref b5)) (pc' := 55) X16 hx (hb hby at_53) rfl rfl rfl ?_
    refine i_iloadN (v := p2) (pc' := 56) X16 hx (hb hby at_55) rfl rfl ?_
    refine i_iload (v := p5) (pc' := 58) X16 hx (hb hby at_56) rfl rfl ?_
    refine i_iconst (pc' := 59) (2 : Int32) X16 hx (hb hby at_58) rfl (by decide) ?_
    refine i_iand (pc' := 60) X16 hx (hb hby at_59) rfl ?_
    obtain ⟨v17, hv17⟩ : ∃ zz : Int32, zz = (if (p5 &&& (2 : Int32)) = 0 then (0 : Int32) else (1 : Int32)) := ⟨_, rfl⟩
    have J18 : ∀ (T : State), Pn p l e room_1 s m #[(.int p1), (.int p2), (.int p3), (.int p4), (.int p5)] below meth c T h16 n0 (0 + 1 + 0 + 1 + 0) (0 + 2 + 0 + 2 + 0) → Go p e s below n0 Q0 room_1 T (mkF m 68 #[.val (.int p1), .val (.int p2), .val (.int p3), .val (.int p4), .val (.int p5), .val (.ref b1), .val (.ref b5), .val (.int (1 : Int32))] [(.int v17), (.int p2), (.ref b5), (.ref b1)]) := by
      intro T18 X18
      have F19 : Exa Z h16 b1 "com/example/forefetch/forefetch/BatchWindow" := (F12.keep K16c)
      refine cS (y := (⟨"com/example/forefetch/forefetch/BatchWindowStalePinLaw", "step", "(Lcom/example/forefetch/forefetch/BatchWindow;[IIZ)Z"⟩ : MethodName)) (rest := []) (pc' := 71) 0 [(.ref b1), (.ref b5), (.int p2), (.int v17)] X18 hx hZ hown (hw _ (List.mem_of_getElem? (i := 12) rfl)) (hw _ (List.mem_of_getElem? (i := 13) rfl)) (hw _ (List.mem_of_getElem? (i := 14) rfl)) (hw _ (List.mem_of_getElem? (i := 15) rfl)) (by decide) (rmS l Z a0 hw [] b1 b5 p2 v17 r'16 b'16 n0 h16 X18.le F19 P16_0 P16_1 P16_2 ge1 ge5 ne_b1_b5 p16_0) (by decide) (by decide) (by rw [hml]; rfl) rfl (lenOf pd5 rfl) rfl (Nat.le_of_eq rfl) (hb hby at_68) rfl (by decide) (by decide) ?_
      intro r20 T20 h20 X20 q20
      obtain ⟨r'20, b'20, rfl, K20c, P20_0, P20_1, P20_2, p20_0⟩ := q20
      show Go _ _ _ _ _ _ _ T20 (mkF m 71 #[.val (.int p1), .val (.int p2), .val (.int p3), .val (.int p4), .val (.int p5), .val (.ref b1), .val (.ref b5), .val (.int (1 : Int32))] [(.int (1 : Int32))])
      refine i_ifF (pc' := 74) X20 hx (hb hby at_71) rfl (XT.i0_eq_f (by decide)) ?_
      refine i_iconst (pc' := 75) (1 : Int32) X20 hx (hb hby at_74) rfl (by decide) ?_
      refine i_goto (pc' := 79) X20 hx (hb hby at_75) (by decide) (by decide) ?_
      refine i_istore (L' := #[.val (.int p1), .val (.int p2), .val (.int p3), .val (.int p4), .val (.int p5), .val (.ref b1), .val (.ref b5), .val (.int (1 : Int32))]) (pc' := 81) X20 hx (hb hby at_79) rfl rfl ?_
      refine i_iload (v := (1 : Int32)) (pc' := 83) X20 hx (hb hby at_81) rfl rfl ?_
      refine i_ifF (pc' := 86) X20 hx (hb hby at_83) rfl (XT.i0_eq_f (by decide)) ?_
      refine i_aload (v := (.ref b1)) (pc' := 88) X20 hx (hb hby at_86) rfl rfl rfl ?_
      refine i_aload (v := (.ref b5)) (pc' := 90) X20 hx (hb hby at_88) rfl rfl rfl ?_
      refine i_iloadN (v := p3) (pc' := 91) X20 hx (hb hby at_90) rfl rfl ?_
      refine i_iload (v := p5) (pc' := 93) X20 hx (hb hby at_91) rfl rfl ?_
      refine i_iconst (pc' := 94) (4 : Int32) X20 hx (hb hby at_93) rfl (by decide) ?_
      refine i_iand (pc' := 95) X20 hx (hb hby at_94) rfl ?_
      obtain ⟨v21, hv21⟩ : ∃ zz : Int32, zz = (if (p5 &&& (4 : Int32)) = 0 then (0 : Int32) else (1 : Int32)) := ⟨_, rfl⟩
      have J22 : ∀ (T : State), Pn p l e room_1 s m #[(.int p1), (.int p2), (.int p3), (.int p4), (.int p5)] below meth c T h20 n0 (0 + 1 + 0 + 1 + 0 + 0) (0 + 2 + 0 + 2 + 0 + 0) → Go p e s below n0 Q0 room_1 T (mkF m 103 #[.val (.int p1), .val (.int p2), .val (.int p3), .val (.int p4), .val (.int p5), .val (.ref b1), .val (.ref b5), .val (.int (1 : Int32))] [(.int v21), (.int p3), (.ref b5), (.ref b1)]) := by
        intro T22 X22
        have F23 : Exa Z h20 b1 "com/example/forefetch/forefetch/BatchWindow" := (F19.keep K20c)
        refine cS (y := (⟨"com/example/forefetch/forefetch/BatchWindowStalePinLaw", "step", "(Lcom/example/forefetch/forefetch/BatchWindow;[IIZ)Z"⟩ : MethodName)) (rest := []) (pc' := 106) 0 [(.ref b1), (.ref b5), (.int p3), (.int v21)] X22 hx hZ hown (hw _ (List.mem_of_getElem? (i := 12) rfl)) (hw _ (List.mem_of_getElem? (i := 13) rfl)) (hw _ (List.mem_of_getElem? (i := 14) rfl)) (hw _ (List.mem_of_getElem? (i := 15) rfl)) (by decide) (rmS l Z a0 hw [] b1 b5 p3 v21 r'20 b'20 n0 h20 X22.le F23 P20_0 P20_1 P20_2 ge1 ge5 ne_b1_b5 p20_0) (by decide) (by decide) (by rw [hml]; rfl) rfl (lenOf pd5 rfl) rfl (Nat.le_of_eq rfl) (hb hby at_103) rfl (by decide) (by decide) ?_
        intro r24 T24 h24 X24 q24
        obtain ⟨r'24, b'24, rfl, K24c, P24_0, P24_1, P24_2, p24_0⟩ := q24
        show Go _ _ _ _ _ _ _ T24 (mkF m 106 #[.val (.int p1), .val (.int p2), .val (.int p3), .val (.int p4), .val (.int p5), .val (.ref b1), .val (.ref b5), .val (.int (1 : Int32))] [(.int (1 : Int32))])
        refine i_ifF (pc' := 109) X24 hx (hb hby at_106) rfl (XT.i0_eq_f (by decide)) ?_
        refine i_iconst (pc' := 110) (1 : Int32) X24 hx (hb hby at_109) rfl (by decide) ?_
        refine i_goto (pc' := 114) X24 hx (hb hby at_110) (by decide) (by decide) ?_
        refine i_istore (L' := #[.val (.int p1), .val (.int p2), .val (.int p3), .val (.int p4), .val (.int p5), .val (.ref b1), .val (.ref b5), .val (.int (1 : Int32))]) (pc' := 116) X24 hx (hb hby at_114) rfl rfl ?_
        refine i_iload (v := (1 : Int32)) (pc' := 118) X24 hx (hb hby at_116) rfl rfl ?_
        refine i_ifF (pc' := 121) X24 hx (hb hby at_118) rfl (XT.i0_eq_f (by decide)) ?_
        refine i_aload (v := (.ref b1)) (pc' := 123) X24 hx (hb hby at_121) rfl rfl rfl ?_
        refine i_aload (v := (.ref b5)) (pc' := 125) X24 hx (hb hby at_123) rfl rfl rfl ?_
        refine i_iloadN (v := p4) (pc' := 126) X24 hx (hb hby at_125) rfl rfl ?_
        refine i_iload (v := p5) (pc' := 128) X24 hx (hb hby at_126) rfl rfl ?_
        refine i_bipush (pc' := 130) (8 : Int32) X24 hx (hb hby at_128) rfl (by decide) ?_
        refine i_iand (pc' := 131) X24 hx (hb hby at_130) rfl ?_
        obtain ⟨v25, hv25⟩ : ∃ zz : Int32, zz = (if (p5 &&& (8 : Int32)) = 0 then (0 : Int32) else (1 : Int32)) := ⟨_, rfl⟩
        have J26 : ∀ (T : State), Pn p l e room_1 s m #[(.int p1), (.int p2), (.int p3), (.int p4), (.int p5)] below meth c T h24 n0 (0 + 1 + 0 + 1 + 0 + 0 + 0) (0 + 2 + 0 + 2 + 0 + 0 + 0) → Go p e s below n0 Q0 room_1 T (mkF m 139 #[.val (.int p1), .val (.int p2), .val (.int p3), .val (.int p4), .val (.int p5), .val (.ref b1), .val (.ref b5), .val (.int (1 : Int32))] [(.int v25), (.int p4), (.ref b5), (.ref b1)]) := by
          intro T26 X26
          have F27 : Exa Z h24 b1 "com/example/forefetch/forefetch/BatchWindow" := (F23.keep K24c)
          refine cS (y := (⟨"com/example/forefetch/forefetch/BatchWindowStalePinLaw", "step", "(Lcom/example/forefetch/forefetch/BatchWindow;[IIZ)Z"⟩ : MethodName)) (rest := []) (pc' := 142) 0 [(.ref b1), (.ref b5), (.int p4), (.int v25)] X26 hx hZ hown (hw _ (List.mem_of_getElem? (i := 12) rfl)) (hw _ (List.mem_of_getElem? (i := 13) rfl)) (hw _ (List.mem_of_getElem? (i := 14) rfl)) (hw _ (List.mem_of_getElem? (i := 15) rfl)) (by decide) (rmS l Z a0 hw [] b1 b5 p4 v25 r'24 b'24 n0 h24 X26.le F27 P24_0 P24_1 P24_2 ge1 ge5 ne_b1_b5 p24_0) (by decide) (by decide) (by rw [hml]; rfl) rfl (lenOf pd5 rfl) rfl (Nat.le_of_eq rfl) (hb hby at_139) rfl (by decide) (by decide) ?_
          intro r28 T28 h28 X28 q28
          obtain ⟨r'28, b'28, rfl, K28c, P28_0, P28_1, P28_2, p28_0⟩ := q28
          show Go _ _ _ _ _ _ _ T28 (mkF m 142 #[.val (.int p1), .val (.int p2), .val (.int p3), .val (.int p4), .val (.int p5), .val (.ref b1), .val (.ref b5), .val (.int (1 : Int32))] [(.int (1 : Int32))])
          refine i_ifF (pc' := 145) X28 hx (hb hby at_142) rfl (XT.i0_eq_f (by decide)) ?_
          refine i_iconst (pc' := 146) (1 : Int32) X28 hx (hb hby at_145) rfl (by decide) ?_
          refine i_goto (pc' := 150) X28 hx (hb hby at_146) (by decide) (by decide) ?_
          refine i_istore (L' := #[.val (.int p1), .val (.int p2), .val (.int p3), .val (.int p4), .val (.int p5), .val (.ref b1), .val (.ref b5), .val (.int (1 : Int32))]) (pc' := 152) X28 hx (hb hby at_150) rfl rfl ?_
          refine i_iload (v := (1 : Int32)) (pc' := 154) X28 hx (hb hby at_152) rfl rfl ?_
          refine rN X28 hx hlk hret (by simp) (hb hby at_154) (by decide) (by decide) ?_
          exact rfl
        by_cases hc29 : (p5 &&& (8 : Int32)) = 0
        · skip
          refine i_ifT (pc' := 138) X24 hx (hb hby at_131) (XT.i0_eq_t hc29) (by decide) (by decide) ?_
          refine i_iconst (pc' := 139) (0 : Int32) X24 hx (hb hby at_138) rfl (by decide) ?_
          have ev25 := hv25
          simp only [if_pos hc29] at ev25
          rw [ev25] at J26
          exact J26 _ (X24.mono (by decide) (by decide))
        · skip
          refine i_ifF (pc' := 134) X24 hx (hb hby at_131) rfl (XT.i0_eq_f hc29) ?_
          refine i_iconst (pc' := 135) (1 : Int32) X24 hx (hb hby at_134) rfl (by decide) ?_
          refine i_goto (pc' := 139) X24 hx (hb hby at_135) (by decide) (by decide) ?_
          have ev25 := hv25
          simp only [if_neg hc29] at ev25
          rw [ev25] at J26
          exact J26 _ (X24.mono (by decide) (by decide))
      by_cases hc30 : (p5 &&& (4 : Int32)) = 0
      · skip
        refine i_ifT (pc' := 102) X20 hx (hb hby at_95) (XT.i0_eq_t hc30) (by decide) (by decide) ?_
        refine i_iconst (pc' := 103) (0 : Int32) X20 hx (hb hby at_102) rfl (by decide) ?_
        have ev21 := hv21
        simp only [if_pos hc30] at ev21
        rw [ev21] at J22
        exact J22 _ (X20.mono (by decide) (by decide))
      · skip
        refine i_ifF (pc' := 98) X20 hx (hb hby at_95) rfl (XT.i0_eq_f hc30) ?_
        refine i_iconst (pc' := 99) (1 : Int32) X20 hx (hb hby at_98) rfl (by decide) ?_
        refine i_goto (pc' := 103) X20 hx (hb hby at_99) (by decide) (by decide) ?_
        have ev21 := hv21
        simp only [if_neg hc30] at ev21
        rw [ev21] at J22
        exact J22 _ (X20.mono (by decide) (by decide))
    by_cases hc31 : (p5 &&& (2 : Int32)) = 0
    · skip
      refine i_ifT (pc' := 67) X16 hx (hb hby at_60) (XT.i0_eq_t hc31) (by decide) (by decide) ?_
      refine i_iconst (pc' := 68) (0 : Int32) X16 hx (hb hby at_67) rfl (by decide) ?_
      have ev17 := hv17
      simp only [if_pos hc31] at ev17
      rw [ev17] at J18
      exact J18 _ (X16.mono (by decide) (by decide))
    · skip
      refine i_ifF (pc' := 63) X16 hx (hb hby at_60) rfl (XT.i0_eq_f hc31) ?_
      refine i_iconst (pc' := 64) (1 : Int32) X16 hx (hb hby at_63) rfl (by decide) ?_
      refine i_goto (pc' := 68) X16 hx (hb hby at_64) (by decide) (by decide) ?_
      have ev17 := hv17
      simp only [if_neg hc31] at ev17
      rw [ev17] at J18
      exact J18 _ (X16.mono (by decide) (by decide))
  by_cases hc32 : (p5 &&& (1 : Int32)) = 0
  · skip
    refine i_ifT (pc' := 40) X9 hx (hb hby at_33) (XT.i0_eq_t hc32) (by decide) (by decide) ?_
    refine i_iconst (pc' := 41) (0 : Int32) X9 hx (hb hby at_40) rfl (by decide) ?_
    have ev10 := hv10
    simp only [if_pos hc32] at ev10
    rw [ev10] at J11
    exact J11 _ (X9.mono (by decide) (by decide))
  · skip
    refine i_ifF (pc' := 36) X9 hx (hb hby at_33) rfl (XT.i0_eq_f hc32) ?_
    refine i_iconst (pc' := 37) (1 : Int32) X9 hx (hb hby at_36) rfl (by decide) ?_
    refine i_goto (pc' := 41) X9 hx (hb hby at_37) (by decide) (by decide) ?_
    have ev10 := hv10
    simp only [if_neg hc32] at ev10
    rw [ev10] at J11
    exact J11 _ (X9.mono (by decide) (by decide))
set_option maxRecDepth 65536 in
set_option maxHeartbeats 40000000 in
theorem comes_1 {Post : Tables → Env → Array Value → State → Outcome → State → Prop} (hpost : ∀ tb e args s v u, (limb_1_1.after args s (.returned v) u = true ∧ limb_1_2.after args s (.returned v) u = true ∧ True) → FrameEnd s (.returned v) u (Jvm.fieldLocs frame_1_writes args s ++ Jvm.arrayLocs frame_1_arrays args s ++ Jvm.staticLocs frame_1_statics s) 16 128 → Post tb e args s (.returned v) u) :
    ArmFor flags0 classFile x code maxLocals ret World_1 tables_1 room_1 Calls_1 rest_1 Pre_1 Post := by
  intro l hfl _ _ p e ha hc hk s m args below hf hA hF happ hP
  obtain ⟨hcalls, hrest, hpre⟩ := hP
  obtain ⟨-, -, -, hnamed, -, -, -, hat⟩ := (Spec.applies_iff hf).mp happ
  obtain ⟨hg, hn⟩ := and_e (Cond.before_iff.mp (show (Jvm.Cond.and given_1 narrow_1).before args s = true from hpre))
  obtain ⟨g0, k0⟩ := and_e hg
  obtain ⟨g1, k1⟩ := and_e k0
  obtain ⟨g2, k2⟩ := and_e k1
  obtain ⟨g3, k3⟩ := and_e k2
  obtain ⟨g4, k4⟩ := and_e k3
  obtain ⟨w0, w1, w2, w3, w4, rfl⟩ : ∃ w0 w1 w2 w3 w4 : Value, args = #[w0, w1, w2, w3, w4] := by
    have hs : args.size = 5 := by simpa [Cond.value, given_1] using g0
    obtain ⟨L⟩ := args
    match L, hs with
    | [w0, w1, w2, w3, w4], _ => exact ⟨w0, w1, w2, w3, w4, rfl⟩
  have hw := fun d (hd : d ∈ tables_1) => atoms_spec (ws := Jvm.Cond.code x code maxLocals ret :: tables_1) hat d (List.mem_cons_of_mem _ hd)
  have hfit : Fit s := fun {y c} hc i hi => by
    obtain ⟨ha, rfl⟩ := Array.getElem?_eq_some_iff.mp hc
    have q := List.all_eq_true.mp ((Array.all_eq_true_iff_forall_mem.mp hF) _ (Array.getElem_mem ha)) i (List.mem_range.mpr hi)
    simpa [Array.getElem?_eq_getElem hi] using q
  obtain ⟨i0, ei0⟩ := is_v g1
  obtain rfl : w0 = (.int i0) := Option.some.inj ei0
  obtain ⟨i1, ei1⟩ := is_v g2
  obtain rfl : w1 = (.int i1) := Option.some.inj ei1
  obtain ⟨i2, ei2⟩ := is_v g3
  obtain rfl : w2 = (.int i2) := Option.some.inj ei2
  obtain ⟨i3, ei3⟩ := is_v g4
  obtain rfl : w3 = (.int i3) := Option.some.inj ei3
  obtain ⟨i4, ei4⟩ := is_v k4
  obtain rfl : w4 = (.int i4) := Option.some.inj ei4
  obtain ⟨n, o, h1, h2, h3, _, L, rfl, ⟨rfl, N⟩, hq⟩ := rm0 l s _ hw tables_1 i0 i1 i2 i3 i4 s.heap.size s.heap (Nat.le_refl _)  p e ha hc hk s m _ below hf ((Spec.applies_iff_loose hf).mp happ).1 ⟨rfl, State.Warmed39.refl s, rfl⟩ trivial
  refine ⟨n, _, h1, h2, h3, hpost _ _ _ _ _ _ ⟨Cond.after_iff.mpr rfl, Cond.after_iff.mpr (eq_i res_at (Term.int_eval (1)) rfl), trivial⟩ ⟨hq.1, hq.2.1, (hq.2.2.sift fun y hy => Or.inr (N y hy)).mono (by decide) (by decide)⟩⟩
theorem main_1_1 : Claimed_1_1 := comes_1 fun _ _ _ _ _ _ h hF => ⟨h.1, hF⟩
theorem main_1_2 : Claimed_1_2 := comes_1 fun _ _ _ _ _ _ h hF => ⟨h.2.1, hF⟩
end Jvm.Pilot.@@N@@
namespace Jvm.Pilot.@@N@@
open Jvm Jvm.ClassFile Sem Op Lib Jvm.Free Jvm.Stand Jvm.Pilot.@@N@@.Jvm.D
/-! MADE BY PROGRAM (witnessworld.py) out of the Statement's table words and the real class files: 10 classes; the members and pool entries that the words name. The judged class is class 1, her method 1. -/
namespace start1
open Jvm.ClassFile
def u (s : String) : CpInfo := .utf8 (stringToUtf16 s)
/-- a pool by its gaps: so many unusable entries, then the entry; so many at the end -/
def gap : Nat → List CpInfo → List CpInfo
  | 0, r => r
  | n + 1, r => .unusable :: gap n r
def poolList (es : List (Nat × CpInfo)) (last : Nat) : List CpInfo := es.foldr (fun e r => gap e.1 (e.2 :: r)) (gap last [])
def pool (es : List (Nat × CpInfo)) (last : Nat) : Array CpInfo := ⟨poolList es last⟩
def fileOf (pool : Array CpInfo) (this : Nat) (attrs : Array Attribute := #[]) (ms : Array MethodInfo := #[]) (fl : Nat := 33) (sup : Nat := 0) (ifs : Array Nat := #[]) (fds : Array FieldInfo := #[]) : ClassFile where
  minorVersion := 0
  majorVersion := 65
  constantPool := pool
  accessFlags := fl
  thisClass := this
  superClass := sup
  interfaces := ifs
  fields := fds
  methods := ms
  attributes := attrs
def plain (name : String) (sup : Option ClassId) : Class where
  name := name
  kind := .ordinary
  loader := none
  accessFlags := 33
  super := sup
  interfaces := #[]
  cf := none
  fields := #[]
  methods := #[]
  instanceTypes := #[]
  staticTypes := #[]
  resolved := #[]
  callSites := []
  init := .initialized
  statics := none
  mirror := none

def pool0 : Array CpInfo := pool [(5, u "<init>"), (0, u "()V"), (1, .class_ 10), (1, u "java/lang/Object")] 113

def k0c0 : Code := { maxStack := 0, maxLocals := 1, code := object_method_1_code, exceptionTable := #[], attributes := #[] }
def k0m0 : Method := { name := "<init>", desc := "()V", sig := { parameters := [], returnType := none }, accessFlags := 1, code := some k0c0 }
/-- java/lang/Object -/
def k0 : Class := { plain "java/lang/Object" none with
  accessFlags := 33
  interfaces := #[]
  cf := some (fileOf pool0 8 #[] #[{ accessFlags := 1, nameIndex := 5, descriptorIndex := 6, attributes := #[] }] 33 0 #[] #[])
  fields := #[]
  methods := #[k0m0]
  instanceTypes := #[]
  staticTypes := #[]
  resolved := Array.replicate 124 none
  statics := none }

def pool1 : Array CpInfo := pool [(2, .class_ 4), (0, .nameAndType 5 6), (0, u "java/lang/Object"), (0, u "<init>"), (0, u "()V"), (0, .class_ 8), (0, u "com/example/forefetch/forefetch/BatchWindow"), (0, .methodref 7 3), (2, .methodref 13 14), (0, .class_ 15), (0, .nameAndType 16 17), (0, u "com/example/forefetch/forefetch/BatchWindowStalePinLaw"), (0, u "step"), (0, u "(Lcom/example/forefetch/forefetch/BatchWindow;[IIZ)Z"), (0, .integer 536870911), (0, .methodref 7 20), (0, .nameAndType 21 6), (0, u "passed"), (0, .methodref 7 23), (0, .nameAndType 24 25), (0, u "rows"), (0, u "()I"), (0, .methodref 13 27), (0, .nameAndType 28 29), (0, u "answered"), (0, u "(I)I"), (0, .methodref 7 31), (0, .nameAndType 32 33), (0, u "stale"), (0, u "(I)Z"), (2, u "law"), (0, u "(IIIII)Z")] 5

def k1m0 : Method := { name := "<init>", desc := "()V", sig := { parameters := [], returnType := none }, accessFlags := 1, code := none }
def k1c1 : Code := { maxStack := 5, maxLocals := 8, code := code, exceptionTable := #[], attributes := #[] }
def k1m1 : Method := { name := "law", desc := "(IIIII)Z", sig := { parameters := [.int, .int, .int, .int, .int], returnType := some .boolean }, accessFlags := 9, code := some k1c1 }
def k1c2 : Code := { maxStack := 3, maxLocals := 1, code := method_3_code, exceptionTable := #[], attributes := #[] }
def k1m2 : Method := { name := "answered", desc := "(I)I", sig := { parameters := [.int], returnType := some .int }, accessFlags := 10, code := some k1c2 }
def k1c3 : Code := { maxStack := 5, maxLocals := 9, code := method_4_code, exceptionTable := #[], attributes := #[] }
def k1m3 : Method := { name := "step", desc := "(Lcom/example/forefetch/forefetch/BatchWindow;[IIZ)Z", sig := { parameters := [(.object "com/example/forefetch/forefetch/BatchWindow"), (.array .int), .int, .boolean], returnType := some .boolean }, accessFlags := 10, code := some k1c3 }
/-- com/example/forefetch/forefetch/BatchWindowStalePinLaw -/
def k1 : Class := { plain "com/example/forefetch/forefetch/BatchWindowStalePinLaw" (some 0) with
  accessFlags := 49
  interfaces := #[]
  cf := some (fileOf pool1 13 #[] #[{ accessFlags := 1, nameIndex := 5, descriptorIndex := 6, attributes := #[] }, { accessFlags := 9, nameIndex := 36, descriptorIndex := 37, attributes := #[] }, { accessFlags := 10, nameIndex := 28, descriptorIndex := 29, attributes := #[] }, { accessFlags := 10, nameIndex := 16, descriptorIndex := 17, attributes := #[] }] 49 2 #[] #[])
  fields := #[]
  methods := #[k1m0, k1m1, k1m2, k1m3]
  instanceTypes := #[]
  staticTypes := #[]
  resolved := Array.replicate 43 none
  statics := none }

def pool2 : Array CpInfo := pool [(1, .methodref 2 3), (0, .class_ 4), (0, .nameAndType 5 6), (0, u "java/lang/Object"), (0, u "<init>"), (0, u "()V"), (2, .fieldref 10 11), (0, .class_ 12), (0, .nameAndType 13 14), (0, u "com/example/forefetch/forefetch/BatchWindow"), (0, u "rows"), (0, u "I"), (0, .fieldref 10 16), (0, .nameAndType 17 18), (0, u "staleAfterFirst"), (0, u "Z"), (0, .methodref 20 21), (0, .class_ 22), (0, .nameAndType 23 24), (0, u "java/lang/Math"), (0, u "max"), (0, u "(II)I"), (0, .methodref 20 26), (0, .nameAndType 27 24), (0, u "min"), (2, u "()I"), (0, u "stale"), (0, u "(I)Z"), (1, u "passed")] 2

def k2c0 : Code := { maxStack := 2, maxLocals := 1, code := prog_5_method_1_code, exceptionTable := #[], attributes := #[] }
def k2m0 : Method := { name := "<init>", desc := "()V", sig := { parameters := [], returnType := none }, accessFlags := 0, code := some k2c0 }
def k2c1 : Code := { maxStack := 1, maxLocals := 1, code := prog_5_method_2_code, exceptionTable := #[], attributes := #[] }
def k2m1 : Method := { name := "rows", desc := "()I", sig := { parameters := [], returnType := some .int }, accessFlags := 0, code := some k2c1 }
def k2c2 : Code := { maxStack := 5, maxLocals := 3, code := prog_5_method_3_code, exceptionTable := #[], attributes := #[] }
def k2m2 : Method := { name := "stale", desc := "(I)Z", sig := { parameters := [.int], returnType := some .boolean }, accessFlags := 0, code := some k2c2 }
def k2c3 : Code := { maxStack := 4, maxLocals := 1, code := prog_5_method_4_code, exceptionTable := #[], attributes := #[] }
def k2m3 : Method := { name := "passed", desc := "()V", sig := { parameters := [], returnType := none }, accessFlags := 0, code := some k2c3 }
/-- com/example/forefetch/forefetch/BatchWindow -/
def k2 : Class := { plain "com/example/forefetch/forefetch/BatchWindow" (some 0) with
  accessFlags := 32
  interfaces := #[]
  cf := some (fileOf pool2 10 #[] #[{ accessFlags := 0, nameIndex := 5, descriptorIndex := 6, attributes := #[] }, { accessFlags := 0, nameIndex := 13, descriptorIndex := 30, attributes := #[] }, { accessFlags := 0, nameIndex := 31, descriptorIndex := 32, attributes := #[] }, { accessFlags := 0, nameIndex := 34, descriptorIndex := 6, attributes := #[] }] 32 2 #[] #[{ accessFlags := 2, nameIndex := 13, descriptorIndex := 14, attributes := #[] }, { accessFlags := 2, nameIndex := 17, descriptorIndex := 18, attributes := #[] }])
  fields := #[{ name := "rows", type := .int, accessFlags := 2, slot := 0, constantValue := 0 }, { name := "staleAfterFirst", type := .boolean, accessFlags := 2, slot := 1, constantValue := 0 }]
  methods := #[k2m0, k2m1, k2m2, k2m3]
  instanceTypes := #[.int, .boolean]
  staticTypes := #[]
  resolved := Array.replicate 37 none
  statics := none }

def pool3 : Array CpInfo := pool [(1, .class_ 2), (0, u "java/lang/Math"), (1, .class_ 6), (1, u "java/lang/Object"), (0, u "<init>"), (0, u "()V"), (89, .class_ 100), (1, u "java/lang/Math$RandomNumberGeneratorHolder"), (71, u "negativeZeroFloatBits"), (0, u "J"), (2, u "negativeZeroDoubleBits"), (21, u "max"), (2, u "min"), (43, u "$assertionsDisabled"), (0, u "Z"), (88, u "(II)I"), (2, u "twoToTheDoubleScaleDown"), (0, u "D"), (4, u "twoToTheDoubleScaleUp"), (9, u "E"), (3, u "PI"), (2, u "TAU"), (2, u "DEGREES_TO_RADIANS"), (0, u "RADIANS_TO_DEGREES")] 94

def k3m0 : Method := { name := "<init>", desc := "()V", sig := { parameters := [], returnType := none }, accessFlags := 2, code := none }
def k3c1 : Code := { maxStack := 2, maxLocals := 2, code := jdk_29_method_65_code, exceptionTable := #[], attributes := #[] }
def k3m1 : Method := { name := "max", desc := "(II)I", sig := { parameters := [.int, .int], returnType := some .int }, accessFlags := 9, code := some k3c1 }
def k3c2 : Code := { maxStack := 2, maxLocals := 2, code := jdk_29_method_69_code, exceptionTable := #[], attributes := #[] }
def k3m2 : Method := { name := "min", desc := "(II)I", sig := { parameters := [.int, .int], returnType := some .int }, accessFlags := 9, code := some k3c2 }
/-- java/lang/Math -/
def k3 : Class := { plain "java/lang/Math" (some 0) with
  accessFlags := 49
  interfaces := #[]
  cf := some (fileOf pool3 1 #[.nestMembers #[98]] #[{ accessFlags := 2, nameIndex := 7, descriptorIndex := 8, attributes := #[] }, { accessFlags := 9, nameIndex := 198, descriptorIndex := 335, attributes := #[] }, { accessFlags := 9, nameIndex := 201, descriptorIndex := 335, attributes := #[] }] 49 4 #[] #[{ accessFlags := 25, nameIndex := 354, descriptorIndex := 339, attributes := #[] }, { accessFlags := 25, nameIndex := 358, descriptorIndex := 339, attributes := #[] }, { accessFlags := 25, nameIndex := 361, descriptorIndex := 339, attributes := #[] }, { accessFlags := 26, nameIndex := 364, descriptorIndex := 339, attributes := #[] }, { accessFlags := 26, nameIndex := 365, descriptorIndex := 339, attributes := #[] }, { accessFlags := 26, nameIndex := 172, descriptorIndex := 173, attributes := #[] }, { accessFlags := 26, nameIndex := 176, descriptorIndex := 173, attributes := #[] }, { accessFlags := 8, nameIndex := 344, descriptorIndex := 339, attributes := #[] }, { accessFlags := 8, nameIndex := 338, descriptorIndex := 339, attributes := #[] }, { accessFlags := 4120, nameIndex := 245, descriptorIndex := 246, attributes := #[] }])
  fields := #[{ name := "E", type := .double, accessFlags := 25, slot := 0, constantValue := 0 }, { name := "PI", type := .double, accessFlags := 25, slot := 1, constantValue := 0 }, { name := "TAU", type := .double, accessFlags := 25, slot := 2, constantValue := 0 }, { name := "DEGREES_TO_RADIANS", type := .double, accessFlags := 26, slot := 3, constantValue := 0 }, { name := "RADIANS_TO_DEGREES", type := .double, accessFlags := 26, slot := 4, constantValue := 0 }, { name := "negativeZeroFloatBits", type := .long, accessFlags := 26, slot := 5, constantValue := 0 }, { name := "negativeZeroDoubleBits", type := .long, accessFlags := 26, slot := 6, constantValue := 0 }, { name := "twoToTheDoubleScaleUp", type := .double, accessFlags := 8, slot := 7, constantValue := 0 }, { name := "twoToTheDoubleScaleDown", type := .double, accessFlags := 8, slot := 8, constantValue := 0 }, { name := "$assertionsDisabled", type := .boolean, accessFlags := 4120, slot := 9, constantValue := 0 }]
  methods := #[k3m0, k3m1, k3m2]
  instanceTypes := #[]
  staticTypes := #[.double, .double, .double, .double, .double, .long, .long, .double, .double, .boolean]
  resolved := Array.replicate 460 none
  statics := none }

def pool4 : Array CpInfo := pool [(1, u "java/lang/Cloneable"), (0, .class_ 1), (0, u "java/lang/Object"), (0, .class_ 3)] 3

/-- java/lang/Cloneable -/
def k4 : Class := { plain "java/lang/Cloneable" (some 0) with
  accessFlags := 1537
  interfaces := #[]
  cf := some (fileOf pool4 2 #[] #[] 1537 4 #[] #[])
  fields := #[]
  methods := #[]
  instanceTypes := #[]
  staticTypes := #[]
  resolved := Array.replicate 8 none
  statics := none }

def pool5 : Array CpInfo := pool [(1, u "java/io/Serializable"), (0, .class_ 1), (0, u "java/lang/Object"), (0, .class_ 3)] 3

/-- java/io/Serializable -/
def k5 : Class := { plain "java/io/Serializable" (some 0) with
  accessFlags := 1537
  interfaces := #[]
  cf := some (fileOf pool5 2 #[] #[] 1537 4 #[] #[])
  fields := #[]
  methods := #[]
  instanceTypes := #[]
  staticTypes := #[]
  resolved := Array.replicate 8 none
  statics := none }

/-- the primitive byte -/
def k6 : Class := { plain "byte" none with kind := .primitive 'B', accessFlags := 0x411 }
/-- [B -/
def k7 : Class := { plain "[B" (some 0) with kind := .array 6 .byte, interfaces := #[4, 5], accessFlags := 1041 }

/-- the primitive int -/
def k8 : Class := { plain "int" none with kind := .primitive 'I', accessFlags := 0x411 }
/-- [I -/
def k9 : Class := { plain "[I" (some 0) with kind := .array 8 .int, interfaces := #[4, 5], accessFlags := 1041 }

def heap : Heap := #[]
def classes : Array Class := #[k0, k1, k2, k3, k4, k5, k6, k7, k8, k9]
def interned : List (Array UInt16 × Addr) := []
def slotsUsed : Nat := 0
def theMethod : MethodId := ⟨1, 1⟩
def args0 : Array Value := #[.int 3, .int 0, .int (-5), .int 77, .int 5]
def aboutOver (below : List Frame) : State where
  vm := { classes := classes, interned := interned.toArray }
  heap := heap
  slotsUsed := slotsUsed
  threads := #[{ frames := .invoking theMethod args0 :: below }]
def below0 : List Frame := [.native { method := ⟨0, 0⟩, args := #[] }]
def about1 : State := aboutOver below0
def p0 : Program := .bare "" "" ""
def e0 : Env := launch0.env 0 0 0
theorem w_frames : about1.frames = Frame.invoking theMethod args0 :: below0 := rfl
set_option maxRecDepth 65536 in
theorem w_args : argsFit about1.vm theMethod args0 = true := by decide +kernel
set_option maxRecDepth 65536 in
theorem w_heap : heapFits about1 = true := by decide +kernel
set_option maxRecDepth 65536 in
theorem w_runnable : about1.curStatus? = some .runnable := by decide +kernel
set_option maxRecDepth 65536 in
theorem w_alone : about1.alone = true := by decide +kernel
set_option maxRecDepth 65536 in
theorem w_named : about1.methodNamed? x = some theMethod := by decide +kernel
set_option maxRecDepth 65536 in
theorem w_hears : about1.hears theMethod below0 = true := by decide +kernel
set_option maxRecDepth 65536 in
theorem w_ripe : about1.ripe theMethod args0 below0 = true := by decide +kernel
theorem w_running : about1.status = .running := rfl
set_option maxRecDepth 65536 in
theorem w_room : about1.hasRoom e0.platform room_1 = true :=
  launch0.hasRoom_least _ room_1 (by decide +kernel) (by decide +kernel) (by decide +kernel) (by decide +kernel) (by decide +kernel) (by decide +kernel)
theorem allAtoms_all (ts : List Jvm.Cond) (a : Array Jvm.Value) (st : Jvm.State) : (allAtoms ts).before a st = ts.all (fun c => c.before a st) := by
  induction ts with
  | nil => rfl
  | cons c t ih =>
    show (Jvm.Cond.and c (allAtoms t)).before a st = _
    rw [Jvm.Cond.before_and, ih, List.all_cons]
def words1 : List Jvm.Cond := Jvm.Cond.code x code maxLocals ret :: tables_1
/-- a 'code' word, met by the world's own term for the bytes: nothing is compared byte by byte -/
theorem code_word {y : MethodName} {bytes : ByteArray} {mx : Nat} {rt : Option FieldType} {a : Array Value} {s : State} {m : MethodId} {meth : Method} {c : Code} (h1 : s.methodNamed? y = some m) (h2 : s.vm.method? m = some meth) (h3 : meth.code = some c) (h4 : c.code = bytes)
    (h5 : (c.maxLocals == mx && c.exceptionTable.isEmpty && decide (c.maxStack ≤ mostOperands) && decide (meth.sig.returnType = rt) && !meth.locks && decide (parseMethodDescriptor y.desc = some meth.sig)) = true) : (Jvm.Cond.code y bytes mx rt).before a s = true := by
  simp only [Bool.and_eq_true, beq_iff_eq, Bool.not_eq_true', decide_eq_true_eq] at h5
  obtain ⟨⟨⟨⟨⟨g1, g2⟩, g3⟩, g4⟩, g5⟩, g6⟩ := h5
  simp [Cond.before, Cond.holds, Cond.value, h1, h2, h3, h4, g1, g2, g3, g4, g5, g6]
def isCode : Jvm.Cond → Bool
  | .code _ _ _ _ => true
  | _ => false
theorem all_split {L : List Jvm.Cond} {P : Jvm.Cond → Bool} (h1 : L.all (fun c => isCode c || P c) = true) (h2 : ∀ c ∈ L.filter isCode, P c = true) : L.all P = true := by
  refine List.all_eq_true.mpr fun c hc => ?_
  have h := List.all_eq_true.mp h1 c hc
  rcases Bool.eq_false_or_eq_true (isCode c) with hi | hi
  · exact h2 c (List.mem_filter.mpr ⟨hc, hi⟩)
  · simpa [hi] using h
set_option maxRecDepth 65536 in
theorem w_c0 : (Jvm.Cond.code x code maxLocals ret).before args0 about1 = true := code_word (m := ⟨1, 1⟩) (meth := k1m1) (c := k1c1) (by decide +kernel) rfl rfl rfl (by decide +kernel)
set_option maxRecDepth 65536 in
theorem w_c1 : (Jvm.Cond.code ({ cls := "com/example/forefetch/forefetch/BatchWindow", name := "<init>", desc := "()V" } : Jvm.MethodName) prog_5_method_1_code (1 : Nat) (Option.none : Option Jvm.ClassFile.FieldType)).before args0 about1 = true := code_word (m := ⟨2, 0⟩) (meth := k2m0) (c := k2c0) (by decide +kernel) rfl rfl rfl (by decide +kernel)
set_option maxRecDepth 65536 in
theorem w_c2 : (Jvm.Cond.code ({ cls := "java/lang/Object", name := "<init>", desc := "()V" } : Jvm.MethodName) object_method_1_code (1 : Nat) (Option.none : Option Jvm.ClassFile.FieldType)).before args0 about1 = true := code_word (m := ⟨0, 0⟩) (meth := k0m0) (c := k0c0) (by decide +kernel) rfl rfl rfl (by decide +kernel)
set_option maxRecDepth 65536 in
theorem w_c3 : (Jvm.Cond.code ({ cls := "com/example/forefetch/forefetch/BatchWindowStalePinLaw", name := "step", desc := "(Lcom/example/forefetch/forefetch/BatchWindow;[IIZ)Z" } : Jvm.MethodName) method_4_code (9 : Nat) (Option.some Jvm.ClassFile.FieldType.boolean)).before args0 about1 = true := code_word (m := ⟨1, 3⟩) (meth := k1m3) (c := k1c3) (by decide +kernel) rfl rfl rfl (by decide +kernel)
set_option maxRecDepth 65536 in
theorem w_c4 : (Jvm.Cond.code ({ cls := "com/example/forefetch/forefetch/BatchWindowStalePinLaw", name := "answered", desc := "(I)I" } : Jvm.MethodName) method_3_code (1 : Nat) (Option.some Jvm.ClassFile.FieldType.int)).before args0 about1 = true := code_word (m := ⟨1, 2⟩) (meth := k1m2) (c := k1c2) (by decide +kernel) rfl rfl rfl (by decide +kernel)
set_option maxRecDepth 65536 in
theorem w_c5 : (Jvm.Cond.code ({ cls := "com/example/forefetch/forefetch/BatchWindow", name := "stale", desc := "(I)Z" } : Jvm.MethodName) prog_5_method_3_code (3 : Nat) (Option.some Jvm.ClassFile.FieldType.boolean)).before args0 about1 = true := code_word (m := ⟨2, 2⟩) (meth := k2m2) (c := k2c2) (by decide +kernel) rfl rfl rfl (by decide +kernel)
set_option maxRecDepth 65536 in
theorem w_c6 : (Jvm.Cond.code ({ cls := "java/lang/Math", name := "max", desc := "(II)I" } : Jvm.MethodName) jdk_29_method_65_code (2 : Nat) (Option.some Jvm.ClassFile.FieldType.int)).before args0 about1 = true := code_word (m := ⟨3, 1⟩) (meth := k3m1) (c := k3c1) (by decide +kernel) rfl rfl rfl (by decide +kernel)
set_option maxRecDepth 65536 in
theorem w_c7 : (Jvm.Cond.code ({ cls := "java/lang/Math", name := "min", desc := "(II)I" } : Jvm.MethodName) jdk_29_method_69_code (2 : Nat) (Option.some Jvm.ClassFile.FieldType.int)).before args0 about1 = true := code_word (m := ⟨3, 2⟩) (meth := k3m2) (c := k3c2) (by decide +kernel) rfl rfl rfl (by decide +kernel)
set_option maxRecDepth 65536 in
theorem w_c8 : (Jvm.Cond.code ({ cls := "com/example/forefetch/forefetch/BatchWindow", name := "rows", desc := "()I" } : Jvm.MethodName) prog_5_method_2_code (1 : Nat) (Option.some Jvm.ClassFile.FieldType.int)).before args0 about1 = true := code_word (m := ⟨2, 1⟩) (meth := k2m1) (c := k2c1) (by decide +kernel) rfl rfl rfl (by decide +kernel)
set_option maxRecDepth 65536 in
theorem w_c9 : (Jvm.Cond.code ({ cls := "com/example/forefetch/forefetch/BatchWindow", name := "passed", desc := "()V" } : Jvm.MethodName) prog_5_method_4_code (1 : Nat) (Option.none : Option Jvm.ClassFile.FieldType)).before args0 about1 = true := code_word (m := ⟨2, 3⟩) (meth := k2m3) (c := k2c3) (by decide +kernel) rfl rfl rfl (by decide +kernel)
def codes1 : List Jvm.Cond := [Jvm.Cond.code x code maxLocals ret, Jvm.Cond.code ({ cls := "com/example/forefetch/forefetch/BatchWindow", name := "<init>", desc := "()V" } : Jvm.MethodName) prog_5_method_1_code (1 : Nat) (Option.none : Option Jvm.ClassFile.FieldType), Jvm.Cond.code ({ cls := "java/lang/Object", name := "<init>", desc := "()V" } : Jvm.MethodName) object_method_1_code (1 : Nat) (Option.none : Option Jvm.ClassFile.FieldType), Jvm.Cond.code ({ cls := "com/example/forefetch/forefetch/BatchWindowStalePinLaw", name := "step", desc := "(Lcom/example/forefetch/forefetch/BatchWindow;[IIZ)Z" } : Jvm.MethodName) method_4_code (9 : Nat) (Option.some Jvm.ClassFile.FieldType.boolean), Jvm.Cond.code ({ cls := "com/example/forefetch/forefetch/BatchWindowStalePinLaw", name := "answered", desc := "(I)I" } : Jvm.MethodName) method_3_code (1 : Nat) (Option.some Jvm.ClassFile.FieldType.int), Jvm.Cond.code ({ cls := "com/example/forefetch/forefetch/BatchWindow", name := "stale", desc := "(I)Z" } : Jvm.MethodName) prog_5_method_3_code (3 : Nat) (Option.some Jvm.ClassFile.FieldType.boolean), Jvm.Cond.code ({ cls := "java/lang/Math", name := "max", desc := "(II)I" } : Jvm.MethodName) jdk_29_method_65_code (2 : Nat) (Option.some Jvm.ClassFile.FieldType.int), Jvm.Cond.code ({ cls := "java/lang/Math", name := "min", desc := "(II)I" } : Jvm.MethodName) jdk_29_method_69_code (2 : Nat) (Option.some Jvm.ClassFile.FieldType.int), Jvm.Cond.code ({ cls := "com/example/forefetch/forefetch/BatchWindow", name := "rows", desc := "()I" } : Jvm.MethodName) prog_5_method_2_code (1 : Nat) (Option.some Jvm.ClassFile.FieldType.int), Jvm.Cond.code ({ cls := "com/example/forefetch/forefetch/BatchWindow", name := "passed", desc := "()V" } : Jvm.MethodName) prog_5_method_4_code (1 : Nat) (Option.none : Option Jvm.ClassFile.FieldType)]
set_option maxRecDepth 65536 in
theorem codes_eq : words1.filter isCode = codes1 := rfl
theorem w_codes : ∀ c ∈ words1.filter isCode, c.before args0 about1 = true := by
  rw [codes_eq]
  intro c hc
  simp only [codes1, List.mem_cons, List.not_mem_nil, or_false] at hc
  rcases hc with rfl | rfl | rfl | rfl | rfl | rfl | rfl | rfl | rfl | rfl
  · exact w_c0
  · exact w_c1
  · exact w_c2
  · exact w_c3
  · exact w_c4
  · exact w_c5
  · exact w_c6
  · exact w_c7
  · exact w_c8
  · exact w_c9
set_option maxRecDepth 65536 in
theorem w_t1 : (words1.take 24).all (fun c => isCode c || c.before args0 about1) = true := by decide +kernel
set_option maxRecDepth 65536 in
theorem w_t2 : (words1.drop 24).all (fun c => isCode c || c.before args0 about1) = true := by decide +kernel
theorem w_tables : (allAtoms (Jvm.Cond.code x code maxLocals ret :: tables_1)).before args0 about1 = true := by
  rw [allAtoms_all]
  show words1.all (fun c => c.before args0 about1) = true
  refine all_split ?_ w_codes
  rw [← List.take_append_drop 24 words1, List.all_append, w_t1, w_t2]
  rfl
set_option maxRecDepth 65536 in
theorem w_case : (Jvm.Cond.and given_1 narrow_1).before args0 about1 = true := by decide +kernel
theorem w_applies : (headSpec (Jvm.Cond.code x code maxLocals ret :: tables_1) room_1).applies x e0.platform about1 = true :=
  (Spec.applies_iff w_frames).mpr ⟨w_running, w_runnable, w_alone, w_named, w_hears, w_ripe, w_room, w_tables⟩
theorem atStart : AtStart classFile x code maxLocals ret World_1 tables_1 room_1 Calls_1 rest_1 Pre_1 launch0 p0 e0 about1 theMethod args0 below0 :=
  ⟨lists_1, trivial, launch0.admits_env _ _ _, launch0.least_env, fairChoices_fair.cas, fairChoices_fair.clock, w_frames, w_args, w_heap, w_applies, trivial, trivial, w_case⟩
end start1
theorem witness_1 : WitnessClaimed_1 := ⟨start1.p0, start1.e0, start1.about1, start1.theMethod, start1.args0, start1.below0, start1.atStart⟩
end Jvm.Pilot.@@N@@
