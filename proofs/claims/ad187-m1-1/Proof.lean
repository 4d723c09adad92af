import JvmDerived
import JvmDerived.Pilot.@@N@@Statement
import JvmDerived.Pilot.@@N@@Code
set_option linter.unusedVariables false
set_option linter.unusedSimpArgs false
namespace Jvm.OwnKit
open Sem ClassFile Op Lib Jvm.Stand Jvm.Free Jvm.LawKit Jvm.RoadKit
section Own
variable {p : Program} {l : Launch} {e : Env} {R : Room} {s : State} {m : MethodId} {args : Array Value} {below : List Frame} {meth : Method} {c : Code} {T : State} {h : Heap} {n0 cells slots : Nat} {Z : State} {a0 : Array Value} {Q : Option Value → Heap → Prop} {pc pc' : Nat} {Ls : Array Slot} {S rest : List Value}
/-- where the walk stands: over T, whose heap is h; nothing older than n0 was written -/
def Pn (p : Program) (l : Launch) (e : Env) (R : Room) (s : State) (m : MethodId) (args : Array Value) (below : List Frame) (meth : Method) (c : Code) (T : State) (h : Heap) (n0 cells slots : Nat) : Prop :=
  T.heap = h ∧ n0 ≤ s.heap.size ∧ ∃ locs, Stand p l e R s m args below meth c T locs cells slots ∧ Fr n0 locs
theorem Pn.here (X : Pn p l e R s m args below meth c T h n0 cells slots) : At T m c below := by obtain ⟨_, _, _, X, _⟩ := X; exact X.here
theorem Pn.le (X : Pn p l e R s m args below meth c T h n0 cells slots) : n0 ≤ h.size := by
  obtain ⟨e0, hn, _, X, _⟩ := X
  have q : s.heap.size ≤ T.heap.size := X.same.2.1
  rw [← e0]; exact Nat.le_trans hn q
theorem Pn.mono (X : Pn p l e R s m args below meth c T h n0 cells slots) {cells' slots' : Nat} (hc : cells ≤ cells') (hs : slots ≤ slots') : Pn p l e R s m args below meth c T h n0 cells' slots' := by
  obtain ⟨e0, hn, L, X, N⟩ := X
  exact ⟨e0, hn, L, ⟨X.admits, X.cas, X.clock, X.frames, X.room, X.hears, X.method, X.code, X.here, X.tail, X.warmed, X.limits, X.bytes, X.same.mono hc hs⟩, N⟩
/-- from here the run comes to a return that Q speaks of -/
def Go (p : Program) (e : Env) (s : State) (below : List Frame) (n0 : Nat) (Q : Option Value → Heap → Prop) (R : Room) (T : State) (f : JFrame) : Prop :=
  ∃ V, Steps p.tables e below (T.setTop f) V ∧ V.status = .running ∧ ∃ v L, Ended V below (.returned v) ∧ Q v V.heap ∧ Fr n0 L ∧ FrameEnd s (.returned v) V L R.cells R.slots
theorem stp {T' : State} {f f' : JFrame} (k : ∀ t, Steps p.tables e below (T'.setTop f') t → Steps p.tables e below (T.setTop f) t) (g : Go p e s below n0 Q R T' f') : Go p e s below n0 Q R T f := by
  obtain ⟨V, h1, h2⟩ := g; exact ⟨V, k V h1, h2⟩
def Con (l : Launch) (Z : State) (y : MethodName) (bytes : ByteArray) (maxL : Nat) (ret : Option FieldType) (ws : List Jvm.Cond) (rm : Room) (as : Array Value) (h0 : Heap) (n0 : Nat) (Q : Option Value → Heap → Prop) : Prop :=
  MetFree l y (head1 (Jvm.Cond.code y bytes maxL ret :: ws) rm) (fun a U => a = as ∧ Z.Warmed39 U.vm ∧ U.heap = h0) (fun _ _ _ _ _ => True) (fun _ U o U' => ∃ v L, o = .returned v ∧ (Q v U'.heap ∧ Fr n0 L) ∧ FrameEnd U o U' L rm.cells rm.slots)
theorem body {y : MethodName} {bytes : ByteArray} {maxL : Nat} {ret : Option FieldType} {ws : List Jvm.Cond} {rm : Room} {as : Array Value} {h0 : Heap} (hp : plainFor y = true) (hn : n0 ≤ h0.size) (ent : ∀ m, entryFrame m as maxL = mkF m 0 Ls [])
    (walk : ∀ (p : Program) (e : Env) (s : State) (m : MethodId) (below : List Frame) (meth : Method) (c : Code) (T : State), p.tables.exec = Jvm.exec → c.code = bytes → c.maxLocals = maxL → s.vm.findClass y.cls = some m.cls → meth.name = y.name → meth.sig.returnType = ret → meth.locks = false → Z.Warmed39 s.vm →
      Pn p l e rm s m as below meth c T h0 n0 0 0 → Go p e s below n0 Q rm T (mkF m 0 Ls [])) : Con l Z y bytes maxL ret ws rm as h0 n0 Q := by
  refine MetFree.of_bodySF hp hisR ?_
  intro p e s m args below meth c s₁ Bd hml0 hP hK
  obtain ⟨rfl, hZ, hh⟩ := hP
  have hown : s.vm.findClass y.cls = some m.cls := findClass_of_methodNamed Bd.named
  have hnm := (name_of_methodNamed Bd.named Bd.method).1
  have X0 : Stand p l e rm s m _ below meth c s₁ [] 0 0 := Stand.of_body Bd
  have e0 : s₁.heap = h0 := by rw [← hh, Bd.state]; rfl
  obtain ⟨V, h1, h2, v, L, h3, h4, h5, h6⟩ := walk p e s m below meth c s₁ Bd.exec Bd.bytes hml0 hown hnm Bd.returns Bd.notSynchronized hZ ⟨e0, by rw [hh]; exact hn, [], X0, Fr.nil n0⟩
  exact ⟨V, _, castTop (ent m) h1, h2, h3, v, L, rfl, ⟨h4, h5⟩, h6⟩
/-! the ends -/
theorem fin (X : Pn p l e R s m args below meth c T h n0 cells slots) (hlk : meth.locks = false) {v : Option Value} (hv : meth.sig.returnType = none → v = none) (hc : cells ≤ R.cells) (hs : slots ≤ R.slots) (hq : Q v h) {f : JFrame}
    (k : ∀ locs, Stand p l e R s m args below meth c T locs cells slots → ∀ fs, (∀ (f : JFrame) (acts : List Action), f.method = m → f.locked = none → f.entered = [] → (doReturn e (T.setTop f) acts v).1 = T.setFrames fs) → Steps p.tables e below (T.setTop f) (T.setFrames fs)) : Go p e s below n0 Q R T f := by
  obtain ⟨e0, hn, locs, Y, N⟩ := X
  obtain ⟨fs, hr, hrun, hended, hW, hsame⟩ := Y.leave hv hlk
  refine ⟨_, k locs Y fs hr, hrun, v, locs, hended, ?_, N, ⟨_, rfl⟩, hW, hsame.mono hc hs⟩
  show Q v T.heap
  rw [e0]; exact hq
theorem rI {z : Int32} (X : Pn p l e R s m args below meth c T h n0 cells slots) (hx : p.tables.exec = Jvm.exec) (hlk : meth.locks = false) (hret : meth.sig.returnType = some .int) (hd : decode c.code pc = .ok (.ireturn, 1)) (hc : cells ≤ R.cells) (hs : slots ≤ R.slots) (hq : Q (some (.int z)) h) :
    Go p e s below n0 Q R T (mkF m pc Ls (.int z :: S)) :=
  fin X hlk (fun q => by rw [hret] at q; cases q) hc hs hq fun _ Y fs hr => retOut Y hx hret rfl (Or.inl ⟨rfl, Or.inl rfl, z, rfl⟩) hd hr
theorem rN {z : Int32} {t : FieldType} (X : Pn p l e R s m args below meth c T h n0 cells slots) (hx : p.tables.exec = Jvm.exec) (hlk : meth.locks = false) (hret : meth.sig.returnType = some t) (ht : t = .boolean ∨ t = .byte ∨ t = .char ∨ t = .short) (hd : decode c.code pc = .ok (.ireturn, 1)) (hc : cells ≤ R.cells) (hs : slots ≤ R.slots) (hq : Q (some (.int (nar t z))) h) :
    Go p e s below n0 Q R T (mkF m pc Ls (.int z :: S)) :=
  fin X hlk (fun q => by rw [hret] at q; cases q) hc hs hq fun _ Y fs hr => retN Y hx hret ht hd hr
theorem rL {z : Int64} (X : Pn p l e R s m args below meth c T h n0 cells slots) (hx : p.tables.exec = Jvm.exec) (hlk : meth.locks = false) (hret : meth.sig.returnType = some .long) (hd : decode c.code pc = .ok (.lreturn, 1)) (hc : cells ≤ R.cells) (hs : slots ≤ R.slots) (hq : Q (some (.long z)) h) :
    Go p e s below n0 Q R T (mkF m pc Ls (.long z :: S)) :=
  fin X hlk (fun q => by rw [hret] at q; cases q) hc hs hq fun _ Y fs hr => retOut Y hx hret rfl (Or.inr (Or.inl ⟨rfl, rfl, z, rfl⟩)) hd hr
theorem rA {w : Value} {t : FieldType} (X : Pn p l e R s m args below meth c T h n0 cells slots) (hx : p.tables.exec = Jvm.exec) (hlk : meth.locks = false) (hret : meth.sig.returnType = some t) (ht : t.isReference = true) (hw : w.isRef = true) (hn : narrow t w = w) (hd : decode c.code pc = .ok (.areturn, 1)) (hc : cells ≤ R.cells) (hs : slots ≤ R.slots) (hq : Q (some w) h) :
    Go p e s below n0 Q R T (mkF m pc Ls (w :: S)) :=
  fin X hlk (fun q => by rw [hret] at q; cases q) hc hs hq fun _ Y fs hr => retOut Y hx hret hn (Or.inr (Or.inr (Or.inr (Or.inr ⟨rfl, ht, hw⟩)))) hd hr
theorem rV (X : Pn p l e R s m args below meth c T h n0 cells slots) (hx : p.tables.exec = Jvm.exec) (hlk : meth.locks = false) (hret : meth.sig.returnType = none) (hd : decode c.code pc = .ok (.return_, 1)) (hc : cells ≤ R.cells) (hs : slots ≤ R.slots) (hq : Q none h) :
    Go p e s below n0 Q R T (mkF m pc Ls []) :=
  fin X hlk (fun _ => rfl) hc hs hq fun _ Y fs hr => Y.returnOut hx hret hd hr
/-! heap and tables -/
theorem gf {own R0 O n d host : String} {index : Nat} {a : Addr} {v : Value} (X : Pn p l e R s m args below meth c T h n0 cells slots) (hx : p.tables.exec = Jvm.exec) (hZ : Z.Warmed39 s.vm) (hown : s.vm.findClass own = some m.cls) (w : (Cond.fieldLink own index R0 n d).before a0 Z = true ∨ (Cond.fieldLinkNest own index R0 n d host).before a0 Z = true) (via : Via Z R0 O n d)
    (F : Fld Z h a O n d v) (hd : decode c.code pc = .ok (.getfield index, 3)) (hp : pc + 3 = pc') (k : ∀ T', Pn p l e R s m args below meth c T' h n0 cells slots → Go p e s below n0 Q R T' (mkF m pc' Ls (v :: S))) : Go p e s below n0 Q R T (mkF m pc Ls (.ref a :: S)) := by
  subst hp
  obtain ⟨e0, hn, locs, Y, N⟩ := X
  obtain ⟨T', Y', e', st⟩ := getF Y hx hZ hown w via e0 F (g := mkF m pc Ls (.ref a :: S)) rfl rfl hd
  exact stp st (k T' ⟨e', hn, locs, Y', N⟩)
theorem gs {own R0 O n d host : String} {index : Nat} {v : Value} (X : Pn p l e R s m args below meth c T h n0 cells slots) (hx : p.tables.exec = Jvm.exec) (hZ : Z.Warmed39 s.vm) (hown : s.vm.findClass own = some m.cls) (w : (Cond.fieldLink own index R0 n d).before a0 Z = true ∨ (Cond.fieldLinkNest own index R0 n d host).before a0 Z = true) (via : Via Z R0 O n d)
    (F : Sta Z h O n d v) (hd : decode c.code pc = .ok (.getstatic index, 3)) (hp : pc + 3 = pc') (k : ∀ T', Pn p l e R s m args below meth c T' h n0 cells slots → Go p e s below n0 Q R T' (mkF m pc' Ls (v :: S))) : Go p e s below n0 Q R T (mkF m pc Ls S) := by
  subst hp
  obtain ⟨e0, hn, locs, Y, N⟩ := X
  obtain ⟨T', Y', e', st⟩ := getS2 Y hx hZ hown w via e0 F (g := mkF m pc Ls S) rfl hd
  exact stp st (k T' ⟨e', hn, locs, Y', N⟩)
theorem pf {own R0 O n d host C : String} {index kk : Nat} {ty : FieldType} {a : Addr} {v old : Value} (X : Pn p l e R s m args below meth c T h n0 cells slots) (hx : p.tables.exec = Jvm.exec) (hZ : Z.Warmed39 s.vm) (hown : s.vm.findClass own = some m.cls) (w : (Cond.fieldLink own index R0 n d).before a0 Z = true ∨ (Cond.fieldLinkNest own index R0 n d host).before a0 Z = true) (via : Via Z R0 O n d)
    (F : Fld Z h a O n d old) (E : Exa Z h a C) (L : (Cond.lays C O n d).before a0 Z = true ∨ ((Cond.laysFinal C O n d).before a0 Z = true ∧ own = O ∧ meth.name = "<init>")) (wi : (Cond.instantiable C kk).before a0 Z = true)
    (hty : parseFieldDescriptor d = some ty) (hn : narrow ty v = v) (hf : fits ty v = true) (ge : n0 ≤ a) (hd : decode c.code pc = .ok (.putfield index, 3)) (hp : pc + 3 = pc')
    (k : ∀ T' h', Pn p l e R s m args below meth c T' h' n0 cells slots → Wr h h' a (Jvm.RoadKit.slotOf Z O n d) v → Go p e s below n0 Q R T' (mkF m pc' Ls S)) : Go p e s below n0 Q R T (mkF m pc Ls (v :: .ref a :: S)) := by
  subst hp
  obtain ⟨e0, hm, locs, Y, N⟩ := X
  obtain ⟨T', h', Y', e', W, st⟩ := putF Y hx hZ hown w via e0 F E L wi hty hn hf (g := mkF m pc Ls (v :: .ref a :: S)) rfl rfl hd
  exact stp st (k T' h' ⟨e', hm, _, Y', Fr.snoc Y' N ge⟩ W)
theorem nw {own C : String} {index n : Nat} (X : Pn p l e R s m args below meth c T h n0 cells slots) (hx : p.tables.exec = Jvm.exec) (hZ : Z.Warmed39 s.vm) (hown : s.vm.findClass own = some m.cls) (w : (Cond.classLink own index C).before a0 Z = true) (wi : (Cond.instantiable C n).before a0 Z = true) (wz : (Cond.initialized C).before a0 Z = true)
    (hd : decode c.code pc = .ok (.new index, 3)) (hp : pc + 3 = pc') (hc : cells + 1 ≤ R.cells) (hl : slots + n ≤ R.slots)
    (k : ∀ T' h' b, Pn p l e R s m args below meth c T' h' n0 (cells + 1) (slots + n) → b = h.size → n0 ≤ b → Ext h h' → Exa Z h' b C → (∀ {O nm d : String} {ty : FieldType}, Laid Z a0 C O nm d → parseFieldDescriptor d = some ty → Fld Z h' b O nm d (defaultValue ty)) → Go p e s below n0 Q R T' (mkF m pc' Ls (.ref b :: S))) :
    Go p e s below n0 Q R T (mkF m pc Ls S) := by
  subst hp
  have q := X.le
  obtain ⟨e0, hn, locs, Y, N⟩ := X
  obtain ⟨T', h', Y', e', E', A', D', -, st⟩ := newO Y hx hZ hown w wi wz e0 (g := mkF m pc Ls S) rfl hd hc hl
  exact stp st (k T' h' _ ⟨e', hn, _, Y', N⟩ rfl q E' A' D')
theorem oi {own : String} {idx : Nat} {a : Addr} {W : Nat} (X : Pn p l e R s m args below meth c T h n0 cells slots) (hx : p.tables.exec = Jvm.exec) (hZ : Z.Warmed39 s.vm) (hown : s.vm.findClass own = some m.cls) (w1 : (Cond.methodLink own idx Lib.objectInit).before a0 Z = true) (w2 : (Cond.instanceMethod Lib.objectInit).before a0 Z = true) (w3 : (Cond.code Lib.objectInit ⟨#[0xb1]⟩ 1 none).before a0 Z = true)
    (hsize : Ls.size = c.maxLocals) (hd : decode c.code pc = .ok (.invokespecial idx, 3)) (hp : pc + 3 = pc') (hf : 1 ≤ R.frames) (hW : (S.map fun v => v.category).sum ≤ W) (hl : W + 12 ≤ R.locals)
    (k : ∀ T', Pn p l e R s m args below meth c T' h n0 cells slots → Go p e s below n0 Q R T' (mkF m pc' Ls S)) : Go p e s below n0 Q R T (mkF m pc Ls (.ref a :: S)) := by
  subst hp
  obtain ⟨e0, hn, locs, Y, N⟩ := X
  obtain ⟨T', Y', e', st⟩ := initO Y hx hZ hown w1 w2 w3 e0 (g := mkF m pc Ls (.ref a :: S)) rfl hsize rfl hd hf (W := W) (by show 2 * 0 + _ ≤ _; omega) hl
  exact stp st (k T' ⟨e', hn, locs, Y', N⟩)
/-! calls by their contracts -/
theorem cS {own : String} {index : Nat} {y : MethodName} {bytes : ByteArray} {maxL : Nat} {ret : Option FieldType} {rm : Room} {as : Array Value} {Q' : Option Value → Heap → Prop} (W : Nat) (argsL : List Value) (X : Pn p l e R s m args below meth c T h n0 cells slots) (hx : p.tables.exec = Jvm.exec) (hZ : Z.Warmed39 s.vm) (hown : s.vm.findClass own = some m.cls)
    (w1 : (Cond.methodLink own index y).before a0 Z = true) (w2 : (Cond.static y).before a0 Z = true) (w3 : (Cond.initialized y.cls).before a0 Z = true) (w4 : (Cond.code y bytes maxL ret).before a0 Z = true) (hy : y.cls ≠ "java/lang/invoke/MethodHandle" ∧ y.cls ≠ "java/lang/invoke/VarHandle")
    (hM : Con l Z y bytes maxL ret [] rm as h n0 Q') (hf : rm.frames + 1 ≤ R.frames) (hl : W + (maxL + 11) + rm.locals ≤ R.locals) (hsz : Ls.size = c.maxLocals) (has : as = argsL.toArray) (hlen : ∀ sig, parseMethodDescriptor y.desc = some sig → argsL.length = sig.parameters.length) (hst : S = argsL.reverse ++ rest) (hW : (rest.map fun v => v.category).sum ≤ W)
    (hd : decode c.code pc = .ok (.invokestatic index, 3)) (hp : pc + 3 = pc') (hc : cells + rm.cells ≤ R.cells) (hs : slots + rm.slots ≤ R.slots)
    (k : ∀ v T' h', Pn p l e R s m args below meth c T' h' n0 (cells + rm.cells) (slots + rm.slots) → Q' v h' → Go p e s below n0 Q R T' (mkF m pc' Ls (v.toList ++ rest))) : Go p e s below n0 Q R T (mkF m pc Ls S) := by
  subst hp has
  obtain ⟨e0, hn, locs, Y, N⟩ := X
  obtain ⟨v, _, ⟨T', L', k', n'⟩, -, Y', ⟨Lc, ⟨hq, hN⟩, l', y', z'⟩, st⟩ := Jvm.LawKit.callS Y hx (y := y) hown (mvT hZ w1) (mvT hZ w2) (mvT hZ w3) (mvT hZ w4) hy (backOf (W := W) (Q := fun v h L => Q' v h ∧ Fr n0 L) hM hZ w4 w3 hf hl) (g := mkF m pc Ls S) rfl hsz (argsL := argsL) (rest := rest) hlen hst (by show 2 * 0 + _ ≤ _; omega) hd (fun _ _ => ⟨rfl, e0, hc, hs⟩)
  dsimp only [Pt.U, Pt.locs, Pt.cells, Pt.slots] at Y' l' y' z' st hq
  subst l' y' z'
  exact stp st (k v T' _ ⟨rfl, hn, _, Y', N.app hN⟩ hq)
theorem cI {own : String} {index : Nat} {y : MethodName} {bytes : ByteArray} {maxL : Nat} {rm : Room} {as : Array Value} {a : Addr} {Q' : Option Value → Heap → Prop} (W : Nat) (argsL : List Value) (X : Pn p l e R s m args below meth c T h n0 cells slots) (hx : p.tables.exec = Jvm.exec) (hZ : Z.Warmed39 s.vm) (hown : s.vm.findClass own = some m.cls) (hy1 : y.name = "<init>")
    (w1 : (Cond.methodLink own index y).before a0 Z = true) (w2 : (Cond.instanceMethod y).before a0 Z = true) (w3 : (Cond.initialized y.cls).before a0 Z = true) (w4 : (Cond.code y bytes maxL none).before a0 Z = true) (hy : y.cls ≠ "java/lang/invoke/MethodHandle" ∧ y.cls ≠ "java/lang/invoke/VarHandle")
    (hM : Con l Z y bytes maxL none [] rm as h n0 Q') (hf : rm.frames + 1 ≤ R.frames) (hl : W + (maxL + 11) + rm.locals ≤ R.locals) (hsz : Ls.size = c.maxLocals) (has : as = (.ref a :: argsL).toArray) (hlen : ∀ sig, parseMethodDescriptor y.desc = some sig → argsL.length = sig.parameters.length) (hst : S = argsL.reverse ++ .ref a :: rest) (hW : (rest.map fun v => v.category).sum ≤ W)
    (hd : decode c.code pc = .ok (.invokespecial index, 3)) (hp : pc + 3 = pc') (hc : cells + rm.cells ≤ R.cells) (hs : slots + rm.slots ≤ R.slots)
    (k : ∀ v T' h', Pn p l e R s m args below meth c T' h' n0 (cells + rm.cells) (slots + rm.slots) → Q' v h' → Go p e s below n0 Q R T' (mkF m pc' Ls (v.toList ++ rest))) : Go p e s below n0 Q R T (mkF m pc Ls S) := by
  subst hp has
  obtain ⟨e0, hn, locs, Y, N⟩ := X
  obtain ⟨v, _, ⟨T', L', k', n'⟩, -, Y', ⟨Lc, ⟨hq, hN⟩, l', y', z'⟩, st⟩ := Y.specialBack hx (y := y) hy1 hown (mvT hZ w1) (mvT hZ w2) (mvT hZ w4) hy (backOf (W := W) (Q := fun v h L => Q' v h ∧ Fr n0 L) hM hZ w4 w3 hf hl) (g := mkF m pc Ls S) rfl hsz (Steps.refl _) (a := a) (argsL := argsL) (rest := rest) hlen hst (by show 2 * 0 + _ ≤ _; omega) hd (fun _ _ => ⟨rfl, e0, hc, hs⟩)
  dsimp only [Pt.U, Pt.locs, Pt.cells, Pt.slots] at Y' l' y' z' st hq
  subst l' y' z'
  exact stp (fun _ q => st.trans q) (k v T' _ ⟨rfl, hn, _, Y', N.app hN⟩ hq)
theorem cV {own C : String} {index : Nat} {y : MethodName} {bytes : ByteArray} {maxL : Nat} {ret : Option FieldType} {rm : Room} {as : Array Value} {a : Addr} {Q' : Option Value → Heap → Prop} (W : Nat) (argsL : List Value) (X : Pn p l e R s m args below meth c T h n0 cells slots) (hx : p.tables.exec = Jvm.exec) (hZ : Z.Warmed39 s.vm) (hown : s.vm.findClass own = some m.cls)
    (w1 : (Cond.methodLink own index y).before a0 Z = true) (w2 : (Cond.declares y).before a0 Z = true) (w5 : (Cond.selects C y y).before a0 Z = true) (w6 : (Cond.instanceMethod y).before a0 Z = true) (w3 : (Cond.initialized y.cls).before a0 Z = true) (w4 : (Cond.code y bytes maxL ret).before a0 Z = true) (hy : y.cls ≠ "java/lang/invoke/MethodHandle" ∧ y.cls ≠ "java/lang/invoke/VarHandle")
    (hE : Exa Z h a C) (hM : Con l Z y bytes maxL ret [] rm as h n0 Q') (hf : rm.frames + 1 ≤ R.frames) (hl : W + (maxL + 11) + rm.locals ≤ R.locals) (hsz : Ls.size = c.maxLocals) (has : as = (.ref a :: argsL).toArray) (hlen : ∀ sig, parseMethodDescriptor y.desc = some sig → argsL.length = sig.parameters.length) (hst : S = argsL.reverse ++ .ref a :: rest) (hW : (rest.map fun v => v.category).sum ≤ W)
    (hd : decode c.code pc = .ok (.invokevirtual index, 3)) (hp : pc + 3 = pc') (hc : cells + rm.cells ≤ R.cells) (hs : slots + rm.slots ≤ R.slots)
    (k : ∀ v T' h', Pn p l e R s m args below meth c T' h' n0 (cells + rm.cells) (slots + rm.slots) → Q' v h' → Go p e s below n0 Q R T' (mkF m pc' Ls (v.toList ++ rest))) : Go p e s below n0 Q R T (mkF m pc Ls S) := by
  subst hp has
  obtain ⟨e0, hn, locs, Y, N⟩ := X
  obtain ⟨cq, kq, q1, q2, q3⟩ := isOf hZ e0 hE
  obtain ⟨v, _, ⟨T', L', k', n'⟩, -, Y', ⟨Lc, ⟨hq, hN⟩, l', y', z'⟩, st⟩ := Y.virtualBack hx (y := y) (z := y) hown (mvT hZ w1) (mvT hZ w2) (notFace_of_selects (args := #[]) (mvT hZ w5)) (mvT hZ w5) (mvT hZ w6) hy (backOf (W := W) (Q := fun v h L => Q' v h ∧ Fr n0 L) hM hZ w4 w3 hf hl) q1 q3 (g := mkF m pc Ls S) rfl hsz (Steps.refl _) (argsL := argsL) (rest := rest) hlen hst (by show 2 * 0 + _ ≤ _; omega) hd (fun _ _ => ⟨rfl, e0, hc, hs⟩)
  dsimp only [Pt.U, Pt.locs, Pt.cells, Pt.slots] at Y' l' y' z' st hq
  subst l' y' z'
  exact stp (fun _ q => st.trans q) (k v T' _ ⟨rfl, hn, _, Y', N.app hN⟩ hq)
theorem cP {own : String} {index kk : Nat} {y : MethodName} {bytes : ByteArray} {maxL : Nat} {ret : Option FieldType} {rm : Room} {as : Array Value} {a : Addr} {C : String} {Q' : Option Value → Heap → Prop} (W : Nat) (argsL : List Value) (X : Pn p l e R s m args below meth c T h n0 cells slots) (hx : p.tables.exec = Jvm.exec) (hZ : Z.Warmed39 s.vm) (hown : s.vm.findClass own = some m.cls)
    (w1 : (Cond.methodLink own index y).before a0 Z = true) (w6 : (Cond.instanceMethod y).before a0 Z = true) (wp : (Cond.privateMethod y).before a0 Z = true) (wi : (Cond.instantiable y.cls kk).before a0 Z = true) (w3 : (Cond.initialized y.cls).before a0 Z = true) (w4 : (Cond.code y bytes maxL ret).before a0 Z = true) (hy : y.cls ≠ "java/lang/invoke/MethodHandle" ∧ y.cls ≠ "java/lang/invoke/VarHandle")
    (hE : Exa Z h a C) (hM : Con l Z y bytes maxL ret [] rm as h n0 Q') (hf : rm.frames + 1 ≤ R.frames) (hl : W + (maxL + 11) + rm.locals ≤ R.locals) (hsz : Ls.size = c.maxLocals) (has : as = (.ref a :: argsL).toArray) (hlen : ∀ sig, parseMethodDescriptor y.desc = some sig → argsL.length = sig.parameters.length) (hst : S = argsL.reverse ++ .ref a :: rest) (hW : (rest.map fun v => v.category).sum ≤ W)
    (hd : decode c.code pc = .ok (.invokevirtual index, 3)) (hp : pc + 3 = pc') (hc : cells + rm.cells ≤ R.cells) (hs : slots + rm.slots ≤ R.slots)
    (k : ∀ v T' h', Pn p l e R s m args below meth c T' h' n0 (cells + rm.cells) (slots + rm.slots) → Q' v h' → Go p e s below n0 Q R T' (mkF m pc' Ls (v.toList ++ rest))) : Go p e s below n0 Q R T (mkF m pc Ls S) := by
  subst hp has
  obtain ⟨e0, hn, locs, Y, N⟩ := X
  obtain ⟨cq, q1, q2⟩ := hE.cell
  have mi : (Cond.instantiable y.cls kk).before args s = true := mvT hZ wi
  obtain ⟨cc, kc, u1, u2, -, u3, -⟩ := Cond.instantiable_spec mi
  have hpv := Cond.privateMethod_at (mvP hZ wp (args := #[]))
  have hse := selects_self_of_private (args := args) u1 u2 (by rw [Bool.or_eq_false_iff] at u3; exact u3.1) hpv (mvT hZ w6) hy
  obtain ⟨v, _, ⟨T', L', k', n'⟩, -, Y', ⟨Lc, ⟨hq, hN⟩, l', y', z'⟩, st⟩ := Y.privateBack hx (y := y) hown (mvT hZ w1) (mvT hZ w6) hse hpv (mvT hZ w4) hy (backOf (W := W) (Q := fun v h L => Q' v h ∧ Fr n0 L) hM hZ w4 w3 hf hl) (g := mkF m pc Ls S) rfl hsz (Steps.refl _) (a := a) (by rw [e0]; exact q1) q2 (argsL := argsL) (rest := rest) hlen hst (by show 2 * 0 + _ ≤ _; omega) hd (fun _ _ => ⟨rfl, e0, hc, hs⟩)
  dsimp only [Pt.U, Pt.locs, Pt.cells, Pt.slots] at Y' l' y' z' st hq
  subst l' y' z'
  exact stp (fun _ q => st.trans q) (k v T' _ ⟨rfl, hn, _, Y', N.app hN⟩ hq)
theorem cF {own C : String} {index count : Nat} {y z : MethodName} {bytes : ByteArray} {maxL : Nat} {ret : Option FieldType} {rm : Room} {as : Array Value} {a : Addr} {Q' : Option Value → Heap → Prop} (W : Nat) (argsL : List Value) (X : Pn p l e R s m args below meth c T h n0 cells slots) (hx : p.tables.exec = Jvm.exec) (hZ : Z.Warmed39 s.vm) (hown : s.vm.findClass own = some m.cls)
    (w1 : (Cond.methodLink own index y).before a0 Z = true) (w2 : (Cond.declares y).before a0 Z = true) (w7 : (Cond.interfaceMethod y.cls y.cls y.name y.desc).before a0 Z = true) (w5 : (Cond.selects C y z).before a0 Z = true) (w6 : (Cond.instanceMethod z).before a0 Z = true) (w8 : (Cond.publicMethod z).before a0 Z = true) (w9 : (Cond.unhidden C y.name y.desc).before a0 Z = true) (w10 : (Cond.castable C y.cls).before a0 Z = true)
    (w3 : (Cond.initialized z.cls).before a0 Z = true) (w4 : (Cond.code z bytes maxL ret).before a0 Z = true) (hy : y.cls ≠ "java/lang/invoke/MethodHandle" ∧ y.cls ≠ "java/lang/invoke/VarHandle")
    (hE : Exa Z h a C) (hM : Con l Z z bytes maxL ret [] rm as h n0 Q') (hf : rm.frames + 1 ≤ R.frames) (hl : W + (maxL + 11) + rm.locals ≤ R.locals) (hsz : Ls.size = c.maxLocals) (has : as = (.ref a :: argsL).toArray) (hlen : ∀ sig, parseMethodDescriptor y.desc = some sig → argsL.length = sig.parameters.length) (hst : S = argsL.reverse ++ .ref a :: rest) (hW : (rest.map fun v => v.category).sum ≤ W)
    (hd : decode c.code pc = .ok (.invokeinterface index count, 5)) (hp : pc + 5 = pc') (hc : cells + rm.cells ≤ R.cells) (hs : slots + rm.slots ≤ R.slots)
    (k : ∀ v T' h', Pn p l e R s m args below meth c T' h' n0 (cells + rm.cells) (slots + rm.slots) → Q' v h' → Go p e s below n0 Q R T' (mkF m pc' Ls (v.toList ++ rest))) : Go p e s below n0 Q R T (mkF m pc Ls S) := by
  subst hp has
  obtain ⟨e0, hn, locs, Y, N⟩ := X
  obtain ⟨cq, kq, q1, q2, q3⟩ := isOf hZ e0 hE
  obtain ⟨v, _, ⟨T', L', k', n'⟩, -, Y', ⟨Lc, ⟨hq, hN⟩, l', y', z'⟩, st⟩ := Y.interfaceBack hx (xi := y) (y := z) hown (mvT hZ w1) (mvT hZ w2) (mvT hZ w7 (by simp [Cond.onTables, Cond.keepsFace, Cond.faceAtom, hy.1, hy.2])) (mvT hZ w5) (mvT hZ w6) (mvT hZ w8) (mvT hZ w9) (mvT hZ w10) hy (backOf (W := W) (Q := fun v h L => Q' v h ∧ Fr n0 L) hM hZ w4 w3 hf hl) q1 q2 q3 (g := mkF m pc Ls S) rfl hsz (Steps.refl _) (argsL := argsL) (rest := rest) hlen hst (by show 2 * 0 + _ ≤ _; omega) hd (fun _ _ => ⟨rfl, e0, hc, hs⟩)
  dsimp only [Pt.U, Pt.locs, Pt.cells, Pt.slots] at Y' l' y' z' st hq
  subst l' y' z'
  exact stp (fun _ q => st.trans q) (k v T' _ ⟨rfl, hn, _, Y', N.app hN⟩ hq)
theorem ioY {own K : String} {index : Nat} {a : Addr} (X : Pn p l e R s m args below meth c T h n0 cells slots) (hx : p.tables.exec = Jvm.exec) (hZ : Z.Warmed39 s.vm) (hown : s.vm.findClass own = some m.cls) (w : (Cond.classLink own index K).before a0 Z = true) (F : Ins Z h a K true) (hd : decode c.code pc = .ok (.instanceof index, 3)) (hp : pc + 3 = pc')
    (k : ∀ T', Pn p l e R s m args below meth c T' h n0 cells slots → Go p e s below n0 Q R T' (mkF m pc' Ls (.int 1 :: S))) : Go p e s below n0 Q R T (mkF m pc Ls (.ref a :: S)) := by
  subst hp
  obtain ⟨e0, hn, locs, Y, N⟩ := X
  obtain ⟨T', Y', e', st⟩ := instY Y hx hZ hown w e0 F (g := mkF m pc Ls (.ref a :: S)) rfl rfl hd
  exact stp st (k T' ⟨e', hn, locs, Y', N⟩)
theorem ioN {own K C : String} {index : Nat} {a : Addr} (X : Pn p l e R s m args below meth c T h n0 cells slots) (hx : p.tables.exec = Jvm.exec) (hZ : Z.Warmed39 s.vm) (hown : s.vm.findClass own = some m.cls) (w : (Cond.classLink own index K).before a0 Z = true) (E : Exa Z h a C) (F : ∃ c t, Z.vm.findClass C = some c ∧ Z.vm.findClass K = some t ∧ Z.vm.assignable c t = false) (hd : decode c.code pc = .ok (.instanceof index, 3)) (hp : pc + 3 = pc')
    (k : ∀ T', Pn p l e R s m args below meth c T' h n0 cells slots → Go p e s below n0 Q R T' (mkF m pc' Ls (.int 0 :: S))) : Go p e s below n0 Q R T (mkF m pc Ls (.ref a :: S)) := by
  subst hp
  obtain ⟨e0, hn, locs, Y, N⟩ := X
  obtain ⟨T', Y', e', st⟩ := instNo Y hx hZ hown w e0 E F (g := mkF m pc Ls (.ref a :: S)) rfl rfl hd
  exact stp st (k T' ⟨e', hn, locs, Y', N⟩)
theorem ioZ {index : Nat} (X : Pn p l e R s m args below meth c T h n0 cells slots) (hx : p.tables.exec = Jvm.exec) (hd : decode c.code pc = .ok (.instanceof index, 3)) (hp : pc + 3 = pc')
    (k : Go p e s below n0 Q R T (mkF m pc' Ls (.int 0 :: S))) : Go p e s below n0 Q R T (mkF m pc Ls (.null :: S)) := by
  subst hp
  obtain ⟨e0, hn, locs, Y, N⟩ := X
  exact stp (Y.instanceofNull hx (g := mkF m pc Ls (.null :: S)) rfl rfl hd) k
theorem ccY {own K : String} {index : Nat} {a : Addr} (X : Pn p l e R s m args below meth c T h n0 cells slots) (hx : p.tables.exec = Jvm.exec) (hZ : Z.Warmed39 s.vm) (hown : s.vm.findClass own = some m.cls) (w : (Cond.classLink own index K).before a0 Z = true) (F : Ins Z h a K true) (hd : decode c.code pc = .ok (.checkcast index, 3)) (hp : pc + 3 = pc')
    (k : ∀ T', Pn p l e R s m args below meth c T' h n0 cells slots → Go p e s below n0 Q R T' (mkF m pc' Ls (.ref a :: S))) : Go p e s below n0 Q R T (mkF m pc Ls (.ref a :: S)) := by
  subst hp
  obtain ⟨e0, hn, locs, Y, N⟩ := X
  obtain ⟨T', Y', e', st⟩ := castY Y hx hZ hown w e0 F (g := mkF m pc Ls (.ref a :: S)) rfl rfl hd
  exact stp st (k T' ⟨e', hn, locs, Y', N⟩)
theorem own_nsRoot {O K : String} {kk : Nat} (w : (Cond.noSuperclass O).before a0 Z = true) (wk : (Cond.instantiable K kk).before a0 Z = true) (hn : O ≠ K) : NS Z O K := by
  obtain ⟨c, k, h1, h2, h3, -, -⟩ := Cond.noSuperclass_spec w
  obtain ⟨t, _, g1, -⟩ := Cond.instantiable_spec wk
  have ne := ids_ne h1 g1 hn
  refine ⟨c, t, h1, g1, fun fuel => ?_⟩
  cases fuel with
  | zero => rfl
  | succ f => simp [Vm.isSubclassAux, ne, h2, h3]
theorem own_nsNo {C U K : String} {kk : Nat} (w : (Cond.superclass C U).before a0 Z = true) (wk : (Cond.instantiable K kk).before a0 Z = true) (n : NS Z C K) (hn : C ≠ K) : ∃ c t, Z.vm.findClass C = some c ∧ Z.vm.findClass K = some t ∧ Z.vm.assignable c t = false := by
  obtain ⟨c, t, h0, g0, n3⟩ := n
  obtain ⟨q, k, kp, h1, h2, h3, h4, h5, -, h7⟩ := Cond.superclass_spec h0 w
  obtain ⟨t', k', g1, g2, g3, g4, -⟩ := Cond.instantiable_spec wk
  cases g0.symm.trans g1
  have g7 : k'.isInterface = false := by rw [Bool.or_eq_false_iff] at g4; exact g4.1
  have ne := ids_ne h0 g0 hn
  refine ⟨c, t, h0, g0, ?_⟩
  show Z.vm.assignableAux (255 + 1) c t = false
  simp [Vm.assignableAux, ne, h2, g2, h5, g3, g7, Vm.isSubclass, n3]
/-! arrays: n places, the i-th holds f i -/
def Av (Z : State) (h : Heap) (a : Addr) (ty : FieldType) (n : Nat) (f : Nat → Value) : Prop := ∃ c : Cell, Arr Z h a c ty ∧ c.slots.size = n ∧ ∀ i, i < n → c.slots[i]? = some (f i)
theorem Av.lt {a : Addr} {ty : FieldType} {n : Nat} {f : Nat → Value} (F : Av Z h a ty n f) : a < h.size := by obtain ⟨c, A, -⟩ := F; exact A.lt
theorem Av.ext {h' : Heap} {a : Addr} {ty : FieldType} {n : Nat} {f : Nat → Value} (F : Av Z h a ty n f) (E : Ext h h') : Av Z h' a ty n f := by obtain ⟨c, A, r⟩ := F; exact ⟨c, A.ext E, r⟩
theorem Av.other {h' : Heap} {a b : Addr} {ty : FieldType} {n sl : Nat} {v : Value} {f : Nat → Value} (F : Av Z h b ty n f) (W : Wr h h' a sl v) (q : b ≠ a) : Av Z h' b ty n f := by obtain ⟨c, A, r⟩ := F; exact ⟨c, A.other W q, r⟩
theorem Av.keep {h' : Heap} {a : Addr} {ws : List Addr} {ty : FieldType} {n : Nat} {f : Nat → Value} (F : Av Z h a ty n f) (K : Keep h h' ws) (q : a ∉ ws) : Av Z h' a ty n f := by obtain ⟨c, A, r⟩ := F; exact ⟨c, ⟨K.2.1 a c A.1 q, A.2⟩, r⟩
theorem Av.same {h' : Heap} {a : Addr} {ty : FieldType} {n j : Nat} {v : Value} {f : Nat → Value} (F : Av Z h a ty n f) (W : Wr h h' a j v) : Av Z h' a ty n (fun i => if i = j then v else f i) := by
  obtain ⟨c, A, q, r⟩ := F
  refine ⟨c.setSlot j v, A.same W, by rw [sz_set]; exact q, fun i hi => ?_⟩
  obtain ⟨c', e1, -, -, -, -, e6, e7⟩ := wr_at W A.1
  obtain ⟨e8, e9, -⟩ := e7 rfl
  by_cases hj : i = j
  · subst hj; show _ = some (if i = i then v else f i); rw [if_pos rfl, ← e8]; exact e9
  · show _ = some (if i = j then v else f i); rw [if_neg hj, ← e8, e6 _ hj]; exact r i hi
theorem Av.congr {a : Addr} {ty : FieldType} {n : Nat} {f g : Nat → Value} (F : Av Z h a ty n f) (q : ∀ i, i < n → f i = g i) : Av Z h a ty n g := by obtain ⟨c, A, r, u⟩ := F; exact ⟨c, A, r, fun i hi => by rw [u i hi, q i hi]⟩
theorem na {aty : ArrayType} {z : Int32} (cap : Nat) (X : Pn p l e R s m args below meth c T h n0 cells slots) (hx : p.tables.exec = Jvm.exec) (hZ : Z.Warmed39 s.vm) (w : (Cond.arrayClass (newarray.typeOf aty)).before a0 Z = true) (hd : decode c.code pc = .ok (.newarray aty, 2)) (hp : pc + 2 = pc') (hz : ¬ z < 0) (hcap : z.toNatClampNeg ≤ cap) (hb : cap * 8 ≤ 536870912) (hc : cells + 1 ≤ R.cells) (hl : slots + cap ≤ R.slots)
    (k : ∀ T' h' b, Pn p l e R s m args below meth c T' h' n0 (cells + 1) (slots + cap) → b = h.size → n0 ≤ b → Ext h h' → Av Z h' b (newarray.typeOf aty) z.toNatClampNeg (fun _ => defaultValue (newarray.typeOf aty)) → Go p e s below n0 Q R T' (mkF m pc' Ls (.ref b :: S))) :
    Go p e s below n0 Q R T (mkF m pc Ls (.int z :: S)) := by
  subst hp
  have q := X.le
  obtain ⟨e0, hn, locs, Y, N⟩ := X
  obtain ⟨T', h', k', Y', e', E', A', st⟩ := newP Y hx hZ w e0 (g := mkF m pc Ls (.int z :: S)) rfl hd rfl hz hcap hb hc hl
  refine stp st (k T' h' _ ⟨e', hn, _, Y', N⟩ rfl q E' ⟨_, A', sz_new _ _ _, fun i hi => ?_⟩)
  simp [newA, hi]
theorem len {a : Addr} {ty : FieldType} {n : Nat} {f : Nat → Value} (z : Int32) (X : Pn p l e R s m args below meth c T h n0 cells slots) (hx : p.tables.exec = Jvm.exec) (hZ : Z.Warmed39 s.vm) (A : Av Z h a ty n f) (hz : n.toInt32 = z) (hd : decode c.code pc = .ok (.arraylength, 1)) (hp : pc + 1 = pc')
    (k : Go p e s below n0 Q R T (mkF m pc' Ls (.int z :: S))) : Go p e s below n0 Q R T (mkF m pc Ls (.ref a :: S)) := by
  subst hp hz
  obtain ⟨e0, hn, locs, Y, N⟩ := X
  obtain ⟨cl, Ar, S0, r⟩ := A
  subst S0
  exact stp (fun t q => Y.arraylength hx (by rw [e0]; exact Ar.1) (State.isArrayOf_alike hZ.alike Ar.2.1) (g := mkF m pc Ls (.ref a :: S)) rfl rfl hd t q) k
theorem inn {cl : Cell} {n : Nat} {j : Int32} (S0 : cl.slots.size = n) (q : ¬ j < 0) (r : j.toNatClampNeg < n) : ¬ (j < 0 ∨ cl.slots.size ≤ j.toNatClampNeg) := fun u => u.elim q fun v => by omega
theorem ldI {a : Addr} {n : Nat} {f : Nat → Value} {j : Int32} {v : Value} (X : Pn p l e R s m args below meth c T h n0 cells slots) (hx : p.tables.exec = Jvm.exec) (hZ : Z.Warmed39 s.vm) (A : Av Z h a .int n f) (q : ¬ j < 0) (r : j.toNatClampNeg < n) (hv : f j.toNatClampNeg = v) (hd : decode c.code pc = .ok (.iaload, 1)) (hp : pc + 1 = pc')
    (k : Go p e s below n0 Q R T (mkF m pc' Ls (v :: S))) : Go p e s below n0 Q R T (mkF m pc Ls (.int j :: .ref a :: S)) := by
  subst hp hv
  obtain ⟨e0, hn, locs, Y, N⟩ := X
  obtain ⟨cl, Ar, S0, u⟩ := A
  exact stp (fun t y => Y.iaload hx (by rw [e0]; exact Ar.1) (State.isArrayOf_alike hZ.alike Ar.2.1) Ar.2.2 (inn S0 q r) (u _ r) (g := mkF m pc Ls (.int j :: .ref a :: S)) rfl rfl hd t y) k
theorem ldJ {a : Addr} {n : Nat} {f : Nat → Value} {j : Int32} {v : Value} (X : Pn p l e R s m args below meth c T h n0 cells slots) (hx : p.tables.exec = Jvm.exec) (hZ : Z.Warmed39 s.vm) (A : Av Z h a .long n f) (q : ¬ j < 0) (r : j.toNatClampNeg < n) (hv : f j.toNatClampNeg = v) (hd : decode c.code pc = .ok (.laload, 1)) (hp : pc + 1 = pc')
    (k : Go p e s below n0 Q R T (mkF m pc' Ls (v :: S))) : Go p e s below n0 Q R T (mkF m pc Ls (.int j :: .ref a :: S)) := by
  subst hp hv
  obtain ⟨e0, hn, locs, Y, N⟩ := X
  obtain ⟨cl, Ar, S0, u⟩ := A
  exact stp (fun t y => Y.laload hx (by rw [e0]; exact Ar.1) (State.isArrayOf_alike hZ.alike Ar.2.1) Ar.2.2 (inn S0 q r) (u _ r) (g := mkF m pc Ls (.int j :: .ref a :: S)) rfl rfl hd t y) k
theorem ldB {a : Addr} {n : Nat} {f : Nat → Value} {j : Int32} {v : Value} (X : Pn p l e R s m args below meth c T h n0 cells slots) (hx : p.tables.exec = Jvm.exec) (hZ : Z.Warmed39 s.vm) (A : Av Z h a .byte n f) (q : ¬ j < 0) (r : j.toNatClampNeg < n) (hv : f j.toNatClampNeg = v) (hd : decode c.code pc = .ok (.baload, 1)) (hp : pc + 1 = pc')
    (k : Go p e s below n0 Q R T (mkF m pc' Ls (v :: S))) : Go p e s below n0 Q R T (mkF m pc Ls (.int j :: .ref a :: S)) := by
  subst hp hv
  obtain ⟨e0, hn, locs, Y, N⟩ := X
  obtain ⟨cl, Ar, S0, u⟩ := A
  exact stp (fun t y => Y.baloadBytes hx (by rw [e0]; exact Ar.1) (State.isArrayOf_alike hZ.alike Ar.2.1) Ar.2.2 (inn S0 q r) (u _ r) (g := mkF m pc Ls (.int j :: .ref a :: S)) rfl rfl hd t y) k
theorem ldR {a : Addr} {ty : FieldType} {n : Nat} {f : Nat → Value} {j : Int32} {v : Value} (X : Pn p l e R s m args below meth c T h n0 cells slots) (hx : p.tables.exec = Jvm.exec) (hZ : Z.Warmed39 s.vm) (A : Av Z h a ty n f) (hty : ty.isReference = true) (q : ¬ j < 0) (r : j.toNatClampNeg < n) (hv : f j.toNatClampNeg = v) (hd : decode c.code pc = .ok (.aaload, 1)) (hp : pc + 1 = pc')
    (k : Go p e s below n0 Q R T (mkF m pc' Ls (v :: S))) : Go p e s below n0 Q R T (mkF m pc Ls (.int j :: .ref a :: S)) := by
  subst hp hv
  obtain ⟨e0, hn, locs, Y, N⟩ := X
  obtain ⟨cl, Ar, S0, u⟩ := A
  exact stp (fun t y => Y.aaload hx (by rw [e0]; exact Ar.1) (State.isArrayOf_alike hZ.alike Ar.2.1) hty Ar.2.2 (inn S0 q r) (u _ r) (g := mkF m pc Ls (.int j :: .ref a :: S)) rfl rfl hd t y) k
theorem saI {a : Addr} {n : Nat} {f : Nat → Value} {j x : Int32} (X : Pn p l e R s m args below meth c T h n0 cells slots) (hx : p.tables.exec = Jvm.exec) (hZ : Z.Warmed39 s.vm) (A : Av Z h a .int n f) (ge : n0 ≤ a) (q : ¬ j < 0) (r : j.toNatClampNeg < n) (hd : decode c.code pc = .ok (.iastore, 1)) (hp : pc + 1 = pc')
    (k : ∀ T' h', Pn p l e R s m args below meth c T' h' n0 cells slots → Wr h h' a j.toNatClampNeg (.int x) → Go p e s below n0 Q R T' (mkF m pc' Ls S)) : Go p e s below n0 Q R T (mkF m pc Ls (.int x :: .int j :: .ref a :: S)) := by
  subst hp
  obtain ⟨e0, hn, locs, Y, N⟩ := X
  obtain ⟨cl, Ar, S0, u⟩ := A
  obtain ⟨T', h', Y', e', W', st⟩ := stI Y hx hZ e0 Ar (inn S0 q r) (g := mkF m pc Ls (.int x :: .int j :: .ref a :: S)) rfl rfl hd
  exact stp st (k T' h' ⟨e', hn, _, Y', Fr.snoc Y' N ge⟩ W')
theorem saJ {a : Addr} {n : Nat} {f : Nat → Value} {j : Int32} {x : Int64} (X : Pn p l e R s m args below meth c T h n0 cells slots) (hx : p.tables.exec = Jvm.exec) (hZ : Z.Warmed39 s.vm) (A : Av Z h a .long n f) (ge : n0 ≤ a) (q : ¬ j < 0) (r : j.toNatClampNeg < n) (hd : decode c.code pc = .ok (.lastore, 1)) (hp : pc + 1 = pc')
    (k : ∀ T' h', Pn p l e R s m args below meth c T' h' n0 cells slots → Wr h h' a j.toNatClampNeg (.long x) → Go p e s below n0 Q R T' (mkF m pc' Ls S)) : Go p e s below n0 Q R T (mkF m pc Ls (.long x :: .int j :: .ref a :: S)) := by
  subst hp
  obtain ⟨e0, hn, locs, Y, N⟩ := X
  obtain ⟨cl, Ar, S0, u⟩ := A
  obtain ⟨T', h', Y', e', W', st⟩ := stJ Y hx hZ e0 Ar (inn S0 q r) (g := mkF m pc Ls (.long x :: .int j :: .ref a :: S)) rfl rfl hd
  exact stp st (k T' h' ⟨e', hn, _, Y', Fr.snoc Y' N ge⟩ W')
theorem saB {a : Addr} {n : Nat} {f : Nat → Value} {j x : Int32} (X : Pn p l e R s m args below meth c T h n0 cells slots) (hx : p.tables.exec = Jvm.exec) (hZ : Z.Warmed39 s.vm) (A : Av Z h a .byte n f) (ge : n0 ≤ a) (q : ¬ j < 0) (r : j.toNatClampNeg < n) (hd : decode c.code pc = .ok (.bastore, 1)) (hp : pc + 1 = pc')
    (k : ∀ T' h', Pn p l e R s m args below meth c T' h' n0 cells slots → Wr h h' a j.toNatClampNeg (.int x.toInt8.toInt32) → Go p e s below n0 Q R T' (mkF m pc' Ls S)) : Go p e s below n0 Q R T (mkF m pc Ls (.int x :: .int j :: .ref a :: S)) := by
  subst hp
  obtain ⟨e0, hn, locs, Y, N⟩ := X
  obtain ⟨cl, Ar, S0, u⟩ := A
  obtain ⟨T', h', Y', e', W', st⟩ := stB Y hx hZ e0 Ar (inn S0 q r) (g := mkF m pc Ls (.int x :: .int j :: .ref a :: S)) rfl rfl hd
  exact stp st (k T' h' ⟨e', hn, _, Y', Fr.snoc Y' N ge⟩ W')
/-! arrays of references: the class is known too -/
def AvR (Z : State) (h : Heap) (a : Addr) (C : String) (n : Nat) (f : Nat → Value) : Prop := ∃ c : Cell, Arr Z h a c (.object C) ∧ Ovr Z c.cls C ∧ c.slots.size = n ∧ ∀ i, i < n → c.slots[i]? = some (f i)
theorem AvR.lt {a : Addr} {C : String} {n : Nat} {f : Nat → Value} (F : AvR Z h a C n f) : a < h.size := by obtain ⟨c, A, -⟩ := F; exact A.lt
theorem AvR.av {a : Addr} {C : String} {n : Nat} {f : Nat → Value} (F : AvR Z h a C n f) : Av Z h a (.object C) n f := by obtain ⟨c, A, -, r⟩ := F; exact ⟨c, A, r⟩
theorem AvR.ext {h' : Heap} {a : Addr} {C : String} {n : Nat} {f : Nat → Value} (F : AvR Z h a C n f) (E : Ext h h') : AvR Z h' a C n f := by obtain ⟨c, A, r⟩ := F; exact ⟨c, A.ext E, r⟩
theorem AvR.other {h' : Heap} {a b : Addr} {C : String} {n sl : Nat} {v : Value} {f : Nat → Value} (F : AvR Z h b C n f) (W : Wr h h' a sl v) (q : b ≠ a) : AvR Z h' b C n f := by obtain ⟨c, A, r⟩ := F; exact ⟨c, A.other W q, r⟩
theorem AvR.set {h' : Heap} {a : Addr} {C : String} {n k : Nat} {j : Int32} {v : Value} {f : Nat → Value} (e : j.toNatClampNeg = k) (F : AvR Z h a C n f) (W : Wr h h' a j.toNatClampNeg v) : AvR Z h' a C n (fun i => if i = k then v else f i) := by
  subst e
  obtain ⟨c, A, O, q, r⟩ := F
  refine ⟨c.setSlot j.toNatClampNeg v, A.same W, O, by rw [sz_set]; exact q, fun i hi => ?_⟩
  obtain ⟨c', e1, -, -, -, -, e6, e7⟩ := wr_at W A.1
  obtain ⟨e8, e9, -⟩ := e7 rfl
  by_cases hj : i = j.toNatClampNeg
  · subst hj; show _ = some (if j.toNatClampNeg = j.toNatClampNeg then v else f j.toNatClampNeg); rw [if_pos rfl, ← e8]; exact e9
  · show _ = some (if i = j.toNatClampNeg then v else f i); rw [if_neg hj, ← e8, e6 _ hj]; exact r i hi
theorem nr {own C : String} {index : Nat} {z : Int32} (cap : Nat) (X : Pn p l e R s m args below meth c T h n0 cells slots) (hx : p.tables.exec = Jvm.exec) (hZ : Z.Warmed39 s.vm) (hown : s.vm.findClass own = some m.cls) (w1 : (Cond.classLink own index C).before a0 Z = true) (w2 : (Cond.arrayOver (.object C)).before a0 Z = true) (hd : decode c.code pc = .ok (.anewarray index, 3)) (hp : pc + 3 = pc') (hz : ¬ z < 0) (hcap : z.toNatClampNeg ≤ cap) (hb : cap * 8 ≤ 536870912) (hc : cells + 1 ≤ R.cells) (hl : slots + cap ≤ R.slots)
    (k : ∀ T' h' b, Pn p l e R s m args below meth c T' h' n0 (cells + 1) (slots + cap) → b = h.size → n0 ≤ b → Ext h h' → AvR Z h' b C z.toNatClampNeg (fun _ => .null) → Go p e s below n0 Q R T' (mkF m pc' Ls (.ref b :: S))) :
    Go p e s below n0 Q R T (mkF m pc Ls (.int z :: S)) := by
  subst hp
  have q := X.le
  obtain ⟨e0, hn, locs, Y, N⟩ := X
  obtain ⟨T', h', k', Y', e', E', A', O', st⟩ := newR Y hx hZ hown w1 w2 e0 (g := mkF m pc Ls (.int z :: S)) rfl hd rfl hz hcap hb hc hl
  refine stp st (k T' h' _ ⟨e', hn, _, Y', N⟩ rfl q E' ⟨_, A', O', sz_new _ _ _, fun i hi => ?_⟩)
  simp [newA, hi, defaultValue]
theorem saR {a y : Addr} {C : String} {n : Nat} {f : Nat → Value} {j : Int32} (X : Pn p l e R s m args below meth c T h n0 cells slots) (hx : p.tables.exec = Jvm.exec) (hZ : Z.Warmed39 s.vm) (A : AvR Z h a C n f) (I : Ins Z h y C true) (ge : n0 ≤ a) (q : ¬ j < 0) (r : j.toNatClampNeg < n) (hd : decode c.code pc = .ok (.aastore, 1)) (hp : pc + 1 = pc')
    (k : ∀ T' h', Pn p l e R s m args below meth c T' h' n0 cells slots → Wr h h' a j.toNatClampNeg (.ref y) → Go p e s below n0 Q R T' (mkF m pc' Ls S)) : Go p e s below n0 Q R T (mkF m pc Ls (.ref y :: .int j :: .ref a :: S)) := by
  subst hp
  obtain ⟨e0, hn, locs, Y, N⟩ := X
  obtain ⟨cl, Ar, O, S0, u⟩ := A
  obtain ⟨T', h', Y', e', W', st⟩ := stR Y hx hZ e0 Ar (inn S0 q r) rfl (Sto.of Ar O I) (g := mkF m pc Ls (.ref y :: .int j :: .ref a :: S)) rfl rfl hd
  exact stp st (k T' h' ⟨e', hn, _, Y', Fr.snoc Y' N ge⟩ W')
theorem i_iadd {x y : Int32} (X : Pn p l e R s m args below meth c T h n0 cells slots) (hx : p.tables.exec = Jvm.exec) (hd : decode c.code pc = .ok (.iadd, 1)) (hp : pc + 1 = pc')
    (k : Go p e s below n0 Q R T (mkF m pc' Ls (.int (x + y) :: S))) : Go p e s below n0 Q R T (mkF m pc Ls (.int y :: .int x :: S)) := by subst hp; exact stp (fun _ q => XS.iadd X.here hx rfl hd rfl q) k
theorem i_isub {x y : Int32} (X : Pn p l e R s m args below meth c T h n0 cells slots) (hx : p.tables.exec = Jvm.exec) (hd : decode c.code pc = .ok (.isub, 1)) (hp : pc + 1 = pc')
    (k : Go p e s below n0 Q R T (mkF m pc' Ls (.int (x - y) :: S))) : Go p e s below n0 Q R T (mkF m pc Ls (.int y :: .int x :: S)) := by subst hp; exact stp (fun _ q => XS.isub X.here hx rfl hd rfl q) k
theorem i_imul {x y : Int32} (X : Pn p l e R s m args below meth c T h n0 cells slots) (hx : p.tables.exec = Jvm.exec) (hd : decode c.code pc = .ok (.imul, 1)) (hp : pc + 1 = pc')
    (k : Go p e s below n0 Q R T (mkF m pc' Ls (.int (x * y) :: S))) : Go p e s below n0 Q R T (mkF m pc Ls (.int y :: .int x :: S)) := by subst hp; exact stp (fun _ q => XS.imul X.here hx rfl hd rfl q) k
theorem i_iand {x y : Int32} (X : Pn p l e R s m args below meth c T h n0 cells slots) (hx : p.tables.exec = Jvm.exec) (hd : decode c.code pc = .ok (.iand, 1)) (hp : pc + 1 = pc')
    (k : Go p e s below n0 Q R T (mkF m pc' Ls (.int (x &&& y) :: S))) : Go p e s below n0 Q R T (mkF m pc Ls (.int y :: .int x :: S)) := by subst hp; exact stp (fun _ q => XS.iand X.here hx rfl hd rfl q) k
theorem i_ior {x y : Int32} (X : Pn p l e R s m args below meth c T h n0 cells slots) (hx : p.tables.exec = Jvm.exec) (hd : decode c.code pc = .ok (.ior, 1)) (hp : pc + 1 = pc')
    (k : Go p e s below n0 Q R T (mkF m pc' Ls (.int (x ||| y) :: S))) : Go p e s below n0 Q R T (mkF m pc Ls (.int y :: .int x :: S)) := by subst hp; exact stp (fun _ q => XT.ior X.here hx rfl hd rfl q) k
theorem i_ixor {x y : Int32} (X : Pn p l e R s m args below meth c T h n0 cells slots) (hx : p.tables.exec = Jvm.exec) (hd : decode c.code pc = .ok (.ixor, 1)) (hp : pc + 1 = pc')
    (k : Go p e s below n0 Q R T (mkF m pc' Ls (.int (x ^^^ y) :: S))) : Go p e s below n0 Q R T (mkF m pc Ls (.int y :: .int x :: S)) := by subst hp; exact stp (fun _ q => XT.ixor X.here hx rfl hd rfl q) k
theorem i_ishl {x y : Int32} (X : Pn p l e R s m args below meth c T h n0 cells slots) (hx : p.tables.exec = Jvm.exec) (hd : decode c.code pc = .ok (.ishl, 1)) (hp : pc + 1 = pc')
    (k : Go p e s below n0 Q R T (mkF m pc' Ls (.int (x <<< (y &&& 31)) :: S))) : Go p e s below n0 Q R T (mkF m pc Ls (.int y :: .int x :: S)) := by subst hp; exact stp (fun _ q => XT.ishl X.here hx rfl hd rfl q) k
theorem i_ishr {x y : Int32} (X : Pn p l e R s m args below meth c T h n0 cells slots) (hx : p.tables.exec = Jvm.exec) (hd : decode c.code pc = .ok (.ishr, 1)) (hp : pc + 1 = pc')
    (k : Go p e s below n0 Q R T (mkF m pc' Ls (.int (x >>> (y &&& 31)) :: S))) : Go p e s below n0 Q R T (mkF m pc Ls (.int y :: .int x :: S)) := by subst hp; exact stp (fun _ q => XT.ishr X.here hx rfl hd rfl q) k
theorem i_iushr {x y : Int32} (X : Pn p l e R s m args below meth c T h n0 cells slots) (hx : p.tables.exec = Jvm.exec) (hd : decode c.code pc = .ok (.iushr, 1)) (hp : pc + 1 = pc')
    (k : Go p e s below n0 Q R T (mkF m pc' Ls (.int (XT.ushr x y) :: S))) : Go p e s below n0 Q R T (mkF m pc Ls (.int y :: .int x :: S)) := by subst hp; exact stp (fun _ q => XT.iushr X.here hx rfl hd rfl q) k
theorem i_ladd {x y : Int64} (X : Pn p l e R s m args below meth c T h n0 cells slots) (hx : p.tables.exec = Jvm.exec) (hd : decode c.code pc = .ok (.ladd, 1)) (hp : pc + 1 = pc')
    (k : Go p e s below n0 Q R T (mkF m pc' Ls (.long (x + y) :: S))) : Go p e s below n0 Q R T (mkF m pc Ls (.long y :: .long x :: S)) := by subst hp; exact stp (fun _ q => XT.ladd X.here hx rfl hd rfl q) k
theorem i_lsub {x y : Int64} (X : Pn p l e R s m args below meth c T h n0 cells slots) (hx : p.tables.exec = Jvm.exec) (hd : decode c.code pc = .ok (.lsub, 1)) (hp : pc + 1 = pc')
    (k : Go p e s below n0 Q R T (mkF m pc' Ls (.long (x - y) :: S))) : Go p e s below n0 Q R T (mkF m pc Ls (.long y :: .long x :: S)) := by subst hp; exact stp (fun _ q => XT.lsub X.here hx rfl hd rfl q) k
theorem i_lmul {x y : Int64} (X : Pn p l e R s m args below meth c T h n0 cells slots) (hx : p.tables.exec = Jvm.exec) (hd : decode c.code pc = .ok (.lmul, 1)) (hp : pc + 1 = pc')
    (k : Go p e s below n0 Q R T (mkF m pc' Ls (.long (x * y) :: S))) : Go p e s below n0 Q R T (mkF m pc Ls (.long y :: .long x :: S)) := by subst hp; exact stp (fun _ q => XT.lmul X.here hx rfl hd rfl q) k
theorem i_land {x y : Int64} (X : Pn p l e R s m args below meth c T h n0 cells slots) (hx : p.tables.exec = Jvm.exec) (hd : decode c.code pc = .ok (.land, 1)) (hp : pc + 1 = pc')
    (k : Go p e s below n0 Q R T (mkF m pc' Ls (.long (x &&& y) :: S))) : Go p e s below n0 Q R T (mkF m pc Ls (.long y :: .long x :: S)) := by subst hp; exact stp (fun _ q => XT.land X.here hx rfl hd rfl q) k
theorem i_lor {x y : Int64} (X : Pn p l e R s m args below meth c T h n0 cells slots) (hx : p.tables.exec = Jvm.exec) (hd : decode c.code pc = .ok (.lor, 1)) (hp : pc + 1 = pc')
    (k : Go p e s below n0 Q R T (mkF m pc' Ls (.long (x ||| y) :: S))) : Go p e s below n0 Q R T (mkF m pc Ls (.long y :: .long x :: S)) := by subst hp; exact stp (fun _ q => XT.lor X.here hx rfl hd rfl q) k
theorem i_lxor {x y : Int64} (X : Pn p l e R s m args below meth c T h n0 cells slots) (hx : p.tables.exec = Jvm.exec) (hd : decode c.code pc = .ok (.lxor, 1)) (hp : pc + 1 = pc')
    (k : Go p e s below n0 Q R T (mkF m pc' Ls (.long (x ^^^ y) :: S))) : Go p e s below n0 Q R T (mkF m pc Ls (.long y :: .long x :: S)) := by subst hp; exact stp (fun _ q => XT.lxor X.here hx rfl hd rfl q) k
theorem i_lshl {x : Int64} {y : Int32} (X : Pn p l e R s m args below meth c T h n0 cells slots) (hx : p.tables.exec = Jvm.exec) (hd : decode c.code pc = .ok (.lshl, 1)) (hp : pc + 1 = pc')
    (k : Go p e s below n0 Q R T (mkF m pc' Ls (.long (x <<< (y.toInt64 &&& 63)) :: S))) : Go p e s below n0 Q R T (mkF m pc Ls (.int y :: .long x :: S)) := by subst hp; exact stp (fun _ q => XT.lshl X.here hx rfl hd rfl q) k
theorem i_lshr {x : Int64} {y : Int32} (X : Pn p l e R s m args below meth c T h n0 cells slots) (hx : p.tables.exec = Jvm.exec) (hd : decode c.code pc = .ok (.lshr, 1)) (hp : pc + 1 = pc')
    (k : Go p e s below n0 Q R T (mkF m pc' Ls (.long (x >>> (y.toInt64 &&& 63)) :: S))) : Go p e s below n0 Q R T (mkF m pc Ls (.int y :: .long x :: S)) := by subst hp; exact stp (fun _ q => XT.lshr X.here hx rfl hd rfl q) k
theorem i_lushr {x : Int64} {y : Int32} (X : Pn p l e R s m args below meth c T h n0 cells slots) (hx : p.tables.exec = Jvm.exec) (hd : decode c.code pc = .ok (.lushr, 1)) (hp : pc + 1 = pc')
    (k : Go p e s below n0 Q R T (mkF m pc' Ls (.long (XT.ushrL x y) :: S))) : Go p e s below n0 Q R T (mkF m pc Ls (.int y :: .long x :: S)) := by subst hp; exact stp (fun _ q => XT.lushr X.here hx rfl hd rfl q) k
theorem i_idiv {x y : Int32} (X : Pn p l e R s m args below meth c T h n0 cells slots) (hx : p.tables.exec = Jvm.exec) (hd : decode c.code pc = .ok (.idiv, 1)) (hp : pc + 1 = pc') (hy : y ≠ 0)
    (k : Go p e s below n0 Q R T (mkF m pc' Ls (.int (x / y) :: S))) : Go p e s below n0 Q R T (mkF m pc Ls (.int y :: .int x :: S)) := by subst hp; exact stp (fun _ q => XS.idiv X.here hx rfl hd rfl hy q) k
theorem i_ldiv {x y : Int64} (X : Pn p l e R s m args below meth c T h n0 cells slots) (hx : p.tables.exec = Jvm.exec) (hd : decode c.code pc = .ok (.ldiv, 1)) (hp : pc + 1 = pc') (hy : y ≠ 0)
    (k : Go p e s below n0 Q R T (mkF m pc' Ls (.long (x / y) :: S))) : Go p e s below n0 Q R T (mkF m pc Ls (.long y :: .long x :: S)) := by subst hp; exact stp (fun _ q => XT.ldiv X.here hx rfl hd rfl hy q) k
theorem i_lrem {x y : Int64} (X : Pn p l e R s m args below meth c T h n0 cells slots) (hx : p.tables.exec = Jvm.exec) (hd : decode c.code pc = .ok (.lrem, 1)) (hp : pc + 1 = pc') (hy : y ≠ 0)
    (k : Go p e s below n0 Q R T (mkF m pc' Ls (.long (x - (x / y) * y) :: S))) : Go p e s below n0 Q R T (mkF m pc Ls (.long y :: .long x :: S)) := by subst hp; exact stp (fun _ q => XT.lrem X.here hx rfl hd rfl hy q) k
theorem i_irem {x y : Int32} (X : Pn p l e R s m args below meth c T h n0 cells slots) (hx : p.tables.exec = Jvm.exec) (hd : decode c.code pc = .ok (.irem, 1)) (hp : pc + 1 = pc') (hy : y ≠ 0)
    (k : Go p e s below n0 Q R T (mkF m pc' Ls (.int (x % y) :: S))) : Go p e s below n0 Q R T (mkF m pc Ls (.int y :: .int x :: S)) := by subst hp; obtain ⟨e0, hn, locs, Y, N⟩ := X; exact stp (fun _ q => iremM Y hx rfl hd rfl hy q) k
theorem i_ineg {x : Int32} (X : Pn p l e R s m args below meth c T h n0 cells slots) (hx : p.tables.exec = Jvm.exec) (hd : decode c.code pc = .ok (.ineg, 1)) (hp : pc + 1 = pc')
    (k : Go p e s below n0 Q R T (mkF m pc' Ls (.int (-x) :: S))) : Go p e s below n0 Q R T (mkF m pc Ls (.int x :: S)) := by subst hp; exact stp (fun _ q => XS.ineg X.here hx rfl hd rfl q) k
theorem i_lneg {x : Int64} (X : Pn p l e R s m args below meth c T h n0 cells slots) (hx : p.tables.exec = Jvm.exec) (hd : decode c.code pc = .ok (.lneg, 1)) (hp : pc + 1 = pc')
    (k : Go p e s below n0 Q R T (mkF m pc' Ls (.long (-x) :: S))) : Go p e s below n0 Q R T (mkF m pc Ls (.long x :: S)) := by subst hp; exact stp (fun _ q => XT.lneg X.here hx rfl hd rfl q) k
theorem i_i2l {x : Int32} (X : Pn p l e R s m args below meth c T h n0 cells slots) (hx : p.tables.exec = Jvm.exec) (hd : decode c.code pc = .ok (.i2l, 1)) (hp : pc + 1 = pc')
    (k : Go p e s below n0 Q R T (mkF m pc' Ls (.long x.toInt64 :: S))) : Go p e s below n0 Q R T (mkF m pc Ls (.int x :: S)) := by subst hp; exact stp (fun _ q => XT.i2l X.here hx rfl hd rfl q) k
theorem i_l2i {x : Int64} (X : Pn p l e R s m args below meth c T h n0 cells slots) (hx : p.tables.exec = Jvm.exec) (hd : decode c.code pc = .ok (.l2i, 1)) (hp : pc + 1 = pc')
    (k : Go p e s below n0 Q R T (mkF m pc' Ls (.int x.toInt32 :: S))) : Go p e s below n0 Q R T (mkF m pc Ls (.long x :: S)) := by subst hp; exact stp (fun _ q => XT.l2i X.here hx rfl hd rfl q) k
theorem i_i2b {x : Int32} (X : Pn p l e R s m args below meth c T h n0 cells slots) (hx : p.tables.exec = Jvm.exec) (hd : decode c.code pc = .ok (.i2b, 1)) (hp : pc + 1 = pc')
    (k : Go p e s below n0 Q R T (mkF m pc' Ls (.int x.toInt8.toInt32 :: S))) : Go p e s below n0 Q R T (mkF m pc Ls (.int x :: S)) := by subst hp; exact stp (fun _ q => XT.i2b X.here hx rfl hd rfl q) k
theorem i_i2c {x : Int32} (X : Pn p l e R s m args below meth c T h n0 cells slots) (hx : p.tables.exec = Jvm.exec) (hd : decode c.code pc = .ok (.i2c, 1)) (hp : pc + 1 = pc')
    (k : Go p e s below n0 Q R T (mkF m pc' Ls (.int x.toUInt32.toUInt16.toUInt32.toInt32 :: S))) : Go p e s below n0 Q R T (mkF m pc Ls (.int x :: S)) := by subst hp; exact stp (fun _ q => XT.i2c X.here hx rfl hd rfl q) k
theorem i_i2s {x : Int32} (X : Pn p l e R s m args below meth c T h n0 cells slots) (hx : p.tables.exec = Jvm.exec) (hd : decode c.code pc = .ok (.i2s, 1)) (hp : pc + 1 = pc')
    (k : Go p e s below n0 Q R T (mkF m pc' Ls (.int x.toInt16.toInt32 :: S))) : Go p e s below n0 Q R T (mkF m pc Ls (.int x :: S)) := by subst hp; exact stp (fun _ q => XT.i2s X.here hx rfl hd rfl q) k
theorem i_lcmp {x y : Int64} (X : Pn p l e R s m args below meth c T h n0 cells slots) (hx : p.tables.exec = Jvm.exec) (hd : decode c.code pc = .ok (.lcmp, 1)) (hp : pc + 1 = pc')
    (k : Go p e s below n0 Q R T (mkF m pc' Ls (.int (XT.cmpL x y) :: S))) : Go p e s below n0 Q R T (mkF m pc Ls (.long y :: .long x :: S)) := by subst hp; exact stp (fun _ q => XT.lcmp X.here hx rfl hd rfl q) k
theorem i_aloadN {k : Fin 4} {v : Value} (X : Pn p l e R s m args below meth c T h n0 cells slots) (hx : p.tables.exec = Jvm.exec) (hd : decode c.code pc = .ok (.aload_n k, 1)) (hp : pc + 1 = pc') (hl : Ls[k.val]? = some (.val v)) (hv : v.isRef = true)
    (k : Go p e s below n0 Q R T (mkF m pc' Ls (v :: S))) : Go p e s below n0 Q R T (mkF m pc Ls S) := by subst hp; exact stp (fun _ q => XS.aloadN X.here hx rfl hd hl hv q) k
theorem i_aload {k : Nat} {v : Value} (X : Pn p l e R s m args below meth c T h n0 cells slots) (hx : p.tables.exec = Jvm.exec) (hd : decode c.code pc = .ok (.aload k, 2)) (hp : pc + 2 = pc') (hl : Ls[k]? = some (.val v)) (hv : v.isRef = true)
    (k : Go p e s below n0 Q R T (mkF m pc' Ls (v :: S))) : Go p e s below n0 Q R T (mkF m pc Ls S) := by subst hp; exact stp (fun _ q => XS.aload X.here hx rfl hd hl hv q) k
theorem i_iloadN {k : Fin 4} {v : Int32} (X : Pn p l e R s m args below meth c T h n0 cells slots) (hx : p.tables.exec = Jvm.exec) (hd : decode c.code pc = .ok (.iload_n k, 1)) (hp : pc + 1 = pc') (hl : Ls[k.val]? = some (.val (.int v)))
    (k : Go p e s below n0 Q R T (mkF m pc' Ls (.int v :: S))) : Go p e s below n0 Q R T (mkF m pc Ls S) := by subst hp; exact stp (fun _ q => XS.iloadN X.here hx rfl hd hl q) k
theorem i_iload {k : Nat} {v : Int32} (X : Pn p l e R s m args below meth c T h n0 cells slots) (hx : p.tables.exec = Jvm.exec) (hd : decode c.code pc = .ok (.iload k, 2)) (hp : pc + 2 = pc') (hl : Ls[k]? = some (.val (.int v)))
    (k : Go p e s below n0 Q R T (mkF m pc' Ls (.int v :: S))) : Go p e s below n0 Q R T (mkF m pc Ls S) := by subst hp; exact stp (fun _ q => XS.iload X.here hx rfl hd hl q) k
theorem i_lloadN {k : Fin 4} {v : Int64} (X : Pn p l e R s m args below meth c T h n0 cells slots) (hx : p.tables.exec = Jvm.exec) (hd : decode c.code pc = .ok (.lload_n k, 1)) (hp : pc + 1 = pc') (hl : Ls[k.val]? = some (.val (.long v)))
    (k : Go p e s below n0 Q R T (mkF m pc' Ls (.long v :: S))) : Go p e s below n0 Q R T (mkF m pc Ls S) := by subst hp; exact stp (fun _ q => XT.lloadN X.here hx rfl hd hl q) k
theorem i_lload {k : Nat} {v : Int64} (X : Pn p l e R s m args below meth c T h n0 cells slots) (hx : p.tables.exec = Jvm.exec) (hd : decode c.code pc = .ok (.lload k, 2)) (hp : pc + 2 = pc') (hl : Ls[k]? = some (.val (.long v)))
    (k : Go p e s below n0 Q R T (mkF m pc' Ls (.long v :: S))) : Go p e s below n0 Q R T (mkF m pc Ls S) := by subst hp; exact stp (fun _ q => XT.lload X.here hx rfl hd hl q) k
theorem i_istoreN {k : Fin 4} {x : Int32} {L' : Array Slot} (X : Pn p l e R s m args below meth c T h n0 cells slots) (hx : p.tables.exec = Jvm.exec) (hd : decode c.code pc = .ok (.istore_n k, 1)) (hp : pc + 1 = pc') (hl : storeLocals Ls k.val (.int x) = some L')
    (k : Go p e s below n0 Q R T (mkF m pc' L' S)) : Go p e s below n0 Q R T (mkF m pc Ls (.int x :: S)) := by subst hp; exact stp (fun _ q => XS.istoreN X.here hx rfl hd rfl hl q) k
theorem i_istore {k : Nat} {x : Int32} {L' : Array Slot} (X : Pn p l e R s m args below meth c T h n0 cells slots) (hx : p.tables.exec = Jvm.exec) (hd : decode c.code pc = .ok (.istore k, 2)) (hp : pc + 2 = pc') (hl : storeLocals Ls k (.int x) = some L')
    (k : Go p e s below n0 Q R T (mkF m pc' L' S)) : Go p e s below n0 Q R T (mkF m pc Ls (.int x :: S)) := by subst hp; exact stp (fun _ q => XS.istore X.here hx rfl hd rfl hl q) k
theorem i_lstoreN {k : Fin 4} {x : Int64} {L' : Array Slot} (X : Pn p l e R s m args below meth c T h n0 cells slots) (hx : p.tables.exec = Jvm.exec) (hd : decode c.code pc = .ok (.lstore_n k, 1)) (hp : pc + 1 = pc') (hl : storeLocals Ls k.val (.long x) = some L')
    (k : Go p e s below n0 Q R T (mkF m pc' L' S)) : Go p e s below n0 Q R T (mkF m pc Ls (.long x :: S)) := by subst hp; exact stp (fun _ q => XT.lstoreN X.here hx rfl hd rfl hl q) k
theorem i_lstore {k : Nat} {x : Int64} {L' : Array Slot} (X : Pn p l e R s m args below meth c T h n0 cells slots) (hx : p.tables.exec = Jvm.exec) (hd : decode c.code pc = .ok (.lstore k, 2)) (hp : pc + 2 = pc') (hl : storeLocals Ls k (.long x) = some L')
    (k : Go p e s below n0 Q R T (mkF m pc' L' S)) : Go p e s below n0 Q R T (mkF m pc Ls (.long x :: S)) := by subst hp; exact stp (fun _ q => XT.lstore X.here hx rfl hd rfl hl q) k
theorem i_astoreN {k : Fin 4} {x : Value} {L' : Array Slot} (X : Pn p l e R s m args below meth c T h n0 cells slots) (hx : p.tables.exec = Jvm.exec) (hd : decode c.code pc = .ok (.astore_n k, 1)) (hp : pc + 1 = pc') (hv : x.isRef = true) (hl : storeLocals Ls k.val x = some L')
    (k : Go p e s below n0 Q R T (mkF m pc' L' S)) : Go p e s below n0 Q R T (mkF m pc Ls (x :: S)) := by subst hp; exact stp (fun _ q => XS.astoreN X.here hx rfl hd rfl hv hl q) k
theorem i_astore {k : Nat} {x : Value} {L' : Array Slot} (X : Pn p l e R s m args below meth c T h n0 cells slots) (hx : p.tables.exec = Jvm.exec) (hd : decode c.code pc = .ok (.astore k, 2)) (hp : pc + 2 = pc') (hv : x.isRef = true) (hl : storeLocals Ls k x = some L')
    (k : Go p e s below n0 Q R T (mkF m pc' L' S)) : Go p e s below n0 Q R T (mkF m pc Ls (x :: S)) := by subst hp; exact stp (fun _ q => XS.astore X.here hx rfl hd rfl hv hl q) k
theorem i_iconst {i : Int} (v : Int32) (X : Pn p l e R s m args below meth c T h n0 cells slots) (hx : p.tables.exec = Jvm.exec) (hd : decode c.code pc = .ok (.iconst i, 1)) (hp : pc + 1 = pc') (hv : Int32.ofInt i = v)
    (k : Go p e s below n0 Q R T (mkF m pc' Ls (.int v :: S))) : Go p e s below n0 Q R T (mkF m pc Ls S) := by subst hp; exact stp (fun _ q => XT.iconstV X.here hx rfl v hd hv q) k
theorem i_bipush {i : Int} (v : Int32) (X : Pn p l e R s m args below meth c T h n0 cells slots) (hx : p.tables.exec = Jvm.exec) (hd : decode c.code pc = .ok (.bipush i, 2)) (hp : pc + 2 = pc') (hv : (Int8.ofInt i).toInt32 = v)
    (k : Go p e s below n0 Q R T (mkF m pc' Ls (.int v :: S))) : Go p e s below n0 Q R T (mkF m pc Ls S) := by subst hp; exact stp (fun _ q => XT.bipushV X.here hx rfl v hd hv q) k
theorem i_sipush {i : Int} (v : Int32) (X : Pn p l e R s m args below meth c T h n0 cells slots) (hx : p.tables.exec = Jvm.exec) (hd : decode c.code pc = .ok (.sipush i, 3)) (hp : pc + 3 = pc') (hv : (Int16.ofInt i).toInt32 = v)
    (k : Go p e s below n0 Q R T (mkF m pc' Ls (.int v :: S))) : Go p e s below n0 Q R T (mkF m pc Ls S) := by subst hp; exact stp (fun _ q => XT.sipushV X.here hx rfl v hd hv q) k
theorem i_lconst {i : Fin 2} (v : Int64) (X : Pn p l e R s m args below meth c T h n0 cells slots) (hx : p.tables.exec = Jvm.exec) (hd : decode c.code pc = .ok (.lconst i, 1)) (hp : pc + 1 = pc') (hv : Int64.ofNat i = v)
    (k : Go p e s below n0 Q R T (mkF m pc' Ls (.long v :: S))) : Go p e s below n0 Q R T (mkF m pc Ls S) := by subst hp; exact stp (fun _ q => XT.lconstV X.here hx rfl v hd hv q) k
theorem i_aconstNull (X : Pn p l e R s m args below meth c T h n0 cells slots) (hx : p.tables.exec = Jvm.exec) (hd : decode c.code pc = .ok (.aconst_null, 1)) (hp : pc + 1 = pc')
    (k : Go p e s below n0 Q R T (mkF m pc' Ls (.null :: S))) : Go p e s below n0 Q R T (mkF m pc Ls S) := by subst hp; exact stp (fun _ q => XS.aconstNull X.here hx rfl hd q) k
theorem i_iinc {i : Nat} {cst : Int} {x : Int32} {L' : Array Slot} (v : Int32) (X : Pn p l e R s m args below meth c T h n0 cells slots) (hx : p.tables.exec = Jvm.exec) (hd : decode c.code pc = .ok (.iinc i cst, 3)) (hp : pc + 3 = pc') (hv : Int32.ofInt cst = v) (hl : Ls[i]? = some (.val (.int x))) (hl' : storeLocals Ls i (.int (x + v)) = some L')
    (k : Go p e s below n0 Q R T (mkF m pc' L' S)) : Go p e s below n0 Q R T (mkF m pc Ls S) := by subst hp; exact stp (fun _ q => XT.iincV X.here hx rfl v hd hv hl hl' q) k
theorem i_ldc {own : String} {i : Nat} (v : Int32) (X : Pn p l e R s m args below meth c T h n0 cells slots) (hx : p.tables.exec = Jvm.exec) (hZ : Z.Warmed39 s.vm) (hown : s.vm.findClass own = some m.cls) (w : (Cond.constant own i v).before a0 Z = true) (hd : decode c.code pc = .ok (.ldc i, 2)) (hp : pc + 2 = pc')
    (k : Go p e s below n0 Q R T (mkF m pc' Ls (.int v :: S))) : Go p e s below n0 Q R T (mkF m pc Ls S) := by subst hp; obtain ⟨e0, hn, locs, Y, N⟩ := X; exact stp (fun _ q => Y.ldcI hx hown (mv hZ w) (g := mkF m pc Ls S) rfl hd q) k
theorem i_ldcW {own : String} {i : Nat} (v : Int32) (X : Pn p l e R s m args below meth c T h n0 cells slots) (hx : p.tables.exec = Jvm.exec) (hZ : Z.Warmed39 s.vm) (hown : s.vm.findClass own = some m.cls) (w : (Cond.constant own i v).before a0 Z = true) (hd : decode c.code pc = .ok (.ldc_w i, 3)) (hp : pc + 3 = pc')
    (k : Go p e s below n0 Q R T (mkF m pc' Ls (.int v :: S))) : Go p e s below n0 Q R T (mkF m pc Ls S) := by subst hp; obtain ⟨e0, hn, locs, Y, N⟩ := X; exact stp (fun _ q => Y.ldcWI hx hown (mv hZ w) (g := mkF m pc Ls S) rfl hd q) k
theorem i_ldc2 {own : String} {i : Nat} (v : Int64) (X : Pn p l e R s m args below meth c T h n0 cells slots) (hx : p.tables.exec = Jvm.exec) (hZ : Z.Warmed39 s.vm) (hown : s.vm.findClass own = some m.cls) (w : (Cond.constantLong own i v).before a0 Z = true) (hd : decode c.code pc = .ok (.ldc2_w i, 3)) (hp : pc + 3 = pc')
    (k : Go p e s below n0 Q R T (mkF m pc' Ls (.long v :: S))) : Go p e s below n0 Q R T (mkF m pc Ls S) := by subst hp; obtain ⟨e0, hn, locs, Y, N⟩ := X; exact stp (fun _ q => Y.ldc2J hx hown (mv hZ w) (g := mkF m pc Ls S) rfl hd q) k
theorem i_dup {x : Value} (X : Pn p l e R s m args below meth c T h n0 cells slots) (hx : p.tables.exec = Jvm.exec) (hd : decode c.code pc = .ok (.dup, 1)) (hp : pc + 1 = pc') (hc : x.category = 1)
    (k : Go p e s below n0 Q R T (mkF m pc' Ls (x :: x :: S))) : Go p e s below n0 Q R T (mkF m pc Ls (x :: S)) := by subst hp; exact stp (fun _ q => XS.dup X.here hx rfl hd rfl hc q) k
theorem i_pop {x : Value} (X : Pn p l e R s m args below meth c T h n0 cells slots) (hx : p.tables.exec = Jvm.exec) (hd : decode c.code pc = .ok (.pop, 1)) (hp : pc + 1 = pc') (hc : x.category = 1)
    (k : Go p e s below n0 Q R T (mkF m pc' Ls S)) : Go p e s below n0 Q R T (mkF m pc Ls (x :: S)) := by subst hp; exact stp (fun _ q => XT.pop X.here hx rfl hd rfl hc q) k
theorem i_dupX1 {x y : Value} (X : Pn p l e R s m args below meth c T h n0 cells slots) (hx : p.tables.exec = Jvm.exec) (hd : decode c.code pc = .ok (.dup_x1, 1)) (hp : pc + 1 = pc') (hc : x.category = 1) (hc' : y.category = 1)
    (k : Go p e s below n0 Q R T (mkF m pc' Ls (x :: y :: x :: S))) : Go p e s below n0 Q R T (mkF m pc Ls (x :: y :: S)) := by subst hp; exact stp (fun _ q => XT.dupX1 X.here hx rfl hd rfl hc hc' q) k
theorem i_dup2 {x y : Value} (X : Pn p l e R s m args below meth c T h n0 cells slots) (hx : p.tables.exec = Jvm.exec) (hd : decode c.code pc = .ok (.dup2, 1)) (hp : pc + 1 = pc') (hc : x.category = 1) (hc' : y.category = 1)
    (k : Go p e s below n0 Q R T (mkF m pc' Ls (x :: y :: x :: y :: S))) : Go p e s below n0 Q R T (mkF m pc Ls (x :: y :: S)) := by subst hp; exact stp (fun _ q => XT.dup2 X.here hx rfl hd rfl hc hc' q) k
theorem i_dup2L {x : Int64} (X : Pn p l e R s m args below meth c T h n0 cells slots) (hx : p.tables.exec = Jvm.exec) (hd : decode c.code pc = .ok (.dup2, 1)) (hp : pc + 1 = pc')
    (k : Go p e s below n0 Q R T (mkF m pc' Ls (.long x :: .long x :: S))) : Go p e s below n0 Q R T (mkF m pc Ls (.long x :: S)) := by subst hp; exact stp (fun _ q => XT.dup2L X.here hx rfl hd rfl q) k
theorem i_goto {o : Int} (X : Pn p l e R s m args below meth c T h n0 cells slots) (hx : p.tables.exec = Jvm.exec) (hd : decode c.code pc = .ok (.goto o, 3)) (ho : 0 ≤ (pc : Int) + o) (hp : ((pc : Int) + o).toNat = pc')
    (k : Go p e s below n0 Q R T (mkF m pc' Ls S)) : Go p e s below n0 Q R T (mkF m pc Ls S) := stp (fun _ q => XS.goto X.here hx rfl rfl hd ho hp q) k
theorem i_ifT {cd : ClassFile.Cond} {o : Int} {x : Int32} (X : Pn p l e R s m args below meth c T h n0 cells slots) (hx : p.tables.exec = Jvm.exec) (hd : decode c.code pc = .ok (.ifCond cd o, 3)) (hc : ifCond.holds cd x = true) (ho : 0 ≤ (pc : Int) + o) (hp : ((pc : Int) + o).toNat = pc')
    (k : Go p e s below n0 Q R T (mkF m pc' Ls S)) : Go p e s below n0 Q R T (mkF m pc Ls (.int x :: S)) := stp (fun _ q => XS.ifYes X.here hx rfl rfl hd rfl hc ho hp q) k
theorem i_ifF {cd : ClassFile.Cond} {o : Int} {x : Int32} (X : Pn p l e R s m args below meth c T h n0 cells slots) (hx : p.tables.exec = Jvm.exec) (hd : decode c.code pc = .ok (.ifCond cd o, 3)) (hp : pc + 3 = pc') (hc : ifCond.holds cd x = false)
    (k : Go p e s below n0 Q R T (mkF m pc' Ls S)) : Go p e s below n0 Q R T (mkF m pc Ls (.int x :: S)) := by subst hp; exact stp (fun _ q => XS.ifNo X.here hx rfl hd rfl hc q) k
theorem i_icT {cd : ClassFile.Cond} {o : Int} {x y : Int32} (X : Pn p l e R s m args below meth c T h n0 cells slots) (hx : p.tables.exec = Jvm.exec) (hd : decode c.code pc = .ok (.if_icmp cd o, 3)) (hc : if_icmp.holds cd x y = true) (ho : 0 ≤ (pc : Int) + o) (hp : ((pc : Int) + o).toNat = pc')
    (k : Go p e s below n0 Q R T (mkF m pc' Ls S)) : Go p e s below n0 Q R T (mkF m pc Ls (.int y :: .int x :: S)) := stp (fun _ q => XS.icmpYes X.here hx rfl rfl hd rfl hc ho hp q) k
theorem i_icF {cd : ClassFile.Cond} {o : Int} {x y : Int32} (X : Pn p l e R s m args below meth c T h n0 cells slots) (hx : p.tables.exec = Jvm.exec) (hd : decode c.code pc = .ok (.if_icmp cd o, 3)) (hp : pc + 3 = pc') (hc : if_icmp.holds cd x y = false)
    (k : Go p e s below n0 Q R T (mkF m pc' Ls S)) : Go p e s below n0 Q R T (mkF m pc Ls (.int y :: .int x :: S)) := by subst hp; exact stp (fun _ q => XS.icmpNo X.here hx rfl hd rfl hc q) k
theorem i_acT {cd : ClassFile.ACond} {o : Int} {x y : Value} (X : Pn p l e R s m args below meth c T h n0 cells slots) (hx : p.tables.exec = Jvm.exec) (hd : decode c.code pc = .ok (.if_acmp cd o, 3)) (hx' : x.isRef = true) (hy' : y.isRef = true) (hc : XT.acmp cd x y = true) (ho : 0 ≤ (pc : Int) + o) (hp : ((pc : Int) + o).toNat = pc')
    (k : Go p e s below n0 Q R T (mkF m pc' Ls S)) : Go p e s below n0 Q R T (mkF m pc Ls (y :: x :: S)) := stp (fun _ q => XT.acmpYes X.here hx rfl rfl hd rfl hx' hy' hc ho hp q) k
theorem i_acF {cd : ClassFile.ACond} {o : Int} {x y : Value} (X : Pn p l e R s m args below meth c T h n0 cells slots) (hx : p.tables.exec = Jvm.exec) (hd : decode c.code pc = .ok (.if_acmp cd o, 3)) (hp : pc + 3 = pc') (hx' : x.isRef = true) (hy' : y.isRef = true) (hc : XT.acmp cd x y = false)
    (k : Go p e s below n0 Q R T (mkF m pc' Ls S)) : Go p e s below n0 Q R T (mkF m pc Ls (y :: x :: S)) := by subst hp; exact stp (fun _ q => XT.acmpNo X.here hx rfl hd rfl hx' hy' hc q) k
theorem i_nuT {o : Int} {x : Value} (X : Pn p l e R s m args below meth c T h n0 cells slots) (hx : p.tables.exec = Jvm.exec) (hd : decode c.code pc = .ok (.ifnull o, 3)) (hv : x = .null) (ho : 0 ≤ (pc : Int) + o) (hp : ((pc : Int) + o).toNat = pc')
    (k : Go p e s below n0 Q R T (mkF m pc' Ls S)) : Go p e s below n0 Q R T (mkF m pc Ls (x :: S)) := stp (fun _ q => XT.nullYes X.here hx rfl rfl hd rfl hv ho hp q) k
theorem i_nuF {o : Int} {x : Value} (X : Pn p l e R s m args below meth c T h n0 cells slots) (hx : p.tables.exec = Jvm.exec) (hd : decode c.code pc = .ok (.ifnull o, 3)) (hp : pc + 3 = pc') (hr : x.isRef = true) (hv : ¬ x = .null)
    (k : Go p e s below n0 Q R T (mkF m pc' Ls S)) : Go p e s below n0 Q R T (mkF m pc Ls (x :: S)) := by subst hp; exact stp (fun _ q => XT.nullNo X.here hx rfl hd rfl hr hv q) k
theorem i_nnT {o : Int} {x : Value} (X : Pn p l e R s m args below meth c T h n0 cells slots) (hx : p.tables.exec = Jvm.exec) (hd : decode c.code pc = .ok (.ifnonnull o, 3)) (hr : x.isRef = true) (hv : ¬ x = .null) (ho : 0 ≤ (pc : Int) + o) (hp : ((pc : Int) + o).toNat = pc')
    (k : Go p e s below n0 Q R T (mkF m pc' Ls S)) : Go p e s below n0 Q R T (mkF m pc Ls (x :: S)) := stp (fun _ q => XT.nonnullYes X.here hx rfl rfl hd rfl hr hv ho hp q) k
theorem i_nnF {o : Int} {x : Value} (X : Pn p l e R s m args below meth c T h n0 cells slots) (hx : p.tables.exec = Jvm.exec) (hd : decode c.code pc = .ok (.ifnonnull o, 3)) (hp : pc + 3 = pc') (hv : x = .null)
    (k : Go p e s below n0 Q R T (mkF m pc' Ls S)) : Go p e s below n0 Q R T (mkF m pc Ls (x :: S)) := by subst hp; exact stp (fun _ q => XT.nonnullNo X.here hx rfl hd rfl hv q) k
theorem i_tsI {dflt low high : Int} {offs : Array Int} {ln : Nat} {o : Int} {x : Int32} (X : Pn p l e R s m args below meth c T h n0 cells slots) (hx : p.tables.exec = Jvm.exec) (hd : decode c.code pc = .ok (.tableswitch dflt low high offs, ln)) (hin : ¬ (x.toInt < low ∨ x.toInt > high)) (hoff : offs[(x.toInt - low).toNat]? = some o) (ho : 0 ≤ (pc : Int) + o) (hp : ((pc : Int) + o).toNat = pc')
    (k : Go p e s below n0 Q R T (mkF m pc' Ls S)) : Go p e s below n0 Q R T (mkF m pc Ls (.int x :: S)) := stp (fun _ q => XS.tswIn X.here hx rfl rfl hd rfl hin hoff ho hp q) k
theorem i_tsO {dflt low high : Int} {offs : Array Int} {ln : Nat} {x : Int32} (X : Pn p l e R s m args below meth c T h n0 cells slots) (hx : p.tables.exec = Jvm.exec) (hd : decode c.code pc = .ok (.tableswitch dflt low high offs, ln)) (hout : x.toInt < low ∨ x.toInt > high) (ho : 0 ≤ (pc : Int) + dflt) (hp : ((pc : Int) + dflt).toNat = pc')
    (k : Go p e s below n0 Q R T (mkF m pc' Ls S)) : Go p e s below n0 Q R T (mkF m pc Ls (.int x :: S)) := stp (fun _ q => XS.tswOut X.here hx rfl rfl hd rfl hout ho hp q) k
theorem own_irr (x : Int32) : ¬ x < x := Int32.lt_irrefl
theorem own_nar {t : FieldType} {w : Value} (h : w.isRef = true) : narrow t w = w := by rcases XT.refc h with rfl | ⟨_, rfl⟩ <;> cases t <;> rfl
theorem own_fitO {C : String} {w : Value} (h : w.isRef = true) : fits (.object C) w = true := by rcases XT.refc h with rfl | ⟨_, rfl⟩ <;> rfl
theorem own_fitA {t : FieldType} {w : Value} (h : w.isRef = true) : fits (.array t) w = true := by rcases XT.refc h with rfl | ⟨_, rfl⟩ <;> rfl
theorem own_sta_keep {h' : Heap} {ws : List Addr} {C n d : String} {v : Value} (F : Sta Z h C n d v) (K : Keep h h' ws) (q : ∀ (a : Addr) (cl : Cell), a ∈ ws → h[a]? = some cl → cl.vm.isStatics = false) : Sta Z h' C n d v := by
  obtain ⟨cf, i, k, f, st, cell, h1, h2, h3, h4, h5, h6, h7⟩ := F
  refine ⟨cf, i, k, f, st, cell, h1, h2, h3, h4, K.2.1 st cell h5 (fun hm => ?_), h6, h7⟩
  rw [q st cell hm h5] at h6; cases h6
theorem own_sw3 {x : Int32} (h0 : ¬ x = (0 : Int32)) (h1 : ¬ x = (1 : Int32)) (h2 : ¬ x = (2 : Int32)) : x.toInt < 0 ∨ x.toInt > 2 := by
  have a : ¬ x.toInt = 0 := fun q => h0 (Int32.toInt_inj.mp q)
  have b : ¬ x.toInt = 1 := fun q => h1 (Int32.toInt_inj.mp q)
  have c : ¬ x.toInt = 2 := fun q => h2 (Int32.toInt_inj.mp q)
  omega
def Two (a b : Slot) : Prop := (a = .unset ∧ b = .unset) ∨ ∃ z, a = .val (.long z) ∧ b = .second
theorem Two.u : Two .unset .unset := Or.inl ⟨rfl, rfl⟩
theorem Two.v (z : Int64) : Two (.val (.long z)) .second := Or.inr ⟨z, rfl, rfl⟩
theorem own_nar1 : nar .boolean 1 = 1 := by decide
theorem own_nar0 : nar .boolean 0 = 0 := by decide
end Own
end Jvm.OwnKit
namespace Jvm.Pilot.@@N@@
open Jvm Jvm.ClassFile Sem Op Lib Jvm.Free Jvm.Stand Jvm.LawKit Jvm.RoadKit Jvm.OwnKit Bundle Jvm.Pilot.@@N@@.Jvm.D
theorem own_ltL (x y : Int64) : x < y ↔ x.toInt < y.toInt := Int64.lt_iff_toInt_lt
theorem own_z : (0 : Int64).toInt = 0 := by decide
theorem own_o : (1 : Int64).toInt = 1 := by decide
def own_g (x y : Int64) : Nat := Nat.gcd x.toInt.toNat y.toInt.toNat
theorem own_nz {y : Int64} (h : ¬ y = 0) : ¬ y.toInt = 0 := fun q => h (Int64.toInt_inj.mp (by rw [q]; rfl))
theorem own_rem {x y : Int64} (hx : 0 ≤ x.toInt) : (x - (x / y) * y).toInt = x.toInt % y.toInt := (c_lrem x y _ rfl).1 hx
theorem own_div {x y : Int64} (hx : 0 ≤ x.toInt) (hy : 0 < y.toInt) : (x / y).toInt = x.toInt / y.toInt := (c_ldiv x y _ rfl (fun q => by rw [q] at hy; revert hy; decide)).1 hx
theorem own_grec {u v r : Int64} (hu : 0 ≤ u.toInt) (hv : 0 ≤ v.toInt) (hr : r = u - (u / v) * v) : own_g v r = own_g u v := by
  unfold own_g
  rw [hr, own_rem hu, Int.toNat_emod hu hv, Nat.gcd_comm u.toInt.toNat, Nat.gcd_rec v.toInt.toNat u.toInt.toNat, Nat.gcd_comm]
theorem own_less {u v r : Int64} (hu : 0 ≤ u.toInt) (hv : 0 ≤ v.toInt) (h0 : ¬ v = 0) (hr : r = u - (u / v) * v) : 0 ≤ r.toInt ∧ r.toInt < v.toInt := by
  have := own_nz h0
  rw [hr, own_rem hu]
  exact ⟨Int.emod_nonneg _ this, Int.emod_lt_of_pos _ (by omega)⟩
theorem own_g0 {u v : Int64} (hu : 0 ≤ u.toInt) (hv : v = 0) : u.toInt = (own_g u v : Int) := by
  subst hv; unfold own_g; rw [own_z]; show u.toInt = ((Nat.gcd u.toInt.toNat 0 : Nat) : Int); rw [Nat.gcd_zero_right]; omega
theorem own_gz {a b g : Int64} (hg : g.toInt = (own_g a b : Int)) (ha : a = 0) (hb : b = 0) : g = 0 := by
  subst ha hb; exact Int64.toInt_inj.mp (by rw [hg]; rfl)
theorem own_gp {a b g : Int64} (hg : g.toInt = (own_g a b : Int)) (ha : 0 ≤ a.toInt) (hb : 0 ≤ b.toInt) (h : ¬ a = 0 ∨ ¬ b = 0) : 0 < g.toInt := by
  rw [hg]
  have : 0 < own_g a b := by
    rcases h with h | h
    · exact Nat.gcd_pos_of_pos_left _ (by have := own_nz h; omega)
    · exact Nat.gcd_pos_of_pos_right _ (by have := own_nz h; omega)
  omega
theorem own_ne {g : Int64} (h : 0 < g.toInt) : g ≠ 0 := fun q => by rw [q, own_z] at h; omega
theorem own_lt0 {g : Int64} (h : 0 < g.toInt) : (0 : Int64) < g := (own_ltL _ _).mpr (by rw [own_z]; exact h)
theorem own_modN {x g : Int64} {n : Nat} (hx : 0 ≤ x.toInt) (hg : g.toInt = (n : Int)) (hd : n ∣ x.toInt.toNat) : x - (x / g) * g = 0 := by
  refine Int64.toInt_inj.mp ?_
  rw [own_rem hx, hg, own_z]
  obtain ⟨k, hk⟩ := hd
  have : x.toInt = (n : Int) * k := by have : x.toInt = (x.toInt.toNat : Int) := by omega
                                       rw [this, hk]; exact Int.natCast_mul n k
  rw [this]; exact Int.mul_emod_right _ _
theorem own_r1 {a b g : Int64} (hg : g.toInt = (own_g a b : Int)) (ha : 0 ≤ a.toInt) : a - (a / g) * g = 0 := own_modN ha hg (Nat.gcd_dvd_left _ _)
theorem own_r2 {a b g : Int64} (hg : g.toInt = (own_g a b : Int)) (hb : 0 ≤ b.toInt) : b - (b / g) * g = 0 := own_modN hb hg (Nat.gcd_dvd_right _ _)
theorem own_dn {x g : Int64} (hx : 0 ≤ x.toInt) (hg : 0 < g.toInt) : 0 ≤ (x / g).toInt := by rw [own_div hx hg]; exact Int.ediv_nonneg hx (by omega)
theorem own_tn {x : Int} (n : Nat) (h : 0 ≤ x) : (x / (n : Int)).toNat = x.toNat / n := by
  obtain ⟨X, rfl⟩ := Int.eq_ofNat_of_zero_le h
  rw [← Int.natCast_ediv, Int.toNat_natCast, Int.toNat_natCast]
theorem own_one {a b g q : Int64} (hg : g.toInt = (own_g a b : Int)) (ha : 0 ≤ a.toInt) (hb : 0 ≤ b.toInt) (hp : 0 < g.toInt) (hq : q.toInt = (own_g (a / g) (b / g) : Int)) : q = 1 := by
  refine Int64.toInt_inj.mp ?_
  rw [hq, own_o]
  unfold own_g
  rw [own_div ha hp, own_div hb hp, hg]
  have e1 : (a.toInt / (own_g a b : Int)).toNat = a.toInt.toNat / own_g a b := own_tn _ ha
  have e2 : (b.toInt / (own_g a b : Int)).toNat = b.toInt.toNat / own_g a b := own_tn _ hb
  rw [e1, e2]
  have : Nat.gcd (a.toInt.toNat / own_g a b) (b.toInt.toNat / own_g a b) = 1 := by
    unfold own_g
    rw [Nat.gcd_div (Nat.gcd_dvd_left _ _) (Nat.gcd_dvd_right _ _)]
    exact Nat.div_self (by rw [hg] at hp; unfold own_g at hp; omega)
  rw [this]; rfl
theorem own_sym {a b g q : Int64} (hg : g.toInt = (own_g a b : Int)) (hq : q.toInt = (own_g b a : Int)) : q = g := Int64.toInt_inj.mp (by rw [hq, hg]; unfold own_g; rw [Nat.gcd_comm])
theorem own_m63 (x : Int64) : 0 ≤ (x &&& (9223372036854775807 : Int64)).toInt := (c_andSL x _).2.2 (by decide)
theorem own_m31 (x : Int64) : 0 ≤ (x &&& (2147483647 : Int64)).toInt ∧ (x &&& (2147483647 : Int64)).toInt < 2147483648 := by
  rw [c_maskL x 2147483647 31 (by decide) (by decide)]; omega
theorem own_m32 (x : Int64) : 0 ≤ (x &&& (4294967295 : Int64)).toInt ∧ (x &&& (4294967295 : Int64)).toInt < 4294967296 := by
  rw [c_maskL x 4294967295 32 (by decide) (by decide)]; omega
theorem own_mul {d p : Int64} (hd : 0 ≤ d.toInt ∧ d.toInt < 2147483648) (hp : 0 ≤ p.toInt ∧ p.toInt < 4294967296) : (d * p).toInt = d.toInt * p.toInt ∧ 0 ≤ (d * p).toInt := by
  have h1 : 0 ≤ d.toInt * p.toInt := Int.mul_nonneg hd.1 hp.1
  have h2 : d.toInt * p.toInt ≤ 2147483647 * 4294967295 := Int.mul_le_mul (by omega) (by omega) hp.1 (by omega)
  have e : (d * p).toInt = d.toInt * p.toInt := XT.mul64 (by unfold XT.fits64; omega)
  exact ⟨e, by omega⟩
theorem own_dz {d p : Int64} (h : ¬ d * p = 0) : d ≠ 0 := fun q => h (by rw [q]; exact Int64.zero_mul)
theorem own_dvd {d p q h : Int64} (hd : 0 ≤ d.toInt ∧ d.toInt < 2147483648) (hp : 0 ≤ p.toInt ∧ p.toInt < 4294967296) (hq : 0 ≤ q.toInt ∧ q.toInt < 4294967296) (hh : h.toInt = (own_g (d * p) (d * q) : Int)) : h - (h / d) * d = 0 := by
  refine own_modN (n := d.toInt.toNat) (by omega) (by omega) ?_
  have : h.toInt.toNat = own_g (d * p) (d * q) := by omega
  rw [this]
  unfold own_g
  rw [(own_mul hd hp).1, (own_mul hd hq).1, Int.toNat_mul hd.1 hp.1, Int.toNat_mul hd.1 hq.1]
  exact Nat.dvd_gcd (Nat.dvd_mul_right _ _) (Nat.dvd_mul_right _ _)
theorem d1_0 : decode prog_30_method_9_code 0 = .ok (.lload_n 0, 1) := by decide +kernel
theorem d1_1 : decode prog_30_method_9_code 1 = .ok (.lstore 4, 2) := by decide +kernel
theorem d1_3 : decode prog_30_method_9_code 3 = .ok (.lload_n 2, 1) := by decide +kernel
theorem d1_4 : decode prog_30_method_9_code 4 = .ok (.lstore 6, 2) := by decide +kernel
theorem d1_6 : decode prog_30_method_9_code 6 = .ok (.lload 6, 2) := by decide +kernel
theorem d1_8 : decode prog_30_method_9_code 8 = .ok (.lconst 0, 1) := by decide +kernel
theorem d1_9 : decode prog_30_method_9_code 9 = .ok (.lcmp, 1) := by decide +kernel
theorem d1_10 : decode prog_30_method_9_code 10 = .ok (.ifCond .eq 21, 3) := by decide +kernel
theorem d1_13 : decode prog_30_method_9_code 13 = .ok (.lload 4, 2) := by decide +kernel
theorem d1_15 : decode prog_30_method_9_code 15 = .ok (.lload 6, 2) := by decide +kernel
theorem d1_17 : decode prog_30_method_9_code 17 = .ok (.lrem, 1) := by decide +kernel
theorem d1_18 : decode prog_30_method_9_code 18 = .ok (.lstore 8, 2) := by decide +kernel
theorem d1_20 : decode prog_30_method_9_code 20 = .ok (.lload 6, 2) := by decide +kernel
theorem d1_22 : decode prog_30_method_9_code 22 = .ok (.lstore 4, 2) := by decide +kernel
theorem d1_24 : decode prog_30_method_9_code 24 = .ok (.lload 8, 2) := by decide +kernel
theorem d1_26 : decode prog_30_method_9_code 26 = .ok (.lstore 6, 2) := by decide +kernel
theorem d1_28 : decode prog_30_method_9_code 28 = .ok (.goto (-22), 3) := by decide +kernel
theorem d1_31 : decode prog_30_method_9_code 31 = .ok (.lload 4, 2) := by decide +kernel
theorem d1_33 : decode prog_30_method_9_code 33 = .ok (.lreturn, 1) := by decide +kernel
theorem pn0 : plainName "com/example/window_throttle/windowthrottle/TokenBucket$Narrow" = true := by first | (simp [plainName, overriddenIn]; done) | decide +kernel
theorem ef_rm1 (m : MethodId) (x : Int64) (y : Int64) : entryFrame m #[(.long x), (.long y)] 10 = mkF m 0 #[.val (.long x), .second, .val (.long y), .second, .unset, .unset, .unset, .unset, .unset, .unset] [] := by first | (simp [entryFrame, mkF, argsToLocals, Value.category, maxLocals]; done) | rfl
def Qrm1 (Z : State) (x : Int64) (y : Int64) (n0 : Nat) (h0 : Heap) (v : Option Value) (h : Heap) : Prop := ∃ g : Int64, v = some (.long g) ∧ h0 = h ∧ (g.toInt = (own_g x y : Int))
abbrev Rrm1 : Room := { frames := 0, cells := 0, slots := 0, locals := 0 }
set_option maxRecDepth 65536 in
set_option maxHeartbeats 40000000 in
theorem rm1 (l : Launch) (Z : State) (a0 : Array Value) (hw : ∀ d ∈ tables_1, d.before a0 Z = true) (ws : List Jvm.Cond) (x : Int64) (y : Int64) (n0 : Nat) (h0 : Heap) (hn : n0 ≤ h0.size)  (hx0 : 0 ≤ x.toInt) (hy0 : 0 ≤ y.toInt) :
    Con l Z (⟨"com/example/window_throttle/windowthrottle/TokenBucket$Narrow", "gcd", "(JJ)J"⟩ : MethodName) prog_30_method_9_code 10 (some .long) ws Rrm1 #[(.long x), (.long y)] h0 n0 (Qrm1 Z x y n0 h0) := by
  refine body (y := (⟨"com/example/window_throttle/windowthrottle/TokenBucket$Narrow", "gcd", "(JJ)J"⟩ : MethodName)) (Ls := #[.val (.long x), .second, .val (.long y), .second, .unset, .unset, .unset, .unset, .unset, .unset]) (plainFor_of_name pn0) hn (fun m => ef_rm1 m x y) ?_
  intro p e s m below meth c T0 hx hby hml hown hnm hret hlk hZ X0
  refine i_lloadN (v := x) (pc' := 1) X0 hx (hb hby d1_0) rfl rfl ?_
  refine i_lstore (L' := #[.val (.long x), .second, .val (.long y), .second, .val (.long x), .second, .unset, .unset, .unset, .unset]) (pc' := 3) X0 hx (hb hby d1_1) rfl rfl ?_
  refine i_lloadN (v := y) (pc' := 4) X0 hx (hb hby d1_3) rfl rfl ?_
  refine i_lstore (L' := #[.val (.long x), .second, .val (.long y), .second, .val (.long x), .second, .val (.long y), .second, .unset, .unset]) (pc' := 6) X0 hx (hb hby d1_4) rfl rfl ?_
  have L1 : ∀ (k1 : Nat) (T1 : State) (u : Int64) (v : Int64) (s1_8 s1_9 : Slot) (_ : Two s1_8 s1_9), v.toInt.toNat = k1 → Pn p l e Rrm1 s m #[(.long x), (.long y)] below meth c T1 h0 n0 0 0 → 0 ≤ u.toInt → 0 ≤ v.toInt → own_g u v = own_g x y → Go p e s below n0 (Qrm1 Z x y n0 h0) Rrm1 T1 (mkF m 6 #[.val (.long x), .second, .val (.long y), .second, .val (.long u), .second, .val (.long v), .second, s1_8, s1_9] []) := by
    intro k1
    induction k1 using Nat.strongRecOn with
    | _ k1 ih1 =>
    intro T1 u v  s1_8 s1_9 o1_8 hk1 X1  ku kv kg
    refine i_lload (v := v) (pc' := 8) X1 hx (hb hby d1_6) rfl rfl ?_
    refine i_lconst (pc' := 9) (0 : Int64) X1 hx (hb hby d1_8) rfl (by decide) ?_
    refine i_lcmp (pc' := 10) X1 hx (hb hby d1_9) rfl ?_
    by_cases hc2 : v = (0 : Int64)
    · skip
      refine i_ifT (pc' := 31) X1 hx (hb hby d1_10) (XT.ll_eq_t hc2) (by decide) (by decide) ?_
      refine i_lload (v := u) (pc' := 33) X1 hx (hb hby d1_31) rfl rfl ?_
      refine rL X1 hx hlk hret (hb hby d1_33) (by decide) (by decide) ?_
      exact ⟨u, rfl, rfl, ((own_g0 ku hc2).trans (by rw [kg]))⟩
    · skip
      refine i_ifF (pc' := 13) X1 hx (hb hby d1_10) rfl (XT.ll_eq_f hc2) ?_
      refine i_lload (v := u) (pc' := 15) X1 hx (hb hby d1_13) rfl rfl ?_
      refine i_lload (v := v) (pc' := 17) X1 hx (hb hby d1_15) rfl rfl ?_
      refine i_lrem (pc' := 18) X1 hx (hb hby d1_17) rfl hc2 ?_
      obtain ⟨v3, hv3⟩ : ∃ zz : Int64, zz = (u - (u / v) * v) := ⟨_, rfl⟩
      rw [← hv3]
      refine i_lstore (L' := #[.val (.long x), .second, .val (.long y), .second, .val (.long u), .second, .val (.long v), .second, .val (.long v3), .second]) (pc' := 20) X1 hx (hb hby d1_18) rfl (by rcases o1_8 with ⟨rfl, rfl⟩ | ⟨_, rfl, rfl⟩ <;> rfl) ?_
      refine i_lload (v := v) (pc' := 22) X1 hx (hb hby d1_20) rfl rfl ?_
      refine i_lstore (L' := #[.val (.long x), .second, .val (.long y), .second, .val (.long v), .second, .val (.long v), .second, .val (.long v3), .second]) (pc' := 24) X1 hx (hb hby d1_22) rfl rfl ?_
      refine i_lload (v := v3) (pc' := 26) X1 hx (hb hby d1_24) rfl rfl ?_
      refine i_lstore (L' := #[.val (.long x), .second, .val (.long y), .second, .val (.long v), .second, .val (.long v3), .second, .val (.long v3), .second]) (pc' := 28) X1 hx (hb hby d1_26) rfl rfl ?_
      refine i_goto (pc' := 6) X1 hx (hb hby d1_28) (by decide) (by decide) ?_
      exact ih1 (v3.toInt.toNat) (by have := own_less ku kv hc2 hv3; rw [← hk1]; omega) _ v v3 _ _ (Two.v _) rfl (X1.mono (by decide) (by decide))  kv (own_less ku kv hc2 hv3).1 ((own_grec ku kv hv3).trans kg)
  exact L1 _ _ x y _ _ Two.u rfl (X0.mono (by decide) (by decide))  hx0 hy0 rfl
theorem pn1 : plainName "com/example/window_throttle/windowthrottle/NarrowGcdPinLaw" = true := by first | (simp [plainName, overriddenIn]; done) | decide +kernel
theorem ef_rm0 (m : MethodId) (p1 : Int64) (p2 : Int64) (p3 : Int32) (p4 : Int64) (p5 : Int64) : entryFrame m #[(.long p1), (.long p2), (.int p3), (.long p4), (.long p5)] maxLocals = mkF m 0 #[.val (.long p1), .second, .val (.long p2), .second, .val (.int p3), .val (.long p4), .second, .val (.long p5), .second, .unset, .unset, .unset, .unset, .unset, .unset, .unset, .unset, .unset, .unset, .unset, .unset, .unset, .unset, .unset, .unset, .unset, .unset, .unset, .unset] [] := by first | (simp [entryFrame, mkF, argsToLocals, Value.category, maxLocals]; done) | rfl
abbrev Q0 : Option Value → Heap → Prop := fun v _ => v = some (.int 1)
theorem pd0 : parseMethodDescriptor "(JJ)J" = some ⟨[.long, .long], some .long⟩ := by decide +kernel
set_option maxRecDepth 65536 in
set_option maxHeartbeats 40000000 in
theorem rm0 (l : Launch) (Z : State) (a0 : Array Value) (hw : ∀ d ∈ tables_1, d.before a0 Z = true) (ws : List Jvm.Cond) (p1 : Int64) (p2 : Int64) (p3 : Int32) (p4 : Int64) (p5 : Int64) (n0 : Nat) (h0 : Heap) (hn : n0 ≤ h0.size)   :
    Con l Z x code maxLocals ret ws room_1 #[(.long p1), (.long p2), (.int p3), (.long p4), (.long p5)] h0 n0 Q0 := by
  refine body (y := x) (Ls := #[.val (.long p1), .second, .val (.long p2), .second, .val (.int p3), .val (.long p4), .second, .val (.long p5), .second, .unset, .unset, .unset, .unset, .unset, .unset, .unset, .unset, .unset, .unset, .unset, .unset, .unset, .unset, .unset, .unset, .unset, .unset, .unset, .unset]) (plainFor_of_name pn1) hn (fun m => ef_rm0 m p1 p2 p3 p4 p5) ?_
  intro p e s m below meth c T0 hx hby hml hown hnm hret hlk hZ X0
  replace hown : s.vm.findClass "com/example/window_throttle/windowthrottle/NarrowGcdPinLaw" = some m.cls := hown
  replace hml : c.maxLocals = 29 := hml
  replace hret : meth.sig.returnType = (some .boolean) := hret
  refine i_lloadN (v := p1) (pc' := 1) X0 hx (hb hby at_0) rfl rfl ?_
  refine i_ldc2 (pc' := 4) (9223372036854775807 : Int64) X0 hx hZ hown (hw _ (List.mem_of_getElem? (i := 0) rfl)) (hb hby at_1) rfl ?_
  refine i_land (pc' := 5) X0 hx (hb hby at_4) rfl ?_
  obtain ⟨v1, hv1⟩ : ∃ zz : Int64, zz = (p1 &&& (9223372036854775807 : Int64)) := ⟨_, rfl⟩
  rw [← hv1]
  refine i_lstore (L' := #[.val (.long p1), .second, .val (.long p2), .second, .val (.int p3), .val (.long p4), .second, .val (.long p5), .second, .val (.long v1), .second, .unset, .unset, .unset, .unset, .unset, .unset, .unset, .unset, .unset, .unset, .unset, .unset, .unset, .unset, .unset, .unset, .unset, .unset]) (pc' := 7) X0 hx (hb hby at_5) rfl rfl ?_
  refine i_lloadN (v := p2) (pc' := 8) X0 hx (hb hby at_7) rfl rfl ?_
  refine i_ldc2 (pc' := 11) (9223372036854775807 : Int64) X0 hx hZ hown (hw _ (List.mem_of_getElem? (i := 0) rfl)) (hb hby at_8) rfl ?_
  refine i_land (pc' := 12) X0 hx (hb hby at_11) rfl ?_
  obtain ⟨v2, hv2⟩ : ∃ zz : Int64, zz = (p2 &&& (9223372036854775807 : Int64)) := ⟨_, rfl⟩
  rw [← hv2]
  refine i_lstore (L' := #[.val (.long p1), .second, .val (.long p2), .second, .val (.int p3), .val (.long p4), .second, .val (.long p5), .second, .val (.long v1), .second, .val (.long v2), .second, .unset, .unset, .unset, .unset, .unset, .unset, .unset, .unset, .unset, .unset, .unset, .unset, .unset, .unset, .unset, .unset]) (pc' := 14) X0 hx (hb hby at_12) rfl rfl ?_
  have ha : 0 ≤ v1.toInt := by rw [hv1]; exact own_m63 _
  have hbb : 0 ≤ v2.toInt := by rw [hv2]; exact own_m63 _
  refine i_lload (v := v1) (pc' := 16) X0 hx (hb hby at_14) rfl rfl ?_
  refine i_lload (v := v2) (pc' := 18) X0 hx (hb hby at_16) rfl rfl ?_
  refine cS (y := (⟨"com/example/window_throttle/windowthrottle/TokenBucket$Narrow", "gcd", "(JJ)J"⟩ : MethodName)) (rest := []) (pc' := 21) 0 [(.long v1), (.long v2)] X0 hx hZ hown (hw _ (List.mem_of_getElem? (i := 1) rfl)) (hw _ (List.mem_of_getElem? (i := 2) rfl)) (hw _ (List.mem_of_getElem? (i := 3) rfl)) (hw _ (List.mem_of_getElem? (i := 4) rfl)) (by decide) (rm1 l Z a0 hw [] v1 v2 n0 h0 X0.le ha hbb) (by decide) (by decide) (by rw [hml]; rfl) rfl (lenOf pd0 rfl) rfl (Nat.le_of_eq rfl) (hb hby at_18) rfl (by decide) (by decide) ?_
  intro r3 T3 h3 X3 q3
  obtain ⟨g3, rfl, eh3, p3_0⟩ := q3
  subst eh3
  show Go _ _ _ _ _ _ _ T3 (mkF m 21 #[.val (.long p1), .second, .val (.long p2), .second, .val (.int p3), .val (.long p4), .second, .val (.long p5), .second, .val (.long v1), .second, .val (.long v2), .second, .unset, .unset, .unset, .unset, .unset, .unset, .unset, .unset, .unset, .unset, .unset, .unset, .unset, .unset, .unset, .unset] [(.long g3)])
  refine i_lstore (L' := #[.val (.long p1), .second, .val (.long p2), .second, .val (.int p3), .val (.long p4), .second, .val (.long p5), .second, .val (.long v1), .second, .val (.long v2), .second, .val (.long g3), .second, .unset, .unset, .unset, .unset, .unset, .unset, .unset, .unset, .unset, .unset, .unset, .unset, .unset, .unset]) (pc' := 23) X3 hx (hb hby at_21) rfl rfl ?_
  have hg := p3_0
  have J4 : ∀ (T4 : State) (h4 : Heap), Pn p l e room_1 s m #[(.long p1), (.long p2), (.int p3), (.long p4), (.long p5)] below meth c T4 h4 n0 0 0 → Keep h0 h4 [] → Go p e s below n0 Q0 room_1 T4 (mkF m 119 #[.val (.long p1), .second, .val (.long p2), .second, .val (.int p3), .val (.long p4), .second, .val (.long p5), .second, .val (.long v1), .second, .val (.long v2), .second, .val (.long g3), .second, .val (.int (1 : Int32)), .unset, .unset, .unset, .unset, .unset, .unset, .unset, .unset, .unset, .unset, .unset, .unset, .unset] []) := by
    intro T4 h4   X4 K4  
    refine i_iload (v := p3) (pc' := 121) X4 hx (hb hby at_119) rfl rfl ?_
    refine i_i2l (pc' := 122) X4 hx (hb hby at_121) rfl ?_
    refine i_ldc2 (pc' := 125) (2147483647 : Int64) X4 hx hZ hown (hw _ (List.mem_of_getElem? (i := 5) rfl)) (hb hby at_122) rfl ?_
    refine i_land (pc' := 126) X4 hx (hb hby at_125) rfl ?_
    obtain ⟨v5, hv5⟩ : ∃ zz : Int64, zz = ((p3.toInt64) &&& (2147483647 : Int64)) := ⟨_, rfl⟩
    rw [← hv5]
    refine i_lstore (L' := #[.val (.long p1), .second, .val (.long p2), .second, .val (.int p3), .val (.long p4), .second, .val (.long p5), .second, .val (.long v1), .second, .val (.long v2), .second, .val (.long g3), .second, .val (.int (1 : Int32)), .val (.long v5), .second, .unset, .unset, .unset, .unset, .unset, .unset, .unset, .unset, .unset, .unset, .unset]) (pc' := 128) X4 hx (hb hby at_126) rfl rfl ?_
    refine i_lload (v := p4) (pc' := 130) X4 hx (hb hby at_128) rfl rfl ?_
    refine i_ldc2 (pc' := 133) (4294967295 : Int64) X4 hx hZ hown (hw _ (List.mem_of_getElem? (i := 6) rfl)) (hb hby at_130) rfl ?_
    refine i_land (pc' := 134) X4 hx (hb hby at_133) rfl ?_
    obtain ⟨v6, hv6⟩ : ∃ zz : Int64, zz = (p4 &&& (4294967295 : Int64)) := ⟨_, rfl⟩
    rw [← hv6]
    refine i_lstore (L' := #[.val (.long p1), .second, .val (.long p2), .second, .val (.int p3), .val (.long p4), .second, .val (.long p5), .second, .val (.long v1), .second, .val (.long v2), .second, .val (.long g3), .second, .val (.int (1 : Int32)), .val (.long v5), .second, .val (.long v6), .second, .unset, .unset, .unset, .unset, .unset, .unset, .unset, .unset, .unset]) (pc' := 136) X4 hx (hb hby at_134) rfl rfl ?_
    refine i_lload (v := p5) (pc' := 138) X4 hx (hb hby at_136) rfl rfl ?_
    refine i_ldc2 (pc' := 141) (4294967295 : Int64) X4 hx hZ hown (hw _ (List.mem_of_getElem? (i := 6) rfl)) (hb hby at_138) rfl ?_
    refine i_land (pc' := 142) X4 hx (hb hby at_141) rfl ?_
    obtain ⟨v7, hv7⟩ : ∃ zz : Int64, zz = (p5 &&& (4294967295 : Int64)) := ⟨_, rfl⟩
    rw [← hv7]
    refine i_lstore (L' := #[.val (.long p1), .second, .val (.long p2), .second, .val (.int p3), .val (.long p4), .second, .val (.long p5), .second, .val (.long v1), .second, .val (.long v2), .second, .val (.long g3), .second, .val (.int (1 : Int32)), .val (.long v5), .second, .val (.long v6), .second, .val (.long v7), .second, .unset, .unset, .unset, .unset, .unset, .unset, .unset]) (pc' := 144) X4 hx (hb hby at_142) rfl rfl ?_
    have hd := own_m31 (p3.toInt64)
    rw [← hv5] at hd
    have hp := own_m32 p4
    rw [← hv6] at hp
    have hq := own_m32 p5
    rw [← hv7] at hq
    refine i_lload (v := v5) (pc' := 146) X4 hx (hb hby at_144) rfl rfl ?_
    refine i_lload (v := v6) (pc' := 148) X4 hx (hb hby at_146) rfl rfl ?_
    refine i_lmul (pc' := 149) X4 hx (hb hby at_148) rfl ?_
    obtain ⟨v8, hv8⟩ : ∃ zz : Int64, zz = (v5 * v6) := ⟨_, rfl⟩
    rw [← hv8]
    refine i_lstore (L' := #[.val (.long p1), .second, .val (.long p2), .second, .val (.int p3), .val (.long p4), .second, .val (.long p5), .second, .val (.long v1), .second, .val (.long v2), .second, .val (.long g3), .second, .val (.int (1 : Int32)), .val (.long v5), .second, .val (.long v6), .second, .val (.long v7), .second, .val (.long v8), .second, .unset, .unset, .unset, .unset, .unset]) (pc' := 151) X4 hx (hb hby at_149) rfl rfl ?_
    refine i_lload (v := v5) (pc' := 153) X4 hx (hb hby at_151) rfl rfl ?_
    refine i_lload (v := v7) (pc' := 155) X4 hx (hb hby at_153) rfl rfl ?_
    refine i_lmul (pc' := 156) X4 hx (hb hby at_155) rfl ?_
    obtain ⟨v9, hv9⟩ : ∃ zz : Int64, zz = (v5 * v7) := ⟨_, rfl⟩
    rw [← hv9]
    refine i_lstore (L' := #[.val (.long p1), .second, .val (.long p2), .second, .val (.int p3), .val (.long p4), .second, .val (.long p5), .second, .val (.long v1), .second, .val (.long v2), .second, .val (.long g3), .second, .val (.int (1 : Int32)), .val (.long v5), .second, .val (.long v6), .second, .val (.long v7), .second, .val (.long v8), .second, .val (.long v9), .second, .unset, .unset, .unset]) (pc' := 158) X4 hx (hb hby at_156) rfl rfl ?_
    refine i_lload (v := v8) (pc' := 160) X4 hx (hb hby at_158) rfl rfl ?_
    refine i_lload (v := v9) (pc' := 162) X4 hx (hb hby at_160) rfl rfl ?_
    refine cS (y := (⟨"com/example/window_throttle/windowthrottle/TokenBucket$Narrow", "gcd", "(JJ)J"⟩ : MethodName)) (rest := []) (pc' := 165) 0 [(.long v8), (.long v9)] X4 hx hZ hown (hw _ (List.mem_of_getElem? (i := 1) rfl)) (hw _ (List.mem_of_getElem? (i := 2) rfl)) (hw _ (List.mem_of_getElem? (i := 3) rfl)) (hw _ (List.mem_of_getElem? (i := 4) rfl)) (by decide) (rm1 l Z a0 hw [] v8 v9 n0 h4 X4.le (by rw [hv8]; exact (own_mul hd hp).2) (by rw [hv9]; exact (own_mul hd hq).2)) (by decide) (by decide) (by rw [hml]; rfl) rfl (lenOf pd0 rfl) rfl (Nat.le_of_eq rfl) (hb hby at_162) rfl (by decide) (by decide) ?_
    intro r10 T10 h10 X10 q10
    obtain ⟨g10, rfl, eh10, p10_0⟩ := q10
    subst eh10
    show Go _ _ _ _ _ _ _ T10 (mkF m 165 #[.val (.long p1), .second, .val (.long p2), .second, .val (.int p3), .val (.long p4), .second, .val (.long p5), .second, .val (.long v1), .second, .val (.long v2), .second, .val (.long g3), .second, .val (.int (1 : Int32)), .val (.long v5), .second, .val (.long v6), .second, .val (.long v7), .second, .val (.long v8), .second, .val (.long v9), .second, .unset, .unset, .unset] [(.long g10)])
    refine i_lstore (L' := #[.val (.long p1), .second, .val (.long p2), .second, .val (.int p3), .val (.long p4), .second, .val (.long p5), .second, .val (.long v1), .second, .val (.long v2), .second, .val (.long g3), .second, .val (.int (1 : Int32)), .val (.long v5), .second, .val (.long v6), .second, .val (.long v7), .second, .val (.long v8), .second, .val (.long v9), .second, .val (.long g10), .second, .unset]) (pc' := 167) X10 hx (hb hby at_165) rfl rfl ?_
    have hh := p10_0
    have hxn : 0 ≤ v8.toInt := by rw [hv8]; exact (own_mul hd hp).2
    have hyn : 0 ≤ v9.toInt := by rw [hv9]; exact (own_mul hd hq).2
    refine i_lload (v := v8) (pc' := 169) X10 hx (hb hby at_167) rfl rfl ?_
    refine i_lconst (pc' := 170) (0 : Int64) X10 hx (hb hby at_169) rfl (by decide) ?_
    refine i_lcmp (pc' := 171) X10 hx (hb hby at_170) rfl ?_
    by_cases hc11 : v8 = (0 : Int64)
    · skip
      refine i_ifF (pc' := 174) X10 hx (hb hby at_171) rfl (XT.ll_ne_f hc11) ?_
      refine i_lload (v := v9) (pc' := 176) X10 hx (hb hby at_174) rfl rfl ?_
      refine i_lconst (pc' := 177) (0 : Int64) X10 hx (hb hby at_176) rfl (by decide) ?_
      refine i_lcmp (pc' := 178) X10 hx (hb hby at_177) rfl ?_
      by_cases hc12 : v9 = (0 : Int64)
      · skip
        refine i_ifF (pc' := 181) X10 hx (hb hby at_178) rfl (XT.ll_ne_f hc12) ?_
        refine i_lload (v := g10) (pc' := 183) X10 hx (hb hby at_181) rfl rfl ?_
        refine i_lconst (pc' := 184) (0 : Int64) X10 hx (hb hby at_183) rfl (by decide) ?_
        refine i_lcmp (pc' := 185) X10 hx (hb hby at_184) rfl ?_
        refine i_ifF (pc' := 188) X10 hx (hb hby at_185) rfl (XT.ll_ne_f (own_gz hh hc11 hc12)) ?_
        refine i_iconst (pc' := 189) (1 : Int32) X10 hx (hb hby at_188) rfl (by decide) ?_
        refine i_goto (pc' := 193) X10 hx (hb hby at_189) (by decide) (by decide) ?_
        refine i_istore (L' := #[.val (.long p1), .second, .val (.long p2), .second, .val (.int p3), .val (.long p4), .second, .val (.long p5), .second, .val (.long v1), .second, .val (.long v2), .second, .val (.long g3), .second, .val (.int (1 : Int32)), .val (.long v5), .second, .val (.long v6), .second, .val (.long v7), .second, .val (.long v8), .second, .val (.long v9), .second, .val (.long g10), .second, .val (.int (1 : Int32))]) (pc' := 195) X10 hx (hb hby at_193) rfl rfl ?_
        refine i_goto (pc' := 242) X10 hx (hb hby at_195) (by decide) (by decide) ?_
        refine i_iload (v := (1 : Int32)) (pc' := 244) X10 hx (hb hby at_242) rfl rfl ?_
        refine i_ifF (pc' := 247) X10 hx (hb hby at_244) rfl (XT.i0_eq_f (by decide)) ?_
        refine i_iload (v := (1 : Int32)) (pc' := 249) X10 hx (hb hby at_247) rfl rfl ?_
        refine i_ifF (pc' := 252) X10 hx (hb hby at_249) rfl (XT.i0_eq_f (by decide)) ?_
        refine i_iconst (pc' := 253) (1 : Int32) X10 hx (hb hby at_252) rfl (by decide) ?_
        refine i_goto (pc' := 257) X10 hx (hb hby at_253) (by decide) (by decide) ?_
        refine rN X10 hx hlk hret (by simp) (hb hby at_257) (by decide) (by decide) ?_
        exact rfl
      · skip
        refine i_ifT (pc' := 198) X10 hx (hb hby at_178) (XT.ll_ne_t hc12) (by decide) (by decide) ?_
        have hhp := own_gp hh hxn hyn (Or.inr hc12)
        have hdz := own_dz (fun q => hc12 ((hv9).trans q))
        refine i_lload (v := g10) (pc' := 200) X10 hx (hb hby at_198) rfl rfl ?_
        refine i_lconst (pc' := 201) (0 : Int64) X10 hx (hb hby at_200) rfl (by decide) ?_
        refine i_lcmp (pc' := 202) X10 hx (hb hby at_201) rfl ?_
        refine i_ifF (pc' := 205) X10 hx (hb hby at_202) rfl (XT.ll_le_f (own_lt0 hhp)) ?_
        refine i_lload (v := v8) (pc' := 207) X10 hx (hb hby at_205) rfl rfl ?_
        refine i_lload (v := g10) (pc' := 209) X10 hx (hb hby at_207) rfl rfl ?_
        refine i_lrem (pc' := 210) X10 hx (hb hby at_209) rfl (own_ne hhp) ?_
        refine i_lconst (pc' := 211) (0 : Int64) X10 hx (hb hby at_210) rfl (by decide) ?_
        refine i_lcmp (pc' := 212) X10 hx (hb hby at_211) rfl ?_
        refine i_ifF (pc' := 215) X10 hx (hb hby at_212) rfl (XT.ll_ne_f (own_r1 hh hxn)) ?_
        refine i_lload (v := v9) (pc' := 217) X10 hx (hb hby at_215) rfl rfl ?_
        refine i_lload (v := g10) (pc' := 219) X10 hx (hb hby at_217) rfl rfl ?_
        refine i_lrem (pc' := 220) X10 hx (hb hby at_219) rfl (own_ne hhp) ?_
        refine i_lconst (pc' := 221) (0 : Int64) X10 hx (hb hby at_220) rfl (by decide) ?_
        refine i_lcmp (pc' := 222) X10 hx (hb hby at_221) rfl ?_
        refine i_ifF (pc' := 225) X10 hx (hb hby at_222) rfl (XT.ll_ne_f (own_r2 hh hyn)) ?_
        refine i_lload (v := g10) (pc' := 227) X10 hx (hb hby at_225) rfl rfl ?_
        refine i_lload (v := v5) (pc' := 229) X10 hx (hb hby at_227) rfl rfl ?_
        refine i_lrem (pc' := 230) X10 hx (hb hby at_229) rfl hdz ?_
        refine i_lconst (pc' := 231) (0 : Int64) X10 hx (hb hby at_230) rfl (by decide) ?_
        refine i_lcmp (pc' := 232) X10 hx (hb hby at_231) rfl ?_
        refine i_ifF (pc' := 235) X10 hx (hb hby at_232) rfl (XT.ll_ne_f (own_dvd hd hp hq (by have q := hh; rw [hv8, hv9] at q; exact q))) ?_
        refine i_iconst (pc' := 236) (1 : Int32) X10 hx (hb hby at_235) rfl (by decide) ?_
        refine i_goto (pc' := 240) X10 hx (hb hby at_236) (by decide) (by decide) ?_
        refine i_istore (L' := #[.val (.long p1), .second, .val (.long p2), .second, .val (.int p3), .val (.long p4), .second, .val (.long p5), .second, .val (.long v1), .second, .val (.long v2), .second, .val (.long g3), .second, .val (.int (1 : Int32)), .val (.long v5), .second, .val (.long v6), .second, .val (.long v7), .second, .val (.long v8), .second, .val (.long v9), .second, .val (.long g10), .second, .val (.int (1 : Int32))]) (pc' := 242) X10 hx (hb hby at_240) rfl rfl ?_
        refine i_iload (v := (1 : Int32)) (pc' := 244) X10 hx (hb hby at_242) rfl rfl ?_
        refine i_ifF (pc' := 247) X10 hx (hb hby at_244) rfl (XT.i0_eq_f (by decide)) ?_
        refine i_iload (v := (1 : Int32)) (pc' := 249) X10 hx (hb hby at_247) rfl rfl ?_
        refine i_ifF (pc' := 252) X10 hx (hb hby at_249) rfl (XT.i0_eq_f (by decide)) ?_
        refine i_iconst (pc' := 253) (1 : Int32) X10 hx (hb hby at_252) rfl (by decide) ?_
        refine i_goto (pc' := 257) X10 hx (hb hby at_253) (by decide) (by decide) ?_
        refine rN X10 hx hlk hret (by simp) (hb hby at_257) (by decide) (by decide) ?_
        exact rfl
    · skip
      refine i_ifT (pc' := 198) X10 hx (hb hby at_171) (XT.ll_ne_t hc11) (by decide) (by decide) ?_
      have hhp := own_gp hh hxn hyn (Or.inl hc11)
      have hdz := own_dz (fun q => hc11 ((hv8).trans q))
      refine i_lload (v := g10) (pc' := 200) X10 hx (hb hby at_198) rfl rfl ?_
      refine i_lconst (pc' := 201) (0 : Int64) X10 hx (hb hby at_200) rfl (by decide) ?_
      refine i_lcmp (pc' := 202) X10 hx (hb hby at_201) rfl ?_
      refine i_ifF (pc' := 205) X10 hx (hb hby at_202) rfl (XT.ll_le_f (own_lt0 hhp)) ?_
      refine i_lload (v := v8) (pc' := 207) X10 hx (hb hby at_205) rfl rfl ?_
      refine i_lload (v := g10) (pc' := 209) X10 hx (hb hby at_207) rfl rfl ?_
      refine i_lrem (pc' := 210) X10 hx (hb hby at_209) rfl (own_ne hhp) ?_
      refine i_lconst (pc' := 211) (0 : Int64) X10 hx (hb hby at_210) rfl (by decide) ?_
      refine i_lcmp (pc' := 212) X10 hx (hb hby at_211) rfl ?_
      refine i_ifF (pc' := 215) X10 hx (hb hby at_212) rfl (XT.ll_ne_f (own_r1 hh hxn)) ?_
      refine i_lload (v := v9) (pc' := 217) X10 hx (hb hby at_215) rfl rfl ?_
      refine i_lload (v := g10) (pc' := 219) X10 hx (hb hby at_217) rfl rfl ?_
      refine i_lrem (pc' := 220) X10 hx (hb hby at_219) rfl (own_ne hhp) ?_
      refine i_lconst (pc' := 221) (0 : Int64) X10 hx (hb hby at_220) rfl (by decide) ?_
      refine i_lcmp (pc' := 222) X10 hx (hb hby at_221) rfl ?_
      refine i_ifF (pc' := 225) X10 hx (hb hby at_222) rfl (XT.ll_ne_f (own_r2 hh hyn)) ?_
      refine i_lload (v := g10) (pc' := 227) X10 hx (hb hby at_225) rfl rfl ?_
      refine i_lload (v := v5) (pc' := 229) X10 hx (hb hby at_227) rfl rfl ?_
      refine i_lrem (pc' := 230) X10 hx (hb hby at_229) rfl hdz ?_
      refine i_lconst (pc' := 231) (0 : Int64) X10 hx (hb hby at_230) rfl (by decide) ?_
      refine i_lcmp (pc' := 232) X10 hx (hb hby at_231) rfl ?_
      refine i_ifF (pc' := 235) X10 hx (hb hby at_232) rfl (XT.ll_ne_f (own_dvd hd hp hq (by have q := hh; rw [hv8, hv9] at q; exact q))) ?_
      refine i_iconst (pc' := 236) (1 : Int32) X10 hx (hb hby at_235) rfl (by decide) ?_
      refine i_goto (pc' := 240) X10 hx (hb hby at_236) (by decide) (by decide) ?_
      refine i_istore (L' := #[.val (.long p1), .second, .val (.long p2), .second, .val (.int p3), .val (.long p4), .second, .val (.long p5), .second, .val (.long v1), .second, .val (.long v2), .second, .val (.long g3), .second, .val (.int (1 : Int32)), .val (.long v5), .second, .val (.long v6), .second, .val (.long v7), .second, .val (.long v8), .second, .val (.long v9), .second, .val (.long g10), .second, .val (.int (1 : Int32))]) (pc' := 242) X10 hx (hb hby at_240) rfl rfl ?_
      refine i_iload (v := (1 : Int32)) (pc' := 244) X10 hx (hb hby at_242) rfl rfl ?_
      refine i_ifF (pc' := 247) X10 hx (hb hby at_244) rfl (XT.i0_eq_f (by decide)) ?_
      refine i_iload (v := (1 : Int32)) (pc' := 249) X10 hx (hb hby at_247) rfl rfl ?_
      refine i_ifF (pc' := 252) X10 hx (hb hby at_249) rfl (XT.i0_eq_f (by decide)) ?_
      refine i_iconst (pc' := 253) (1 : Int32) X10 hx (hb hby at_252) rfl (by decide) ?_
      refine i_goto (pc' := 257) X10 hx (hb hby at_253) (by decide) (by decide) ?_
      refine rN X10 hx hlk hret (by simp) (hb hby at_257) (by decide) (by decide) ?_
      exact rfl
  refine i_lload (v := v1) (pc' := 25) X3 hx (hb hby at_23) rfl rfl ?_
  refine i_lconst (pc' := 26) (0 : Int64) X3 hx (hb hby at_25) rfl (by decide) ?_
  refine i_lcmp (pc' := 27) X3 hx (hb hby at_26) rfl ?_
  by_cases hc13 : v1 = (0 : Int64)
  · skip
    refine i_ifF (pc' := 30) X3 hx (hb hby at_27) rfl (XT.ll_ne_f hc13) ?_
    refine i_lload (v := v2) (pc' := 32) X3 hx (hb hby at_30) rfl rfl ?_
    refine i_lconst (pc' := 33) (0 : Int64) X3 hx (hb hby at_32) rfl (by decide) ?_
    refine i_lcmp (pc' := 34) X3 hx (hb hby at_33) rfl ?_
    by_cases hc14 : v2 = (0 : Int64)
    · skip
      refine i_ifF (pc' := 37) X3 hx (hb hby at_34) rfl (XT.ll_ne_f hc14) ?_
      refine i_lload (v := g3) (pc' := 39) X3 hx (hb hby at_37) rfl rfl ?_
      refine i_lconst (pc' := 40) (0 : Int64) X3 hx (hb hby at_39) rfl (by decide) ?_
      refine i_lcmp (pc' := 41) X3 hx (hb hby at_40) rfl ?_
      refine i_ifF (pc' := 44) X3 hx (hb hby at_41) rfl (XT.ll_ne_f (own_gz hg hc13 hc14)) ?_
      refine i_iconst (pc' := 45) (1 : Int32) X3 hx (hb hby at_44) rfl (by decide) ?_
      refine i_goto (pc' := 49) X3 hx (hb hby at_45) (by decide) (by decide) ?_
      refine i_istore (L' := #[.val (.long p1), .second, .val (.long p2), .second, .val (.int p3), .val (.long p4), .second, .val (.long p5), .second, .val (.long v1), .second, .val (.long v2), .second, .val (.long g3), .second, .val (.int (1 : Int32)), .unset, .unset, .unset, .unset, .unset, .unset, .unset, .unset, .unset, .unset, .unset, .unset, .unset]) (pc' := 51) X3 hx (hb hby at_49) rfl rfl ?_
      refine i_goto (pc' := 119) X3 hx (hb hby at_51) (by decide) (by decide) ?_
      exact J4 _ _  (X3.mono (by decide) (by decide)) (Keep.refl h0 _)  
    · skip
      refine i_ifT (pc' := 54) X3 hx (hb hby at_34) (XT.ll_ne_t hc14) (by decide) (by decide) ?_
      have hgp := own_gp hg ha hbb (Or.inr hc14)
      refine i_lload (v := g3) (pc' := 56) X3 hx (hb hby at_54) rfl rfl ?_
      refine i_lconst (pc' := 57) (0 : Int64) X3 hx (hb hby at_56) rfl (by decide) ?_
      refine i_lcmp (pc' := 58) X3 hx (hb hby at_57) rfl ?_
      refine i_ifF (pc' := 61) X3 hx (hb hby at_58) rfl (XT.ll_le_f (own_lt0 hgp)) ?_
      refine i_lload (v := v1) (pc' := 63) X3 hx (hb hby at_61) rfl rfl ?_
      refine i_lload (v := g3) (pc' := 65) X3 hx (hb hby at_63) rfl rfl ?_
      refine i_lrem (pc' := 66) X3 hx (hb hby at_65) rfl (own_ne hgp) ?_
      refine i_lconst (pc' := 67) (0 : Int64) X3 hx (hb hby at_66) rfl (by decide) ?_
      refine i_lcmp (pc' := 68) X3 hx (hb hby at_67) rfl ?_
      refine i_ifF (pc' := 71) X3 hx (hb hby at_68) rfl (XT.ll_ne_f (own_r1 hg ha)) ?_
      refine i_lload (v := v2) (pc' := 73) X3 hx (hb hby at_71) rfl rfl ?_
      refine i_lload (v := g3) (pc' := 75) X3 hx (hb hby at_73) rfl rfl ?_
      refine i_lrem (pc' := 76) X3 hx (hb hby at_75) rfl (own_ne hgp) ?_
      refine i_lconst (pc' := 77) (0 : Int64) X3 hx (hb hby at_76) rfl (by decide) ?_
      refine i_lcmp (pc' := 78) X3 hx (hb hby at_77) rfl ?_
      refine i_ifF (pc' := 81) X3 hx (hb hby at_78) rfl (XT.ll_ne_f (own_r2 hg hbb)) ?_
      refine i_lload (v := v1) (pc' := 83) X3 hx (hb hby at_81) rfl rfl ?_
      refine i_lload (v := g3) (pc' := 85) X3 hx (hb hby at_83) rfl rfl ?_
      refine i_ldiv (pc' := 86) X3 hx (hb hby at_85) rfl (own_ne hgp) ?_
      refine i_lload (v := v2) (pc' := 88) X3 hx (hb hby at_86) rfl rfl ?_
      refine i_lload (v := g3) (pc' := 90) X3 hx (hb hby at_88) rfl rfl ?_
      refine i_ldiv (pc' := 91) X3 hx (hb hby at_90) rfl (own_ne hgp) ?_
      refine cS (y := (⟨"com/example/window_throttle/windowthrottle/TokenBucket$Narrow", "gcd", "(JJ)J"⟩ : MethodName)) (rest := []) (pc' := 94) 0 [(.long (v1 / g3)), (.long (v2 / g3))] X3 hx hZ hown (hw _ (List.mem_of_getElem? (i := 1) rfl)) (hw _ (List.mem_of_getElem? (i := 2) rfl)) (hw _ (List.mem_of_getElem? (i := 3) rfl)) (hw _ (List.mem_of_getElem? (i := 4) rfl)) (by decide) (rm1 l Z a0 hw [] (v1 / g3) (v2 / g3) n0 h0 X3.le (own_dn ha hgp) (own_dn hbb hgp)) (by decide) (by decide) (by rw [hml]; rfl) rfl (lenOf pd0 rfl) rfl (Nat.le_of_eq rfl) (hb hby at_91) rfl (by decide) (by decide) ?_
      intro r15 T15 h15 X15 q15
      obtain ⟨g15, rfl, eh15, p15_0⟩ := q15
      subst eh15
      show Go _ _ _ _ _ _ _ T15 (mkF m 94 #[.val (.long p1), .second, .val (.long p2), .second, .val (.int p3), .val (.long p4), .second, .val (.long p5), .second, .val (.long v1), .second, .val (.long v2), .second, .val (.long g3), .second, .unset, .unset, .unset, .unset, .unset, .unset, .unset, .unset, .unset, .unset, .unset, .unset, .unset, .unset] [(.long g15)])
      refine i_lconst (pc' := 95) (1 : Int64) X15 hx (hb hby at_94) rfl (by decide) ?_
      refine i_lcmp (pc' := 96) X15 hx (hb hby at_95) rfl ?_
      refine i_ifF (pc' := 99) X15 hx (hb hby at_96) rfl (XT.ll_ne_f (own_one hg ha hbb hgp p15_0)) ?_
      refine i_lload (v := v2) (pc' := 101) X15 hx (hb hby at_99) rfl rfl ?_
      refine i_lload (v := v1) (pc' := 103) X15 hx (hb hby at_101) rfl rfl ?_
      refine cS (y := (⟨"com/example/window_throttle/windowthrottle/TokenBucket$Narrow", "gcd", "(JJ)J"⟩ : MethodName)) (rest := []) (pc' := 106) 0 [(.long v2), (.long v1)] X15 hx hZ hown (hw _ (List.mem_of_getElem? (i := 1) rfl)) (hw _ (List.mem_of_getElem? (i := 2) rfl)) (hw _ (List.mem_of_getElem? (i := 3) rfl)) (hw _ (List.mem_of_getElem? (i := 4) rfl)) (by decide) (rm1 l Z a0 hw [] v2 v1 n0 h0 X15.le hbb ha) (by decide) (by decide) (by rw [hml]; rfl) rfl (lenOf pd0 rfl) rfl (Nat.le_of_eq rfl) (hb hby at_103) rfl (by decide) (by decide) ?_
      intro r16 T16 h16 X16 q16
      obtain ⟨g16, rfl, eh16, p16_0⟩ := q16
      subst eh16
      show Go _ _ _ _ _ _ _ T16 (mkF m 106 #[.val (.long p1), .second, .val (.long p2), .second, .val (.int p3), .val (.long p4), .second, .val (.long p5), .second, .val (.long v1), .second, .val (.long v2), .second, .val (.long g3), .second, .unset, .unset, .unset, .unset, .unset, .unset, .unset, .unset, .unset, .unset, .unset, .unset, .unset, .unset] [(.long g16)])
      refine i_lload (v := g3) (pc' := 108) X16 hx (hb hby at_106) rfl rfl ?_
      refine i_lcmp (pc' := 109) X16 hx (hb hby at_108) rfl ?_
      refine i_ifF (pc' := 112) X16 hx (hb hby at_109) rfl (XT.ll_ne_f (own_sym hg p16_0)) ?_
      refine i_iconst (pc' := 113) (1 : Int32) X16 hx (hb hby at_112) rfl (by decide) ?_
      refine i_goto (pc' := 117) X16 hx (hb hby at_113) (by decide) (by decide) ?_
      refine i_istore (L' := #[.val (.long p1), .second, .val (.long p2), .second, .val (.int p3), .val (.long p4), .second, .val (.long p5), .second, .val (.long v1), .second, .val (.long v2), .second, .val (.long g3), .second, .val (.int (1 : Int32)), .unset, .unset, .unset, .unset, .unset, .unset, .unset, .unset, .unset, .unset, .unset, .unset, .unset]) (pc' := 119) X16 hx (hb hby at_117) rfl rfl ?_
      exact J4 _ _  (X16.mono (by decide) (by decide)) (Keep.refl h0 _)  
  · skip
    refine i_ifT (pc' := 54) X3 hx (hb hby at_27) (XT.ll_ne_t hc13) (by decide) (by decide) ?_
    have hgp := own_gp hg ha hbb (Or.inl hc13)
    refine i_lload (v := g3) (pc' := 56) X3 hx (hb hby at_54) rfl rfl ?_
    refine i_lconst (pc' := 57) (0 : Int64) X3 hx (hb hby at_56) rfl (by decide) ?_
    refine i_lcmp (pc' := 58) X3 hx (hb hby at_57) rfl ?_
    refine i_ifF (pc' := 61) X3 hx (hb hby at_58) rfl (XT.ll_le_f (own_lt0 hgp)) ?_
    refine i_lload (v := v1) (pc' := 63) X3 hx (hb hby at_61) rfl rfl ?_
    refine i_lload (v := g3) (pc' := 65) X3 hx (hb hby at_63) rfl rfl ?_
    refine i_lrem (pc' := 66) X3 hx (hb hby at_65) rfl (own_ne hgp) ?_
    refine i_lconst (pc' := 67) (0 : Int64) X3 hx (hb hby at_66) rfl (by decide) ?_
    refine i_lcmp (pc' := 68) X3 hx (hb hby at_67) rfl ?_
    refine i_ifF (pc' := 71) X3 hx (hb hby at_68) rfl (XT.ll_ne_f (own_r1 hg ha)) ?_
    refine i_lload (v := v2) (pc' := 73) X3 hx (hb hby at_71) rfl rfl ?_
    refine i_lload (v := g3) (pc' := 75) X3 hx (hb hby at_73) rfl rfl ?_
    refine i_lrem (pc' := 76) X3 hx (hb hby at_75) rfl (own_ne hgp) ?_
    refine i_lconst (pc' := 77) (0 : Int64) X3 hx (hb hby at_76) rfl (by decide) ?_
    refine i_lcmp (pc' := 78) X3 hx (hb hby at_77) rfl ?_
    refine i_ifF (pc' := 81) X3 hx (hb hby at_78) rfl (XT.ll_ne_f (own_r2 hg hbb)) ?_
    refine i_lload (v := v1) (pc' := 83) X3 hx (hb hby at_81) rfl rfl ?_
    refine i_lload (v := g3) (pc' := 85) X3 hx (hb hby at_83) rfl rfl ?_
    refine i_ldiv (pc' := 86) X3 hx (hb hby at_85) rfl (own_ne hgp) ?_
    refine i_lload (v := v2) (pc' := 88) X3 hx (hb hby at_86) rfl rfl ?_
    refine i_lload (v := g3) (pc' := 90) X3 hx (hb hby at_88) rfl rfl ?_
    refine i_ldiv (pc' := 91) X3 hx (hb hby at_90) rfl (own_ne hgp) ?_
    refine cS (y := (⟨"com/example/window_throttle/windowthrottle/TokenBucket$Narrow", "gcd", "(JJ)J"⟩ : MethodName)) (rest := []) (pc' := 94) 0 [(.long (v1 / g3)), (.long (v2 / g3))] X3 hx hZ hown (hw _ (List.mem_of_getElem? (i := 1) rfl)) (hw _ (List.mem_of_getElem? (i := 2) rfl)) (hw _ (List.mem_of_getElem? (i := 3) rfl)) (hw _ (List.mem_of_getElem? (i := 4) rfl)) (by decide) (rm1 l Z a0 hw [] (v1 / g3) (v2 / g3) n0 h0 X3.le (own_dn ha hgp) (own_dn hbb hgp)) (by decide) (by decide) (by rw [hml]; rfl) rfl (lenOf pd0 rfl) rfl (Nat.le_of_eq rfl) (hb hby at_91) rfl (by decide) (by decide) ?_
    intro r17 T17 h17 X17 q17
    obtain ⟨g17, rfl, eh17, p17_0⟩ := q17
    subst eh17
    show Go _ _ _ _ _ _ _ T17 (mkF m 94 #[.val (.long p1), .second, .val (.long p2), .second, .val (.int p3), .val (.long p4), .second, .val (.long p5), .second, .val (.long v1), .second, .val (.long v2), .second, .val (.long g3), .second, .unset, .unset, .unset, .unset, .unset, .unset, .unset, .unset, .unset, .unset, .unset, .unset, .unset, .unset] [(.long g17)])
    refine i_lconst (pc' := 95) (1 : Int64) X17 hx (hb hby at_94) rfl (by decide) ?_
    refine i_lcmp (pc' := 96) X17 hx (hb hby at_95) rfl ?_
    refine i_ifF (pc' := 99) X17 hx (hb hby at_96) rfl (XT.ll_ne_f (own_one hg ha hbb hgp p17_0)) ?_
    refine i_lload (v := v2) (pc' := 101) X17 hx (hb hby at_99) rfl rfl ?_
    refine i_lload (v := v1) (pc' := 103) X17 hx (hb hby at_101) rfl rfl ?_
    refine cS (y := (⟨"com/example/window_throttle/windowthrottle/TokenBucket$Narrow", "gcd", "(JJ)J"⟩ : MethodName)) (rest := []) (pc' := 106) 0 [(.long v2), (.long v1)] X17 hx hZ hown (hw _ (List.mem_of_getElem? (i := 1) rfl)) (hw _ (List.mem_of_getElem? (i := 2) rfl)) (hw _ (List.mem_of_getElem? (i := 3) rfl)) (hw _ (List.mem_of_getElem? (i := 4) rfl)) (by decide) (rm1 l Z a0 hw [] v2 v1 n0 h0 X17.le hbb ha) (by decide) (by decide) (by rw [hml]; rfl) rfl (lenOf pd0 rfl) rfl (Nat.le_of_eq rfl) (hb hby at_103) rfl (by decide) (by decide) ?_
    intro r18 T18 h18 X18 q18
    obtain ⟨g18, rfl, eh18, p18_0⟩ := q18
    subst eh18
    show Go _ _ _ _ _ _ _ T18 (mkF m 106 #[.val (.long p1), .second, .val (.long p2), .second, .val (.int p3), .val (.long p4), .second, .val (.long p5), .second, .val (.long v1), .second, .val (.long v2), .second, .val (.long g3), .second, .unset, .unset, .unset, .unset, .unset, .unset, .unset, .unset, .unset, .unset, .unset, .unset, .unset, .unset] [(.long g18)])
    refine i_lload (v := g3) (pc' := 108) X18 hx (hb hby at_106) rfl rfl ?_
    refine i_lcmp (pc' := 109) X18 hx (hb hby at_108) rfl ?_
    refine i_ifF (pc' := 112) X18 hx (hb hby at_109) rfl (XT.ll_ne_f (own_sym hg p18_0)) ?_
    refine i_iconst (pc' := 113) (1 : Int32) X18 hx (hb hby at_112) rfl (by decide) ?_
    refine i_goto (pc' := 117) X18 hx (hb hby at_113) (by decide) (by decide) ?_
    refine i_istore (L' := #[.val (.long p1), .second, .val (.long p2), .second, .val (.int p3), .val (.long p4), .second, .val (.long p5), .second, .val (.long v1), .second, .val (.long v2), .second, .val (.long g3), .second, .val (.int (1 : Int32)), .unset, .unset, .unset, .unset, .unset, .unset, .unset, .unset, .unset, .unset, .unset, .unset, .unset]) (pc' := 119) X18 hx (hb hby at_117) rfl rfl ?_
    exact J4 _ _  (X18.mono (by decide) (by decide)) (Keep.refl h0 _)  
set_option maxRecDepth 65536 in
set_option maxHeartbeats 40000000 in
theorem comes_1 {Post : Tables → Env → Array Value → State → Outcome → State → Prop} (hpost : ∀ tb e args s v u, (limb_1_1.after args s (.returned v) u = true ∧ limb_1_2.after args s (.returned v) u = true ∧ True) → FrameEnd s (.returned v) u (Jvm.fieldLocs frame_1_writes args s ++ Jvm.arrayLocs frame_1_arrays args s ++ Jvm.staticLocs frame_1_statics s) 0 0 → Post tb e args s (.returned v) u) :
    ArmFor flags0 classFile x code maxLocals ret World_1 tables_1 room_1 Calls_1 rest_1 Pre_1 Post := by
  intro l hfl _ _ p e ha hc hk s m args below hf hA hF happ hP
  obtain ⟨hcalls, hrest, hpre⟩ := hP
  obtain ⟨-, -, -, hnamed, -, -, -, hat⟩ := (Spec.applies_iff hf).mp happ
  obtain ⟨hg, hn⟩ := and_e (Cond.before_iff.mp (show (Jvm.Cond.and given_1 narrow_1).before args s = true from hpre))
  obtain ⟨g0, k0⟩ := and_e hg
  obtain ⟨g1, k1⟩ := and_e k0
  obtain ⟨g2, k2⟩ := and_e k1
  obtain ⟨g3, k3⟩ := and_e k2
  obtain ⟨g4, k4⟩ := and_e k3
  obtain ⟨w0, w1, w2, w3, w4, rfl⟩ : ∃ w0 w1 w2 w3 w4 : Value, args = #[w0, w1, w2, w3, w4] := by
    have hs : args.size = 5 := by simpa [Cond.value, given_1] using g0
    obtain ⟨L⟩ := args
    match L, hs with
    | [w0, w1, w2, w3, w4], _ => exact ⟨w0, w1, w2, w3, w4, rfl⟩
  have hw := fun d (hd : d ∈ tables_1) => atoms_spec (ws := Jvm.Cond.code x code maxLocals ret :: tables_1) hat d (List.mem_cons_of_mem _ hd)
  have hfit : Fit s := fun {y c} hc i hi => by
    obtain ⟨ha, rfl⟩ := Array.getElem?_eq_some_iff.mp hc
    have q := List.all_eq_true.mp ((Array.all_eq_true_iff_forall_mem.mp hF) _ (Array.getElem_mem ha)) i (List.mem_range.mpr hi)
    simpa [Array.getElem?_eq_getElem hi] using q
  obtain ⟨i0, ei0⟩ := isL_v g1
  obtain rfl : w0 = (.long i0) := Option.some.inj ei0
  obtain ⟨i1, ei1⟩ := isL_v g2
  obtain rfl : w1 = (.long i1) := Option.some.inj ei1
  obtain ⟨i2, ei2⟩ := is_v g3
  obtain rfl : w2 = (.int i2) := Option.some.inj ei2
  obtain ⟨i3, ei3⟩ := isL_v g4
  obtain rfl : w3 = (.long i3) := Option.some.inj ei3
  obtain ⟨i4, ei4⟩ := isL_v k4
  obtain rfl : w4 = (.long i4) := Option.some.inj ei4
  obtain ⟨n, o, h1, h2, h3, _, L, rfl, ⟨rfl, N⟩, hq⟩ := rm0 l s _ hw tables_1 i0 i1 i2 i3 i4 s.heap.size s.heap (Nat.le_refl _)  p e ha hc hk s m _ below hf ((Spec.applies_iff_loose hf).mp happ).1 ⟨rfl, State.Warmed39.refl s, rfl⟩ trivial
  refine ⟨n, _, h1, h2, h3, hpost _ _ _ _ _ _ ⟨Cond.after_iff.mpr rfl, Cond.after_iff.mpr (eq_i res_at (Term.int_eval (1)) rfl), trivial⟩ ⟨hq.1, hq.2.1, (hq.2.2.sift fun y hy => Or.inr (N y hy)).mono (by decide) (by decide)⟩⟩
theorem main_1_1 : Claimed_1_1 := comes_1 fun _ _ _ _ _ _ h hF => ⟨h.1, hF⟩
theorem main_1_2 : Claimed_1_2 := comes_1 fun _ _ _ _ _ _ h hF => ⟨h.2.1, hF⟩
end Jvm.Pilot.@@N@@
namespace Jvm.Pilot.@@N@@
open Jvm Jvm.ClassFile Sem Op Lib Jvm.Free Jvm.Stand Jvm.Pilot.@@N@@.Jvm.D
/-! MADE BY PROGRAM (witnessworld.py) out of the Statement's table words and the real class files: 11 classes; the members and pool entries that the words name. The judged class is class 1, her method 1. -/
namespace start1
open Jvm.ClassFile
def u (s : String) : CpInfo := .utf8 (stringToUtf16 s)
/-- a pool by its gaps: so many unusable entries, then the entry; so many at the end -/
def gap : Nat → List CpInfo → List CpInfo
  | 0, r => r
  | n + 1, r => .unusable :: gap n r
def poolList (es : List (Nat × CpInfo)) (last : Nat) : List CpInfo := es.foldr (fun e r => gap e.1 (e.2 :: r)) (gap last [])
def pool (es : List (Nat × CpInfo)) (last : Nat) : Array CpInfo := ⟨poolList es last⟩
def fileOf (pool : Array CpInfo) (this : Nat) (attrs : Array Attribute := #[]) (ms : Array MethodInfo := #[]) (fl : Nat := 33) (sup : Nat := 0) (ifs : Array Nat := #[]) (fds : Array FieldInfo := #[]) : ClassFile where
  minorVersion := 0
  majorVersion := 65
  constantPool := pool
  accessFlags := fl
  thisClass := this
  superClass := sup
  interfaces := ifs
  fields := fds
  methods := ms
  attributes := attrs
def plain (name : String) (sup : Option ClassId) : Class where
  name := name
  kind := .ordinary
  loader := none
  accessFlags := 33
  super := sup
  interfaces := #[]
  cf := none
  fields := #[]
  methods := #[]
  instanceTypes := #[]
  staticTypes := #[]
  resolved := #[]
  callSites := []
  init := .initialized
  statics := none
  mirror := none

def pool0 : Array CpInfo := pool [(5, u "<init>"), (0, u "()V"), (1, .class_ 10), (1, u "java/lang/Object")] 113

def k0m0 : Method := { name := "<init>", desc := "()V", sig := { parameters := [], returnType := none }, accessFlags := 1, code := none }
/-- java/lang/Object -/
def k0 : Class := { plain "java/lang/Object" none with
  accessFlags := 33
  interfaces := #[]
  cf := some (fileOf pool0 8 #[] #[{ accessFlags := 1, nameIndex := 5, descriptorIndex := 6, attributes := #[] }] 33 0 #[] #[])
  fields := #[]
  methods := #[k0m0]
  instanceTypes := #[]
  staticTypes := #[]
  resolved := Array.replicate 124 none
  statics := none }

def pool1 : Array CpInfo := pool [(2, .class_ 4), (1, u "java/lang/Object"), (0, u "<init>"), (0, u "()V"), (2, .long 9223372036854775807), (1, .methodref 12 13), (0, .class_ 14), (0, .nameAndType 15 16), (0, u "com/example/window_throttle/windowthrottle/TokenBucket$Narrow"), (0, u "gcd"), (0, u "(JJ)J"), (0, .long 2147483647), (1, .long 4294967295), (1, .class_ 22), (0, u "com/example/window_throttle/windowthrottle/NarrowGcdPinLaw"), (2, u "law"), (0, u "(JJIJJ)Z")] 7

def k1m0 : Method := { name := "<init>", desc := "()V", sig := { parameters := [], returnType := none }, accessFlags := 2, code := none }
def k1c1 : Code := { maxStack := 6, maxLocals := 29, code := code, exceptionTable := #[], attributes := #[] }
def k1m1 : Method := { name := "law", desc := "(JJIJJ)Z", sig := { parameters := [.long, .long, .int, .long, .long], returnType := some .boolean }, accessFlags := 9, code := some k1c1 }
/-- com/example/window_throttle/windowthrottle/NarrowGcdPinLaw -/
def k1 : Class := { plain "com/example/window_throttle/windowthrottle/NarrowGcdPinLaw" (some 0) with
  accessFlags := 49
  interfaces := #[]
  cf := some (fileOf pool1 21 #[] #[{ accessFlags := 2, nameIndex := 5, descriptorIndex := 6, attributes := #[] }, { accessFlags := 9, nameIndex := 25, descriptorIndex := 26, attributes := #[] }] 49 2 #[] #[])
  fields := #[]
  methods := #[k1m0, k1m1]
  instanceTypes := #[]
  staticTypes := #[]
  resolved := Array.replicate 34 none
  statics := none }

def pool2 : Array CpInfo := pool [(2, .class_ 4), (1, u "java/lang/Object"), (0, u "<init>"), (0, u "()V"), (11, .class_ 20), (1, u "com/example/window_throttle/windowthrottle/KeyCounter"), (0, u "latestSecond"), (0, u "J"), (6, u "latestNano"), (0, u "I"), (30, u "NANOS_PER_SECOND"), (0, u "Ljava/math/BigInteger;"), (24, u "LONGEST_WAIT"), (20, u "LONG_NANOS_BOUND"), (0, u "Ljava/time/Duration;"), (13, u "key"), (0, u "Ljava/lang/Object;"), (0, u "keyHash"), (0, u "queuedNext"), (0, u "Lcom/example/window_throttle/windowthrottle/KeyCounter;"), (0, u "askedSinceQueued"), (0, u "Z")] 22

def k2m0 : Method := { name := "<init>", desc := "()V", sig := { parameters := [], returnType := none }, accessFlags := 0, code := none }
/-- com/example/window_throttle/windowthrottle/KeyCounter -/
def k2 : Class := { plain "com/example/window_throttle/windowthrottle/KeyCounter" (some 0) with
  accessFlags := 1056
  interfaces := #[]
  cf := some (fileOf pool2 18 #[] #[{ accessFlags := 0, nameIndex := 5, descriptorIndex := 6, attributes := #[] }] 1056 2 #[] #[{ accessFlags := 26, nameIndex := 61, descriptorIndex := 62, attributes := #[] }, { accessFlags := 26, nameIndex := 87, descriptorIndex := 62, attributes := #[] }, { accessFlags := 26, nameIndex := 108, descriptorIndex := 109, attributes := #[] }, { accessFlags := 2, nameIndex := 21, descriptorIndex := 22, attributes := #[] }, { accessFlags := 2, nameIndex := 29, descriptorIndex := 30, attributes := #[] }, { accessFlags := 0, nameIndex := 123, descriptorIndex := 124, attributes := #[] }, { accessFlags := 0, nameIndex := 125, descriptorIndex := 30, attributes := #[] }, { accessFlags := 0, nameIndex := 126, descriptorIndex := 127, attributes := #[] }, { accessFlags := 0, nameIndex := 128, descriptorIndex := 129, attributes := #[] }])
  fields := #[{ name := "NANOS_PER_SECOND", type := (.object "java/math/BigInteger"), accessFlags := 26, slot := 0, constantValue := 0 }, { name := "LONGEST_WAIT", type := (.object "java/math/BigInteger"), accessFlags := 26, slot := 1, constantValue := 0 }, { name := "LONG_NANOS_BOUND", type := (.object "java/time/Duration"), accessFlags := 26, slot := 2, constantValue := 0 }, { name := "latestSecond", type := .long, accessFlags := 2, slot := 0, constantValue := 0 }, { name := "latestNano", type := .int, accessFlags := 2, slot := 1, constantValue := 0 }, { name := "key", type := (.object "java/lang/Object"), accessFlags := 0, slot := 2, constantValue := 0 }, { name := "keyHash", type := .int, accessFlags := 0, slot := 3, constantValue := 0 }, { name := "queuedNext", type := (.object "com/example/window_throttle/windowthrottle/KeyCounter"), accessFlags := 0, slot := 4, constantValue := 0 }, { name := "askedSinceQueued", type := .boolean, accessFlags := 0, slot := 5, constantValue := 0 }]
  methods := #[k2m0]
  instanceTypes := #[.long, .int, (.object "java/lang/Object"), .int, (.object "com/example/window_throttle/windowthrottle/KeyCounter"), .boolean]
  staticTypes := #[(.object "java/math/BigInteger"), (.object "java/math/BigInteger"), (.object "java/time/Duration")]
  resolved := Array.replicate 152 none
  statics := none }

def pool3 : Array CpInfo := pool [(2, .class_ 4), (1, u "com/example/window_throttle/windowthrottle/KeyCounter"), (0, u "<init>"), (0, u "()V"), (11, .class_ 20), (1, u "com/example/window_throttle/windowthrottle/TokenBucket"), (0, u "takenSecond"), (0, u "J"), (6, u "takenNano"), (0, u "I"), (1, .class_ 34), (1, u "com/example/window_throttle/windowthrottle/TokenBucket$Narrow"), (3, .class_ 40), (1, u "com/example/window_throttle/windowthrottle/TokenBucket$Narrow$Rate"), (26, .class_ 68), (0, u "com/example/window_throttle/windowthrottle/TokenBucket$Wide")] 91

def k3m0 : Method := { name := "<init>", desc := "()V", sig := { parameters := [], returnType := none }, accessFlags := 0, code := none }
/-- com/example/window_throttle/windowthrottle/TokenBucket -/
def k3 : Class := { plain "com/example/window_throttle/windowthrottle/TokenBucket" (some 2) with
  accessFlags := 1056
  interfaces := #[]
  cf := some (fileOf pool3 18 #[.nestMembers #[67, 32, 38]] #[{ accessFlags := 0, nameIndex := 5, descriptorIndex := 6, attributes := #[] }] 1056 2 #[] #[{ accessFlags := 2, nameIndex := 21, descriptorIndex := 22, attributes := #[] }, { accessFlags := 2, nameIndex := 29, descriptorIndex := 30, attributes := #[] }])
  fields := #[{ name := "takenSecond", type := .long, accessFlags := 2, slot := 6, constantValue := 0 }, { name := "takenNano", type := .int, accessFlags := 2, slot := 7, constantValue := 0 }]
  methods := #[k3m0]
  instanceTypes := #[.long, .int, (.object "java/lang/Object"), .int, (.object "com/example/window_throttle/windowthrottle/KeyCounter"), .boolean, .long, .int]
  staticTypes := #[]
  resolved := Array.replicate 160 none
  statics := none }

def pool4 : Array CpInfo := pool [(2, .class_ 4), (1, u "com/example/window_throttle/windowthrottle/TokenBucket"), (3, .class_ 10), (1, u "com/example/window_throttle/windowthrottle/TokenBucket$Narrow"), (0, u "rate"), (0, u "Lcom/example/window_throttle/windowthrottle/TokenBucket$Narrow$Rate;"), (28, u "(JJ)J"), (2, u "lacking"), (0, u "J"), (47, u "gcd")] 24

def k4c0 : Code := { maxStack := 4, maxLocals := 10, code := prog_30_method_9_code, exceptionTable := #[], attributes := #[] }
def k4m0 : Method := { name := "gcd", desc := "(JJ)J", sig := { parameters := [.long, .long], returnType := some .long }, accessFlags := 8, code := some k4c0 }
/-- com/example/window_throttle/windowthrottle/TokenBucket$Narrow -/
def k4 : Class := { plain "com/example/window_throttle/windowthrottle/TokenBucket$Narrow" (some 3) with
  accessFlags := 48
  interfaces := #[]
  cf := some (fileOf pool4 8 #[.nestHost 2] #[{ accessFlags := 8, nameIndex := 93, descriptorIndex := 41, attributes := #[] }] 48 2 #[] #[{ accessFlags := 2, nameIndex := 44, descriptorIndex := 45, attributes := #[] }, { accessFlags := 2, nameIndex := 11, descriptorIndex := 12, attributes := #[] }])
  fields := #[{ name := "lacking", type := .long, accessFlags := 2, slot := 8, constantValue := 0 }, { name := "rate", type := (.object "com/example/window_throttle/windowthrottle/TokenBucket$Narrow$Rate"), accessFlags := 2, slot := 9, constantValue := 0 }]
  methods := #[k4m0]
  instanceTypes := #[.long, .int, (.object "java/lang/Object"), .int, (.object "com/example/window_throttle/windowthrottle/KeyCounter"), .boolean, .long, .int, .long, (.object "com/example/window_throttle/windowthrottle/TokenBucket$Narrow$Rate")]
  staticTypes := #[]
  resolved := Array.replicate 118 none
  statics := none }

def pool5 : Array CpInfo := pool [(1, u "java/lang/Cloneable"), (0, .class_ 1), (0, u "java/lang/Object"), (0, .class_ 3)] 3

/-- java/lang/Cloneable -/
def k5 : Class := { plain "java/lang/Cloneable" (some 0) with
  accessFlags := 1537
  interfaces := #[]
  cf := some (fileOf pool5 2 #[] #[] 1537 4 #[] #[])
  fields := #[]
  methods := #[]
  instanceTypes := #[]
  staticTypes := #[]
  resolved := Array.replicate 8 none
  statics := none }

def pool6 : Array CpInfo := pool [(1, u "java/io/Serializable"), (0, .class_ 1), (0, u "java/lang/Object"), (0, .class_ 3)] 3

/-- java/io/Serializable -/
def k6 : Class := { plain "java/io/Serializable" (some 0) with
  accessFlags := 1537
  interfaces := #[]
  cf := some (fileOf pool6 2 #[] #[] 1537 4 #[] #[])
  fields := #[]
  methods := #[]
  instanceTypes := #[]
  staticTypes := #[]
  resolved := Array.replicate 8 none
  statics := none }

/-- the primitive byte -/
def k7 : Class := { plain "byte" none with kind := .primitive 'B', accessFlags := 0x411 }
/-- [B -/
def k8 : Class := { plain "[B" (some 0) with kind := .array 7 .byte, interfaces := #[5, 6], accessFlags := 1041 }

/-- the primitive int -/
def k9 : Class := { plain "int" none with kind := .primitive 'I', accessFlags := 0x411 }
/-- [I -/
def k10 : Class := { plain "[I" (some 0) with kind := .array 9 .int, interfaces := #[5, 6], accessFlags := 1041 }

def heap : Heap := #[]
def classes : Array Class := #[k0, k1, k2, k3, k4, k5, k6, k7, k8, k9, k10]
def interned : List (Array UInt16 × Addr) := []
def slotsUsed : Nat := 0
def theMethod : MethodId := ⟨1, 1⟩
def args0 : Array Value := #[.long 12, .long 18, .int 5, .long 77, .long 9]
def aboutOver (below : List Frame) : State where
  vm := { classes := classes, interned := interned.toArray }
  heap := heap
  slotsUsed := slotsUsed
  threads := #[{ frames := .invoking theMethod args0 :: below }]
def below0 : List Frame := [.native { method := ⟨0, 0⟩, args := #[] }]
def about1 : State := aboutOver below0
def p0 : Program := .bare "" "" ""
def e0 : Env := launch0.env 0 0 0
theorem w_frames : about1.frames = Frame.invoking theMethod args0 :: below0 := rfl
set_option maxRecDepth 65536 in
theorem w_args : argsFit about1.vm theMethod args0 = true := by decide +kernel
set_option maxRecDepth 65536 in
theorem w_heap : heapFits about1 = true := by decide +kernel
set_option maxRecDepth 65536 in
theorem w_runnable : about1.curStatus? = some .runnable := by decide +kernel
set_option maxRecDepth 65536 in
theorem w_alone : about1.alone = true := by decide +kernel
set_option maxRecDepth 65536 in
theorem w_named : about1.methodNamed? x = some theMethod := by decide +kernel
set_option maxRecDepth 65536 in
theorem w_hears : about1.hears theMethod below0 = true := by decide +kernel
set_option maxRecDepth 65536 in
theorem w_ripe : about1.ripe theMethod args0 below0 = true := by decide +kernel
theorem w_running : about1.status = .running := rfl
set_option maxRecDepth 65536 in
theorem w_room : about1.hasRoom e0.platform room_1 = true :=
  launch0.hasRoom_least _ room_1 (by decide +kernel) (by decide +kernel) (by decide +kernel) (by decide +kernel) (by decide +kernel) (by decide +kernel)
theorem allAtoms_all (ts : List Jvm.Cond) (a : Array Jvm.Value) (st : Jvm.State) : (allAtoms ts).before a st = ts.all (fun c => c.before a st) := by
  induction ts with
  | nil => rfl
  | cons c t ih =>
    show (Jvm.Cond.and c (allAtoms t)).before a st = _
    rw [Jvm.Cond.before_and, ih, List.all_cons]
def words1 : List Jvm.Cond := Jvm.Cond.code x code maxLocals ret :: tables_1
/-- a 'code' word, met by the world's own term for the bytes: nothing is compared byte by byte -/
theorem code_word {y : MethodName} {bytes : ByteArray} {mx : Nat} {rt : Option FieldType} {a : Array Value} {s : State} {m : MethodId} {meth : Method} {c : Code} (h1 : s.methodNamed? y = some m) (h2 : s.vm.method? m = some meth) (h3 : meth.code = some c) (h4 : c.code = bytes)
    (h5 : (c.maxLocals == mx && c.exceptionTable.isEmpty && decide (c.maxStack ≤ mostOperands) && decide (meth.sig.returnType = rt) && !meth.locks && decide (parseMethodDescriptor y.desc = some meth.sig)) = true) : (Jvm.Cond.code y bytes mx rt).before a s = true := by
  simp only [Bool.and_eq_true, beq_iff_eq, Bool.not_eq_true', decide_eq_true_eq] at h5
  obtain ⟨⟨⟨⟨⟨g1, g2⟩, g3⟩, g4⟩, g5⟩, g6⟩ := h5
  simp [Cond.before, Cond.holds, Cond.value, h1, h2, h3, h4, g1, g2, g3, g4, g5, g6]
def isCode : Jvm.Cond → Bool
  | .code _ _ _ _ => true
  | _ => false
theorem all_split {L : List Jvm.Cond} {P : Jvm.Cond → Bool} (h1 : L.all (fun c => isCode c || P c) = true) (h2 : ∀ c ∈ L.filter isCode, P c = true) : L.all P = true := by
  refine List.all_eq_true.mpr fun c hc => ?_
  have h := List.all_eq_true.mp h1 c hc
  rcases Bool.eq_false_or_eq_true (isCode c) with hi | hi
  · exact h2 c (List.mem_filter.mpr ⟨hc, hi⟩)
  · simpa [hi] using h
set_option maxRecDepth 65536 in
theorem w_c0 : (Jvm.Cond.code x code maxLocals ret).before args0 about1 = true := code_word (m := ⟨1, 1⟩) (meth := k1m1) (c := k1c1) (by decide +kernel) rfl rfl rfl (by decide +kernel)
set_option maxRecDepth 65536 in
theorem w_c1 : (Jvm.Cond.code ({ cls := "com/example/window_throttle/windowthrottle/TokenBucket$Narrow", name := "gcd", desc := "(JJ)J" } : Jvm.MethodName) prog_30_method_9_code (10 : Nat) (Option.some Jvm.ClassFile.FieldType.long)).before args0 about1 = true := code_word (m := ⟨4, 0⟩) (meth := k4m0) (c := k4c0) (by decide +kernel) rfl rfl rfl (by decide +kernel)
def codes1 : List Jvm.Cond := [Jvm.Cond.code x code maxLocals ret, Jvm.Cond.code ({ cls := "com/example/window_throttle/windowthrottle/TokenBucket$Narrow", name := "gcd", desc := "(JJ)J" } : Jvm.MethodName) prog_30_method_9_code (10 : Nat) (Option.some Jvm.ClassFile.FieldType.long)]
set_option maxRecDepth 65536 in
theorem codes_eq : words1.filter isCode = codes1 := rfl
theorem w_codes : ∀ c ∈ words1.filter isCode, c.before args0 about1 = true := by
  rw [codes_eq]
  intro c hc
  simp only [codes1, List.mem_cons, List.not_mem_nil, or_false] at hc
  rcases hc with rfl | rfl
  · exact w_c0
  · exact w_c1
set_option maxRecDepth 65536 in
theorem w_t1 : words1.all (fun c => isCode c || c.before args0 about1) = true := by decide +kernel
theorem w_tables : (allAtoms (Jvm.Cond.code x code maxLocals ret :: tables_1)).before args0 about1 = true := by
  rw [allAtoms_all]
  show words1.all (fun c => c.before args0 about1) = true
  refine all_split ?_ w_codes
  rw [w_t1]
set_option maxRecDepth 65536 in
theorem w_case : (Jvm.Cond.and given_1 narrow_1).before args0 about1 = true := by decide +kernel
theorem w_applies : (headSpec (Jvm.Cond.code x code maxLocals ret :: tables_1) room_1).applies x e0.platform about1 = true :=
  (Spec.applies_iff w_frames).mpr ⟨w_running, w_runnable, w_alone, w_named, w_hears, w_ripe, w_room, w_tables⟩
theorem atStart : AtStart classFile x code maxLocals ret World_1 tables_1 room_1 Calls_1 rest_1 Pre_1 launch0 p0 e0 about1 theMethod args0 below0 :=
  ⟨lists_1, trivial, launch0.admits_env _ _ _, launch0.least_env, fairChoices_fair.cas, fairChoices_fair.clock, w_frames, w_args, w_heap, w_applies, trivial, trivial, w_case⟩
end start1
theorem witness_1 : WitnessClaimed_1 := ⟨start1.p0, start1.e0, start1.about1, start1.theMethod, start1.args0, start1.below0, start1.atStart⟩
end Jvm.Pilot.@@N@@
