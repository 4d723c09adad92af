import JvmDerived
import JvmDerived.Pilot.@@N@@Statement
import JvmDerived.Pilot.@@N@@Code
set_option linter.unusedVariables false
set_option linter.unusedSimpArgs false
namespace Jvm.OwnKit
open Sem ClassFile Op Lib Jvm.Stand Jvm.Free Jvm.LawKit Jvm.RoadKit
section Own
variable {p : Program} {l : Launch} {e : Env} {R : Room} {s : State} {m : MethodId} {args : Array Value} {below : List Frame} {meth : Method} {c : Code} {T : State} {h : Heap} {n0 cells slots : Nat} {Z : State} {a0 : Array Value} {Q : Option Value → Heap → Prop} {pc pc' : Nat} {Ls : Array Slot} {S rest : List Value}
/-- where the walk stands: over T, whose heap is h; nothing older than n0 was written -/
def Pn (p : Program) (l : Launch) (e : Env) (R : Room) (s : State) (m : MethodId) (args : Array Value) (below : List Frame) (meth : Method) (c : Code) (T : State) (h : Heap) (n0 cells slots : Nat) : Prop :=
  T.heap = h ∧ n0 ≤ s.heap.size ∧ ∃ locs, Stand p l e R s m args below meth c T locs cells slots ∧ Fr n0 locs
theorem Pn.here (X : Pn p l e R s m args below meth c T h n0 cells slots) : At T m c below := by obtain ⟨_, _, _, X, _⟩ := X; exact X.here
theorem Pn.le (X : Pn p l e R s m args below meth c T h n0 cells slots) : n0 ≤ h.size := by
  obtain ⟨e0, hn, _, X, _⟩ := X
  have q : s.heap.size ≤ T.heap.size := X.same.2.1
  rw [← e0]; exact Nat.le_trans hn q
theorem Pn.mono (X : Pn p l e R s m args below meth c T h n0 cells slots) {cells' slots' : Nat} (hc : cells ≤ cells') (hs : slots ≤ slots') : Pn p l e R s m args below meth c T h n0 cells' slots' := by
  obtain ⟨e0, hn, L, X, N⟩ := X
  exact ⟨e0, hn, L, ⟨X.admits, X.cas, X.clock, X.frames, X.room, X.hears, X.method, X.code, X.here, X.tail, X.warmed, X.limits, X.bytes, X.same.mono hc hs⟩, N⟩
/-- from here the run comes to a return that Q speaks of -/
def Go (p : Program) (e : Env) (s : State) (below : List Frame) (n0 : Nat) (Q : Option Value → Heap → Prop) (R : Room) (T : State) (f : JFrame) : Prop :=
  ∃ V, Steps p.tables e below (T.setTop f) V ∧ V.status = .running ∧ ∃ v L, Ended V below (.returned v) ∧ Q v V.heap ∧ Fr n0 L ∧ FrameEnd s (.returned v) V L R.cells R.slots
theorem stp {T' : State} {f f' : JFrame} (k : ∀ t, Steps p.tables e below (T'.setTop f') t → Steps p.tables e below (T.setTop f) t) (g : Go p e s below n0 Q R T' f') : Go p e s below n0 Q R T f := by
  obtain ⟨V, h1, h2⟩ := g; exact ⟨V, k V h1, h2⟩
def Con (l : Launch) (Z : State) (y : MethodName) (bytes : ByteArray) (maxL : Nat) (ret : Option FieldType) (ws : List Jvm.Cond) (rm : Room) (as : Array Value) (h0 : Heap) (n0 : Nat) (Q : Option Value → Heap → Prop) : Prop :=
  MetFree l y (head1 (Jvm.Cond.code y bytes maxL ret :: ws) rm) (fun a U => a = as ∧ Z.Warmed39 U.vm ∧ U.heap = h0) (fun _ _ _ _ _ => True) (fun _ U o U' => ∃ v L, o = .returned v ∧ (Q v U'.heap ∧ Fr n0 L) ∧ FrameEnd U o U' L rm.cells rm.slots)
theorem body {y : MethodName} {bytes : ByteArray} {maxL : Nat} {ret : Option FieldType} {ws : List Jvm.Cond} {rm : Room} {as : Array Value} {h0 : Heap} (hp : plainFor y = true) (hn : n0 ≤ h0.size) (ent : ∀ m, entryFrame m as maxL = mkF m 0 Ls [])
    (walk : ∀ (p : Program) (e : Env) (s : State) (m : MethodId) (below : List Frame) (meth : Method) (c : Code) (T : State), p.tables.exec = Jvm.exec → c.code = bytes → c.maxLocals = maxL → s.vm.findClass y.cls = some m.cls → meth.name = y.name → meth.sig.returnType = ret → meth.locks = false → Z.Warmed39 s.vm →
      Pn p l e rm s m as below meth c T h0 n0 0 0 → Go p e s below n0 Q rm T (mkF m 0 Ls [])) : Con l Z y bytes maxL ret ws rm as h0 n0 Q := by
  refine MetFree.of_bodySF hp hisR ?_
  intro p e s m args below meth c s₁ Bd hml0 hP hK
  obtain ⟨rfl, hZ, hh⟩ := hP
  have hown : s.vm.findClass y.cls = some m.cls := findClass_of_methodNamed Bd.named
  have hnm := (name_of_methodNamed Bd.named Bd.method).1
  have X0 : Stand p l e rm s m _ below meth c s₁ [] 0 0 := Stand.of_body Bd
  have e0 : s₁.heap = h0 := by rw [← hh, Bd.state]; rfl
  obtain ⟨V, h1, h2, v, L, h3, h4, h5, h6⟩ := walk p e s m below meth c s₁ Bd.exec Bd.bytes hml0 hown hnm Bd.returns Bd.notSynchronized hZ ⟨e0, by rw [hh]; exact hn, [], X0, Fr.nil n0⟩
  exact ⟨V, _, castTop (ent m) h1, h2, h3, v, L, rfl, ⟨h4, h5⟩, h6⟩
/-! the ends -/
theorem fin (X : Pn p l e R s m args below meth c T h n0 cells slots) (hlk : meth.locks = false) {v : Option Value} (hv : meth.sig.returnType = none → v = none) (hc : cells ≤ R.cells) (hs : slots ≤ R.slots) (hq : Q v h) {f : JFrame}
    (k : ∀ locs, Stand p l e R s m args below meth c T locs cells slots → ∀ fs, (∀ (f : JFrame) (acts : List Action), f.method = m → f.locked = none → f.entered = [] → (doReturn e (T.setTop f) acts v).1 = T.setFrames fs) → Steps p.tables e below (T.setTop f) (T.setFrames fs)) : Go p e s below n0 Q R T f := by
  obtain ⟨e0, hn, locs, Y, N⟩ := X
  obtain ⟨fs, hr, hrun, hended, hW, hsame⟩ := Y.leave hv hlk
  refine ⟨_, k locs Y fs hr, hrun, v, locs, hended, ?_, N, ⟨_, rfl⟩, hW, hsame.mono hc hs⟩
  show Q v T.heap
  rw [e0]; exact hq
theorem rI {z : Int32} (X : Pn p l e R s m args below meth c T h n0 cells slots) (hx : p.tables.exec = Jvm.exec) (hlk : meth.locks = false) (hret : meth.sig.returnType = some .int) (hd : decode c.code pc = .ok (.ireturn, 1)) (hc : cells ≤ R.cells) (hs : slots ≤ R.slots) (hq : Q (some (.int z)) h) :
    Go p e s below n0 Q R T (mkF m pc Ls (.int z :: S)) :=
  fin X hlk (fun q => by rw [hret] at q; cases q) hc hs hq fun _ Y fs hr => retOut Y hx hret rfl (Or.inl ⟨rfl, Or.inl rfl, z, rfl⟩) hd hr
theorem rN {z : Int32} {t : FieldType} (X : Pn p l e R s m args below meth c T h n0 cells slots) (hx : p.tables.exec = Jvm.exec) (hlk : meth.locks = false) (hret : meth.sig.returnType = some t) (ht : t = .boolean ∨ t = .byte ∨ t = .char ∨ t = .short) (hd : decode c.code pc = .ok (.ireturn, 1)) (hc : cells ≤ R.cells) (hs : slots ≤ R.slots) (hq : Q (some (.int (nar t z))) h) :
    Go p e s below n0 Q R T (mkF m pc Ls (.int z :: S)) :=
  fin X hlk (fun q => by rw [hret] at q; cases q) hc hs hq fun _ Y fs hr => retN Y hx hret ht hd hr
theorem rL {z : Int64} (X : Pn p l e R s m args below meth c T h n0 cells slots) (hx : p.tables.exec = Jvm.exec) (hlk : meth.locks = false) (hret : meth.sig.returnType = some .long) (hd : decode c.code pc = .ok (.lreturn, 1)) (hc : cells ≤ R.cells) (hs : slots ≤ R.slots) (hq : Q (some (.long z)) h) :
    Go p e s below n0 Q R T (mkF m pc Ls (.long z :: S)) :=
  fin X hlk (fun q => by rw [hret] at q; cases q) hc hs hq fun _ Y fs hr => retOut Y hx hret rfl (Or.inr (Or.inl ⟨rfl, rfl, z, rfl⟩)) hd hr
theorem rA {w : Value} {t : FieldType} (X : Pn p l e R s m args below meth c T h n0 cells slots) (hx : p.tables.exec = Jvm.exec) (hlk : meth.locks = false) (hret : meth.sig.returnType = some t) (ht : t.isReference = true) (hw : w.isRef = true) (hn : narrow t w = w) (hd : decode c.code pc = .ok (.areturn, 1)) (hc : cells ≤ R.cells) (hs : slots ≤ R.slots) (hq : Q (some w) h) :
    Go p e s below n0 Q R T (mkF m pc Ls (w :: S)) :=
  fin X hlk (fun q => by rw [hret] at q; cases q) hc hs hq fun _ Y fs hr => retOut Y hx hret hn (Or.inr (Or.inr (Or.inr (Or.inr ⟨rfl, ht, hw⟩)))) hd hr
theorem rV (X : Pn p l e R s m args below meth c T h n0 cells slots) (hx : p.tables.exec = Jvm.exec) (hlk : meth.locks = false) (hret : meth.sig.returnType = none) (hd : decode c.code pc = .ok (.return_, 1)) (hc : cells ≤ R.cells) (hs : slots ≤ R.slots) (hq : Q none h) :
    Go p e s below n0 Q R T (mkF m pc Ls []) :=
  fin X hlk (fun _ => rfl) hc hs hq fun _ Y fs hr => Y.returnOut hx hret hd hr
/-! heap and tables -/
theorem gf {own R0 O n d host : String} {index : Nat} {a : Addr} {v : Value} (X : Pn p l e R s m args below meth c T h n0 cells slots) (hx : p.tables.exec = Jvm.exec) (hZ : Z.Warmed39 s.vm) (hown : s.vm.findClass own = some m.cls) (w : (Cond.fieldLink own index R0 n d).before a0 Z = true ∨ (Cond.fieldLinkNest own index R0 n d host).before a0 Z = true) (via : Via Z R0 O n d)
    (F : Fld Z h a O n d v) (hd : decode c.code pc = .ok (.getfield index, 3)) (hp : pc + 3 = pc') (k : ∀ T', Pn p l e R s m args below meth c T' h n0 cells slots → Go p e s below n0 Q R T' (mkF m pc' Ls (v :: S))) : Go p e s below n0 Q R T (mkF m pc Ls (.ref a :: S)) := by
  subst hp
  obtain ⟨e0, hn, locs, Y, N⟩ := X
  obtain ⟨T', Y', e', st⟩ := getF Y hx hZ hown w via e0 F (g := mkF m pc Ls (.ref a :: S)) rfl rfl hd
  exact stp st (k T' ⟨e', hn, locs, Y', N⟩)
theorem gs {own R0 O n d host : String} {index : Nat} {v : Value} (X : Pn p l e R s m args below meth c T h n0 cells slots) (hx : p.tables.exec = Jvm.exec) (hZ : Z.Warmed39 s.vm) (hown : s.vm.findClass own = some m.cls) (w : (Cond.fieldLink own index R0 n d).before a0 Z = true ∨ (Cond.fieldLinkNest own index R0 n d host).before a0 Z = true) (via : Via Z R0 O n d)
    (F : Sta Z h O n d v) (hd : decode c.code pc = .ok (.getstatic index, 3)) (hp : pc + 3 = pc') (k : ∀ T', Pn p l e R s m args below meth c T' h n0 cells slots → Go p e s below n0 Q R T' (mkF m pc' Ls (v :: S))) : Go p e s below n0 Q R T (mkF m pc Ls S) := by
  subst hp
  obtain ⟨e0, hn, locs, Y, N⟩ := X
  obtain ⟨T', Y', e', st⟩ := getS2 Y hx hZ hown w via e0 F (g := mkF m pc Ls S) rfl hd
  exact stp st (k T' ⟨e', hn, locs, Y', N⟩)
theorem pf {own R0 O n d host C : String} {index kk : Nat} {ty : FieldType} {a : Addr} {v old : Value} (X : Pn p l e R s m args below meth c T h n0 cells slots) (hx : p.tables.exec = Jvm.exec) (hZ : Z.Warmed39 s.vm) (hown : s.vm.findClass own = some m.cls) (w : (Cond.fieldLink own index R0 n d).before a0 Z = true ∨ (Cond.fieldLinkNest own index R0 n d host).before a0 Z = true) (via : Via Z R0 O n d)
    (F : Fld Z h a O n d old) (E : Exa Z h a C) (L : (Cond.lays C O n d).before a0 Z = true ∨ ((Cond.laysFinal C O n d).before a0 Z = true ∧ own = O ∧ meth.name = "<init>")) (wi : (Cond.instantiable C kk).before a0 Z = true)
    (hty : parseFieldDescriptor d = some ty) (hn : narrow ty v = v) (hf : fits ty v = true) (ge : n0 ≤ a) (hd : decode c.code pc = .ok (.putfield index, 3)) (hp : pc + 3 = pc')
    (k : ∀ T' h', Pn p l e R s m args below meth c T' h' n0 cells slots → Wr h h' a (Jvm.RoadKit.slotOf Z O n d) v → Go p e s below n0 Q R T' (mkF m pc' Ls S)) : Go p e s below n0 Q R T (mkF m pc Ls (v :: .ref a :: S)) := by
  subst hp
  obtain ⟨e0, hm, locs, Y, N⟩ := X
  obtain ⟨T', h', Y', e', W, st⟩ := putF Y hx hZ hown w via e0 F E L wi hty hn hf (g := mkF m pc Ls (v :: .ref a :: S)) rfl rfl hd
  exact stp st (k T' h' ⟨e', hm, _, Y', Fr.snoc Y' N ge⟩ W)
theorem nw {own C : String} {index n : Nat} (X : Pn p l e R s m args below meth c T h n0 cells slots) (hx : p.tables.exec = Jvm.exec) (hZ : Z.Warmed39 s.vm) (hown : s.vm.findClass own = some m.cls) (w : (Cond.classLink own index C).before a0 Z = true) (wi : (Cond.instantiable C n).before a0 Z = true) (wz : (Cond.initialized C).before a0 Z = true)
    (hd : decode c.code pc = .ok (.new index, 3)) (hp : pc + 3 = pc') (hc : cells + 1 ≤ R.cells) (hl : slots + n ≤ R.slots)
    (k : ∀ T' h' b, Pn p l e R s m args below meth c T' h' n0 (cells + 1) (slots + n) → b = h.size → n0 ≤ b → Ext h h' → Exa Z h' b C → (∀ {O nm d : String} {ty : FieldType}, Laid Z a0 C O nm d → parseFieldDescriptor d = some ty → Fld Z h' b O nm d (defaultValue ty)) → Go p e s below n0 Q R T' (mkF m pc' Ls (.ref b :: S))) :
    Go p e s below n0 Q R T (mkF m pc Ls S) := by
  subst hp
  have q := X.le
  obtain ⟨e0, hn, locs, Y, N⟩ := X
  obtain ⟨T', h', Y', e', E', A', D', -, st⟩ := newO Y hx hZ hown w wi wz e0 (g := mkF m pc Ls S) rfl hd hc hl
  exact stp st (k T' h' _ ⟨e', hn, _, Y', N⟩ rfl q E' A' D')
theorem oi {own : String} {idx : Nat} {a : Addr} {W : Nat} (X : Pn p l e R s m args below meth c T h n0 cells slots) (hx : p.tables.exec = Jvm.exec) (hZ : Z.Warmed39 s.vm) (hown : s.vm.findClass own = some m.cls) (w1 : (Cond.methodLink own idx Lib.objectInit).before a0 Z = true) (w2 : (Cond.instanceMethod Lib.objectInit).before a0 Z = true) (w3 : (Cond.code Lib.objectInit ⟨#[0xb1]⟩ 1 none).before a0 Z = true)
    (hsize : Ls.size = c.maxLocals) (hd : decode c.code pc = .ok (.invokespecial idx, 3)) (hp : pc + 3 = pc') (hf : 1 ≤ R.frames) (hW : (S.map fun v => v.category).sum ≤ W) (hl : W + 12 ≤ R.locals)
    (k : ∀ T', Pn p l e R s m args below meth c T' h n0 cells slots → Go p e s below n0 Q R T' (mkF m pc' Ls S)) : Go p e s below n0 Q R T (mkF m pc Ls (.ref a :: S)) := by
  subst hp
  obtain ⟨e0, hn, locs, Y, N⟩ := X
  obtain ⟨T', Y', e', st⟩ := initO Y hx hZ hown w1 w2 w3 e0 (g := mkF m pc Ls (.ref a :: S)) rfl hsize rfl hd hf (W := W) (by show 2 * 0 + _ ≤ _; omega) hl
  exact stp st (k T' ⟨e', hn, locs, Y', N⟩)
/-! calls by their contracts -/
theorem cS {own : String} {index : Nat} {y : MethodName} {bytes : ByteArray} {maxL : Nat} {ret : Option FieldType} {rm : Room} {as : Array Value} {Q' : Option Value → Heap → Prop} (W : Nat) (argsL : List Value) (X : Pn p l e R s m args below meth c T h n0 cells slots) (hx : p.tables.exec = Jvm.exec) (hZ : Z.Warmed39 s.vm) (hown : s.vm.findClass own = some m.cls)
    (w1 : (Cond.methodLink own index y).before a0 Z = true) (w2 : (Cond.static y).before a0 Z = true) (w3 : (Cond.initialized y.cls).before a0 Z = true) (w4 : (Cond.code y bytes maxL ret).before a0 Z = true) (hy : y.cls ≠ "java/lang/invoke/MethodHandle" ∧ y.cls ≠ "java/lang/invoke/VarHandle")
    (hM : Con l Z y bytes maxL ret [] rm as h n0 Q') (hf : rm.frames + 1 ≤ R.frames) (hl : W + (maxL + 11) + rm.locals ≤ R.locals) (hsz : Ls.size = c.maxLocals) (has : as = argsL.toArray) (hlen : ∀ sig, parseMethodDescriptor y.desc = some sig → argsL.length = sig.parameters.length) (hst : S = argsL.reverse ++ rest) (hW : (rest.map fun v => v.category).sum ≤ W)
    (hd : decode c.code pc = .ok (.invokestatic index, 3)) (hp : pc + 3 = pc') (hc : cells + rm.cells ≤ R.cells) (hs : slots + rm.slots ≤ R.slots)
    (k : ∀ v T' h', Pn p l e R s m args below meth c T' h' n0 (cells + rm.cells) (slots + rm.slots) → Q' v h' → Go p e s below n0 Q R T' (mkF m pc' Ls (v.toList ++ rest))) : Go p e s below n0 Q R T (mkF m pc Ls S) := by
  subst hp has
  obtain ⟨e0, hn, locs, Y, N⟩ := X
  obtain ⟨v, _, ⟨T', L', k', n'⟩, -, Y', ⟨Lc, ⟨hq, hN⟩, l', y', z'⟩, st⟩ := Jvm.LawKit.callS Y hx (y := y) hown (mvT hZ w1) (mvT hZ w2) (mvT hZ w3) (mvT hZ w4) hy (backOf (W := W) (Q := fun v h L => Q' v h ∧ Fr n0 L) hM hZ w4 w3 hf hl) (g := mkF m pc Ls S) rfl hsz (argsL := argsL) (rest := rest) hlen hst (by show 2 * 0 + _ ≤ _; omega) hd (fun _ _ => ⟨rfl, e0, hc, hs⟩)
  dsimp only [Pt.U, Pt.locs, Pt.cells, Pt.slots] at Y' l' y' z' st hq
  subst l' y' z'
  exact stp st (k v T' _ ⟨rfl, hn, _, Y', N.app hN⟩ hq)
theorem cI {own : String} {index : Nat} {y : MethodName} {bytes : ByteArray} {maxL : Nat} {rm : Room} {as : Array Value} {a : Addr} {Q' : Option Value → Heap → Prop} (W : Nat) (argsL : List Value) (X : Pn p l e R s m args below meth c T h n0 cells slots) (hx : p.tables.exec = Jvm.exec) (hZ : Z.Warmed39 s.vm) (hown : s.vm.findClass own = some m.cls) (hy1 : y.name = "<init>")
    (w1 : (Cond.methodLink own index y).before a0 Z = true) (w2 : (Cond.instanceMethod y).before a0 Z = true) (w3 : (Cond.initialized y.cls).before a0 Z = true) (w4 : (Cond.code y bytes maxL none).before a0 Z = true) (hy : y.cls ≠ "java/lang/invoke/MethodHandle" ∧ y.cls ≠ "java/lang/invoke/VarHandle")
    (hM : Con l Z y bytes maxL none [] rm as h n0 Q') (hf : rm.frames + 1 ≤ R.frames) (hl : W + (maxL + 11) + rm.locals ≤ R.locals) (hsz : Ls.size = c.maxLocals) (has : as = (.ref a :: argsL).toArray) (hlen : ∀ sig, parseMethodDescriptor y.desc = some sig → argsL.length = sig.parameters.length) (hst : S = argsL.reverse ++ .ref a :: rest) (hW : (rest.map fun v => v.category).sum ≤ W)
    (hd : decode c.code pc = .ok (.invokespecial index, 3)) (hp : pc + 3 = pc') (hc : cells + rm.cells ≤ R.cells) (hs : slots + rm.slots ≤ R.slots)
    (k : ∀ v T' h', Pn p l e R s m args below meth c T' h' n0 (cells + rm.cells) (slots + rm.slots) → Q' v h' → Go p e s below n0 Q R T' (mkF m pc' Ls (v.toList ++ rest))) : Go p e s below n0 Q R T (mkF m pc Ls S) := by
  subst hp has
  obtain ⟨e0, hn, locs, Y, N⟩ := X
  obtain ⟨v, _, ⟨T', L', k', n'⟩, -, Y', ⟨Lc, ⟨hq, hN⟩, l', y', z'⟩, st⟩ := Y.specialBack hx (y := y) hy1 hown (mvT hZ w1) (mvT hZ w2) (mvT hZ w4) hy (backOf (W := W) (Q := fun v h L => Q' v h ∧ Fr n0 L) hM hZ w4 w3 hf hl) (g := mkF m pc Ls S) rfl hsz (Steps.refl _) (a := a) (argsL := argsL) (rest := rest) hlen hst (by show 2 * 0 + _ ≤ _; omega) hd (fun _ _ => ⟨rfl, e0, hc, hs⟩)
  dsimp only [Pt.U, Pt.locs, Pt.cells, Pt.slots] at Y' l' y' z' st hq
  subst l' y' z'
  exact stp (fun _ q => st.trans q) (k v T' _ ⟨rfl, hn, _, Y', N.app hN⟩ hq)
theorem cV {own C : String} {index : Nat} {y : MethodName} {bytes : ByteArray} {maxL : Nat} {ret : Option FieldType} {rm : Room} {as : Array Value} {a : Addr} {Q' : Option Value → Heap → Prop} (W : Nat) (argsL : List Value) (X : Pn p l e R s m args below meth c T h n0 cells slots) (hx : p.tables.exec = Jvm.exec) (hZ : Z.Warmed39 s.vm) (hown : s.vm.findClass own = some m.cls)
    (w1 : (Cond.methodLink own index y).before a0 Z = true) (w2 : (Cond.declares y).before a0 Z = true) (w5 : (Cond.selects C y y).before a0 Z = true) (w6 : (Cond.instanceMethod y).before a0 Z = true) (w3 : (Cond.initialized y.cls).before a0 Z = true) (w4 : (Cond.code y bytes maxL ret).before a0 Z = true) (hy : y.cls ≠ "java/lang/invoke/MethodHandle" ∧ y.cls ≠ "java/lang/invoke/VarHandle")
    (hE : Exa Z h a C) (hM : Con l Z y bytes maxL ret [] rm as h n0 Q') (hf : rm.frames + 1 ≤ R.frames) (hl : W + (maxL + 11) + rm.locals ≤ R.locals) (hsz : Ls.size = c.maxLocals) (has : as = (.ref a :: argsL).toArray) (hlen : ∀ sig, parseMethodDescriptor y.desc = some sig → argsL.length = sig.parameters.length) (hst : S = argsL.reverse ++ .ref a :: rest) (hW : (rest.map fun v => v.category).sum ≤ W)
    (hd : decode c.code pc = .ok (.invokevirtual index, 3)) (hp : pc + 3 = pc') (hc : cells + rm.cells ≤ R.cells) (hs : slots + rm.slots ≤ R.slots)
    (k : ∀ v T' h', Pn p l e R s m args below meth c T' h' n0 (cells + rm.cells) (slots + rm.slots) → Q' v h' → Go p e s below n0 Q R T' (mkF m pc' Ls (v.toList ++ rest))) : Go p e s below n0 Q R T (mkF m pc Ls S) := by
  subst hp has
  obtain ⟨e0, hn, locs, Y, N⟩ := X
  obtain ⟨cq, kq, q1, q2, q3⟩ := isOf hZ e0 hE
  obtain ⟨v, _, ⟨T', L', k', n'⟩, -, Y', ⟨Lc, ⟨hq, hN⟩, l', y', z'⟩, st⟩ := Y.virtualBack hx (y := y) (z := y) hown (mvT hZ w1) (mvT hZ w2) (notFace_of_selects (args := #[]) (mvT hZ w5)) (mvT hZ w5) (mvT hZ w6) hy (backOf (W := W) (Q := fun v h L => Q' v h ∧ Fr n0 L) hM hZ w4 w3 hf hl) q1 q3 (g := mkF m pc Ls S) rfl hsz (Steps.refl _) (argsL := argsL) (rest := rest) hlen hst (by show 2 * 0 + _ ≤ _; omega) hd (fun _ _ => ⟨rfl, e0, hc, hs⟩)
  dsimp only [Pt.U, Pt.locs, Pt.cells, Pt.slots] at Y' l' y' z' st hq
  subst l' y' z'
  exact stp (fun _ q => st.trans q) (k v T' _ ⟨rfl, hn, _, Y', N.app hN⟩ hq)
theorem cP {own : String} {index kk : Nat} {y : MethodName} {bytes : ByteArray} {maxL : Nat} {ret : Option FieldType} {rm : Room} {as : Array Value} {a : Addr} {C : String} {Q' : Option Value → Heap → Prop} (W : Nat) (argsL : List Value) (X : Pn p l e R s m args below meth c T h n0 cells slots) (hx : p.tables.exec = Jvm.exec) (hZ : Z.Warmed39 s.vm) (hown : s.vm.findClass own = some m.cls)
    (w1 : (Cond.methodLink own index y).before a0 Z = true) (w6 : (Cond.instanceMethod y).before a0 Z = true) (wp : (Cond.privateMethod y).before a0 Z = true) (wi : (Cond.instantiable y.cls kk).before a0 Z = true) (w3 : (Cond.initialized y.cls).before a0 Z = true) (w4 : (Cond.code y bytes maxL ret).before a0 Z = true) (hy : y.cls ≠ "java/lang/invoke/MethodHandle" ∧ y.cls ≠ "java/lang/invoke/VarHandle")
    (hE : Exa Z h a C) (hM : Con l Z y bytes maxL ret [] rm as h n0 Q') (hf : rm.frames + 1 ≤ R.frames) (hl : W + (maxL + 11) + rm.locals ≤ R.locals) (hsz : Ls.size = c.maxLocals) (has : as = (.ref a :: argsL).toArray) (hlen : ∀ sig, parseMethodDescriptor y.desc = some sig → argsL.length = sig.parameters.length) (hst : S = argsL.reverse ++ .ref a :: rest) (hW : (rest.map fun v => v.category).sum ≤ W)
    (hd : decode c.code pc = .ok (.invokevirtual index, 3)) (hp : pc + 3 = pc') (hc : cells + rm.cells ≤ R.cells) (hs : slots + rm.slots ≤ R.slots)
    (k : ∀ v T' h', Pn p l e R s m args below meth c T' h' n0 (cells + rm.cells) (slots + rm.slots) → Q' v h' → Go p e s below n0 Q R T' (mkF m pc' Ls (v.toList ++ rest))) : Go p e s below n0 Q R T (mkF m pc Ls S) := by
  subst hp has
  obtain ⟨e0, hn, locs, Y, N⟩ := X
  obtain ⟨cq, q1, q2⟩ := hE.cell
  have mi : (Cond.instantiable y.cls kk).before args s = true := mvT hZ wi
  obtain ⟨cc, kc, u1, u2, -, u3, -⟩ := Cond.instantiable_spec mi
  have hpv := Cond.privateMethod_at (mvP hZ wp (args := #[]))
  have hse := selects_self_of_private (args := args) u1 u2 (by rw [Bool.or_eq_false_iff] at u3; exact u3.1) hpv (mvT hZ w6) hy
  obtain ⟨v, _, ⟨T', L', k', n'⟩, -, Y', ⟨Lc, ⟨hq, hN⟩, l', y', z'⟩, st⟩ := Y.privateBack hx (y := y) hown (mvT hZ w1) (mvT hZ w6) hse hpv (mvT hZ w4) hy (backOf (W := W) (Q := fun v h L => Q' v h ∧ Fr n0 L) hM hZ w4 w3 hf hl) (g := mkF m pc Ls S) rfl hsz (Steps.refl _) (a := a) (by rw [e0]; exact q1) q2 (argsL := argsL) (rest := rest) hlen hst (by show 2 * 0 + _ ≤ _; omega) hd (fun _ _ => ⟨rfl, e0, hc, hs⟩)
  dsimp only [Pt.U, Pt.locs, Pt.cells, Pt.slots] at Y' l' y' z' st hq
  subst l' y' z'
  exact stp (fun _ q => st.trans q) (k v T' _ ⟨rfl, hn, _, Y', N.app hN⟩ hq)
theorem cF {own C : String} {index count : Nat} {y z : MethodName} {bytes : ByteArray} {maxL : Nat} {ret : Option FieldType} {rm : Room} {as : Array Value} {a : Addr} {Q' : Option Value → Heap → Prop} (W : Nat) (argsL : List Value) (X : Pn p l e R s m args below meth c T h n0 cells slots) (hx : p.tables.exec = Jvm.exec) (hZ : Z.Warmed39 s.vm) (hown : s.vm.findClass own = some m.cls)
    (w1 : (Cond.methodLink own index y).before a0 Z = true) (w2 : (Cond.declares y).before a0 Z = true) (w7 : (Cond.interfaceMethod y.cls y.cls y.name y.desc).before a0 Z = true) (w5 : (Cond.selects C y z).before a0 Z = true) (w6 : (Cond.instanceMethod z).before a0 Z = true) (w8 : (Cond.publicMethod z).before a0 Z = true) (w9 : (Cond.unhidden C y.name y.desc).before a0 Z = true) (w10 : (Cond.castable C y.cls).before a0 Z = true)
    (w3 : (Cond.initialized z.cls).before a0 Z = true) (w4 : (Cond.code z bytes maxL ret).before a0 Z = true) (hy : y.cls ≠ "java/lang/invoke/MethodHandle" ∧ y.cls ≠ "java/lang/invoke/VarHandle")
    (hE : Exa Z h a C) (hM : Con l Z z bytes maxL ret [] rm as h n0 Q') (hf : rm.frames + 1 ≤ R.frames) (hl : W + (maxL + 11) + rm.locals ≤ R.locals) (hsz : Ls.size = c.maxLocals) (has : as = (.ref a :: argsL).toArray) (hlen : ∀ sig, parseMethodDescriptor y.desc = some sig → argsL.length = sig.parameters.length) (hst : S = argsL.reverse ++ .ref a :: rest) (hW : (rest.map fun v => v.category).sum ≤ W)
    (hd : decode c.code pc = .ok (.invokeinterface index count, 5)) (hp : pc + 5 = pc') (hc : cells + rm.cells ≤ R.cells) (hs : slots + rm.slots ≤ R.slots)
    (k : ∀ v T' h', Pn p l e R s m args below meth c T' h' n0 (cells + rm.cells) (slots + rm.slots) → Q' v h' → Go p e s below n0 Q R T' (mkF m pc' Ls (v.toList ++ rest))) : Go p e s below n0 Q R T (mkF m pc Ls S) := by
  subst hp has
  obtain ⟨e0, hn, locs, Y, N⟩ := X
  obtain ⟨cq, kq, q1, q2, q3⟩ := isOf hZ e0 hE
  obtain ⟨v, _, ⟨T', L', k', n'⟩, -, Y', ⟨Lc, ⟨hq, hN⟩, l', y', z'⟩, st⟩ := Y.interfaceBack hx (xi := y) (y := z) hown (mvT hZ w1) (mvT hZ w2) (mvT hZ w7 (by simp [Cond.onTables, Cond.keepsFace, Cond.faceAtom, hy.1, hy.2])) (mvT hZ w5) (mvT hZ w6) (mvT hZ w8) (mvT hZ w9) (mvT hZ w10) hy (backOf (W := W) (Q := fun v h L => Q' v h ∧ Fr n0 L) hM hZ w4 w3 hf hl) q1 q2 q3 (g := mkF m pc Ls S) rfl hsz (Steps.refl _) (argsL := argsL) (rest := rest) hlen hst (by show 2 * 0 + _ ≤ _; omega) hd (fun _ _ => ⟨rfl, e0, hc, hs⟩)
  dsimp only [Pt.U, Pt.locs, Pt.cells, Pt.slots] at Y' l' y' z' st hq
  subst l' y' z'
  exact stp (fun _ q => st.trans q) (k v T' _ ⟨rfl, hn, _, Y', N.app hN⟩ hq)
theorem ioY {own K : String} {index : Nat} {a : Addr} (X : Pn p l e R s m args below meth c T h n0 cells slots) (hx : p.tables.exec = Jvm.exec) (hZ : Z.Warmed39 s.vm) (hown : s.vm.findClass own = some m.cls) (w : (Cond.classLink own index K).before a0 Z = true) (F : Ins Z h a K true) (hd : decode c.code pc = .ok (.instanceof index, 3)) (hp : pc + 3 = pc')
    (k : ∀ T', Pn p l e R s m args below meth c T' h n0 cells slots → Go p e s below n0 Q R T' (mkF m pc' Ls (.int 1 :: S))) : Go p e s below n0 Q R T (mkF m pc Ls (.ref a :: S)) := by
  subst hp
  obtain ⟨e0, hn, locs, Y, N⟩ := X
  obtain ⟨T', Y', e', st⟩ := instY Y hx hZ hown w e0 F (g := mkF m pc Ls (.ref a :: S)) rfl rfl hd
  exact stp st (k T' ⟨e', hn, locs, Y', N⟩)
theorem ioN {own K C : String} {index : Nat} {a : Addr} (X : Pn p l e R s m args below meth c T h n0 cells slots) (hx : p.tables.exec = Jvm.exec) (hZ : Z.Warmed39 s.vm) (hown : s.vm.findClass own = some m.cls) (w : (Cond.classLink own index K).before a0 Z = true) (E : Exa Z h a C) (F : ∃ c t, Z.vm.findClass C = some c ∧ Z.vm.findClass K = some t ∧ Z.vm.assignable c t = false) (hd : decode c.code pc = .ok (.instanceof index, 3)) (hp : pc + 3 = pc')
    (k : ∀ T', Pn p l e R s m args below meth c T' h n0 cells slots → Go p e s below n0 Q R T' (mkF m pc' Ls (.int 0 :: S))) : Go p e s below n0 Q R T (mkF m pc Ls (.ref a :: S)) := by
  subst hp
  obtain ⟨e0, hn, locs, Y, N⟩ := X
  obtain ⟨T', Y', e', st⟩ := instNo Y hx hZ hown w e0 E F (g := mkF m pc Ls (.ref a :: S)) rfl rfl hd
  exact stp st (k T' ⟨e', hn, locs, Y', N⟩)
theorem ioZ {index : Nat} (X : Pn p l e R s m args below meth c T h n0 cells slots) (hx : p.tables.exec = Jvm.exec) (hd : decode c.code pc = .ok (.instanceof index, 3)) (hp : pc + 3 = pc')
    (k : Go p e s below n0 Q R T (mkF m pc' Ls (.int 0 :: S))) : Go p e s below n0 Q R T (mkF m pc Ls (.null :: S)) := by
  subst hp
  obtain ⟨e0, hn, locs, Y, N⟩ := X
  exact stp (Y.instanceofNull hx (g := mkF m pc Ls (.null :: S)) rfl rfl hd) k
theorem ccY {own K : String} {index : Nat} {a : Addr} (X : Pn p l e R s m args below meth c T h n0 cells slots) (hx : p.tables.exec = Jvm.exec) (hZ : Z.Warmed39 s.vm) (hown : s.vm.findClass own = some m.cls) (w : (Cond.classLink own index K).before a0 Z = true) (F : Ins Z h a K true) (hd : decode c.code pc = .ok (.checkcast index, 3)) (hp : pc + 3 = pc')
    (k : ∀ T', Pn p l e R s m args below meth c T' h n0 cells slots → Go p e s below n0 Q R T' (mkF m pc' Ls (.ref a :: S))) : Go p e s below n0 Q R T (mkF m pc Ls (.ref a :: S)) := by
  subst hp
  obtain ⟨e0, hn, locs, Y, N⟩ := X
  obtain ⟨T', Y', e', st⟩ := castY Y hx hZ hown w e0 F (g := mkF m pc Ls (.ref a :: S)) rfl rfl hd
  exact stp st (k T' ⟨e', hn, locs, Y', N⟩)
theorem own_nsRoot {O K : String} {kk : Nat} (w : (Cond.noSuperclass O).before a0 Z = true) (wk : (Cond.instantiable K kk).before a0 Z = true) (hn : O ≠ K) : NS Z O K := by
  obtain ⟨c, k, h1, h2, h3, -, -⟩ := Cond.noSuperclass_spec w
  obtain ⟨t, _, g1, -⟩ := Cond.instantiable_spec wk
  have ne := ids_ne h1 g1 hn
  refine ⟨c, t, h1, g1, fun fuel => ?_⟩
  cases fuel with
  | zero => rfl
  | succ f => simp [Vm.isSubclassAux, ne, h2, h3]
theorem own_nsNo {C U K : String} {kk : Nat} (w : (Cond.superclass C U).before a0 Z = true) (wk : (Cond.instantiable K kk).before a0 Z = true) (n : NS Z C K) (hn : C ≠ K) : ∃ c t, Z.vm.findClass C = some c ∧ Z.vm.findClass K = some t ∧ Z.vm.assignable c t = false := by
  obtain ⟨c, t, h0, g0, n3⟩ := n
  obtain ⟨q, k, kp, h1, h2, h3, h4, h5, -, h7⟩ := Cond.superclass_spec h0 w
  obtain ⟨t', k', g1, g2, g3, g4, -⟩ := Cond.instantiable_spec wk
  cases g0.symm.trans g1
  have g7 : k'.isInterface = false := by rw [Bool.or_eq_false_iff] at g4; exact g4.1
  have ne := ids_ne h0 g0 hn
  refine ⟨c, t, h0, g0, ?_⟩
  show Z.vm.assignableAux (255 + 1) c t = false
  simp [Vm.assignableAux, ne, h2, g2, h5, g3, g7, Vm.isSubclass, n3]
/-! arrays: n places, the i-th holds f i -/
def Av (Z : State) (h : Heap) (a : Addr) (ty : FieldType) (n : Nat) (f : Nat → Value) : Prop := ∃ c : Cell, Arr Z h a c ty ∧ c.slots.size = n ∧ ∀ i, i < n → c.slots[i]? = some (f i)
theorem Av.lt {a : Addr} {ty : FieldType} {n : Nat} {f : Nat → Value} (F : Av Z h a ty n f) : a < h.size := by obtain ⟨c, A, -⟩ := F; exact A.lt
theorem Av.ext {h' : Heap} {a : Addr} {ty : FieldType} {n : Nat} {f : Nat → Value} (F : Av Z h a ty n f) (E : Ext h h') : Av Z h' a ty n f := by obtain ⟨c, A, r⟩ := F; exact ⟨c, A.ext E, r⟩
theorem Av.other {h' : Heap} {a b : Addr} {ty : FieldType} {n sl : Nat} {v : Value} {f : Nat → Value} (F : Av Z h b ty n f) (W : Wr h h' a sl v) (q : b ≠ a) : Av Z h' b ty n f := by obtain ⟨c, A, r⟩ := F; exact ⟨c, A.other W q, r⟩
theorem Av.keep {h' : Heap} {a : Addr} {ws : List Addr} {ty : FieldType} {n : Nat} {f : Nat → Value} (F : Av Z h a ty n f) (K : Keep h h' ws) (q : a ∉ ws) : Av Z h' a ty n f := by obtain ⟨c, A, r⟩ := F; exact ⟨c, ⟨K.2.1 a c A.1 q, A.2⟩, r⟩
theorem Av.same {h' : Heap} {a : Addr} {ty : FieldType} {n j : Nat} {v : Value} {f : Nat → Value} (F : Av Z h a ty n f) (W : Wr h h' a j v) : Av Z h' a ty n (fun i => if i = j then v else f i) := by
  obtain ⟨c, A, q, r⟩ := F
  refine ⟨c.setSlot j v, A.same W, by rw [sz_set]; exact q, fun i hi => ?_⟩
  obtain ⟨c', e1, -, -, -, -, e6, e7⟩ := wr_at W A.1
  obtain ⟨e8, e9, -⟩ := e7 rfl
  by_cases hj : i = j
  · subst hj; show _ = some (if i = i then v else f i); rw [if_pos rfl, ← e8]; exact e9
  · show _ = some (if i = j then v else f i); rw [if_neg hj, ← e8, e6 _ hj]; exact r i hi
theorem Av.congr {a : Addr} {ty : FieldType} {n : Nat} {f g : Nat → Value} (F : Av Z h a ty n f) (q : ∀ i, i < n → f i = g i) : Av Z h a ty n g := by obtain ⟨c, A, r, u⟩ := F; exact ⟨c, A, r, fun i hi => by rw [u i hi, q i hi]⟩
theorem na {aty : ArrayType} {z : Int32} (cap : Nat) (X : Pn p l e R s m args below meth c T h n0 cells slots) (hx : p.tables.exec = Jvm.exec) (hZ : Z.Warmed39 s.vm) (w : (Cond.arrayClass (newarray.typeOf aty)).before a0 Z = true) (hd : decode c.code pc = .ok (.newarray aty, 2)) (hp : pc + 2 = pc') (hz : ¬ z < 0) (hcap : z.toNatClampNeg ≤ cap) (hb : cap * 8 ≤ 536870912) (hc : cells + 1 ≤ R.cells) (hl : slots + cap ≤ R.slots)
    (k : ∀ T' h' b, Pn p l e R s m args below meth c T' h' n0 (cells + 1) (slots + cap) → b = h.size → n0 ≤ b → Ext h h' → Av Z h' b (newarray.typeOf aty) z.toNatClampNeg (fun _ => defaultValue (newarray.typeOf aty)) → Go p e s below n0 Q R T' (mkF m pc' Ls (.ref b :: S))) :
    Go p e s below n0 Q R T (mkF m pc Ls (.int z :: S)) := by
  subst hp
  have q := X.le
  obtain ⟨e0, hn, locs, Y, N⟩ := X
  obtain ⟨T', h', k', Y', e', E', A', st⟩ := newP Y hx hZ w e0 (g := mkF m pc Ls (.int z :: S)) rfl hd rfl hz hcap hb hc hl
  refine stp st (k T' h' _ ⟨e', hn, _, Y', N⟩ rfl q E' ⟨_, A', sz_new _ _ _, fun i hi => ?_⟩)
  simp [newA, hi]
theorem len {a : Addr} {ty : FieldType} {n : Nat} {f : Nat → Value} (z : Int32) (X : Pn p l e R s m args below meth c T h n0 cells slots) (hx : p.tables.exec = Jvm.exec) (hZ : Z.Warmed39 s.vm) (A : Av Z h a ty n f) (hz : n.toInt32 = z) (hd : decode c.code pc = .ok (.arraylength, 1)) (hp : pc + 1 = pc')
    (k : Go p e s below n0 Q R T (mkF m pc' Ls (.int z :: S))) : Go p e s below n0 Q R T (mkF m pc Ls (.ref a :: S)) := by
  subst hp hz
  obtain ⟨e0, hn, locs, Y, N⟩ := X
  obtain ⟨cl, Ar, S0, r⟩ := A
  subst S0
  exact stp (fun t q => Y.arraylength hx (by rw [e0]; exact Ar.1) (State.isArrayOf_alike hZ.alike Ar.2.1) (g := mkF m pc Ls (.ref a :: S)) rfl rfl hd t q) k
theorem inn {cl : Cell} {n : Nat} {j : Int32} (S0 : cl.slots.size = n) (q : ¬ j < 0) (r : j.toNatClampNeg < n) : ¬ (j < 0 ∨ cl.slots.size ≤ j.toNatClampNeg) := fun u => u.elim q fun v => by omega
theorem ldI {a : Addr} {n : Nat} {f : Nat → Value} {j : Int32} {v : Value} (X : Pn p l e R s m args below meth c T h n0 cells slots) (hx : p.tables.exec = Jvm.exec) (hZ : Z.Warmed39 s.vm) (A : Av Z h a .int n f) (q : ¬ j < 0) (r : j.toNatClampNeg < n) (hv : f j.toNatClampNeg = v) (hd : decode c.code pc = .ok (.iaload, 1)) (hp : pc + 1 = pc')
    (k : Go p e s below n0 Q R T (mkF m pc' Ls (v :: S))) : Go p e s below n0 Q R T (mkF m pc Ls (.int j :: .ref a :: S)) := by
  subst hp hv
  obtain ⟨e0, hn, locs, Y, N⟩ := X
  obtain ⟨cl, Ar, S0, u⟩ := A
  exact stp (fun t y => Y.iaload hx (by rw [e0]; exact Ar.1) (State.isArrayOf_alike hZ.alike Ar.2.1) Ar.2.2 (inn S0 q r) (u _ r) (g := mkF m pc Ls (.int j :: .ref a :: S)) rfl rfl hd t y) k
theorem ldJ {a : Addr} {n : Nat} {f : Nat → Value} {j : Int32} {v : Value} (X : Pn p l e R s m args below meth c T h n0 cells slots) (hx : p.tables.exec = Jvm.exec) (hZ : Z.Warmed39 s.vm) (A : Av Z h a .long n f) (q : ¬ j < 0) (r : j.toNatClampNeg < n) (hv : f j.toNatClampNeg = v) (hd : decode c.code pc = .ok (.laload, 1)) (hp : pc + 1 = pc')
    (k : Go p e s below n0 Q R T (mkF m pc' Ls (v :: S))) : Go p e s below n0 Q R T (mkF m pc Ls (.int j :: .ref a :: S)) := by
  subst hp hv
  obtain ⟨e0, hn, locs, Y, N⟩ := X
  obtain ⟨cl, Ar, S0, u⟩ := A
  exact stp (fun t y => Y.laload hx (by rw [e0]; exact Ar.1) (State.isArrayOf_alike hZ.alike Ar.2.1) Ar.2.2 (inn S0 q r) (u _ r) (g := mkF m pc Ls (.int j :: .ref a :: S)) rfl rfl hd t y) k
theorem ldB {a : Addr} {n : Nat} {f : Nat → Value} {j : Int32} {v : Value} (X : Pn p l e R s m args below meth c T h n0 cells slots) (hx : p.tables.exec = Jvm.exec) (hZ : Z.Warmed39 s.vm) (A : Av Z h a .byte n f) (q : ¬ j < 0) (r : j.toNatClampNeg < n) (hv : f j.toNatClampNeg = v) (hd : decode c.code pc = .ok (.baload, 1)) (hp : pc + 1 = pc')
    (k : Go p e s below n0 Q R T (mkF m pc' Ls (v :: S))) : Go p e s below n0 Q R T (mkF m pc Ls (.int j :: .ref a :: S)) := by
  subst hp hv
  obtain ⟨e0, hn, locs, Y, N⟩ := X
  obtain ⟨cl, Ar, S0, u⟩ := A
  exact stp (fun t y => Y.baloadBytes hx (by rw [e0]; exact Ar.1) (State.isArrayOf_alike hZ.alike Ar.2.1) Ar.2.2 (inn S0 q r) (u _ r) (g := mkF m pc Ls (.int j :: .ref a :: S)) rfl rfl hd t y) k
theorem ldR {a : Addr} {ty : FieldType} {n : Nat} {f : Nat → Value} {j : Int32} {v : Value} (X : Pn p l e R s m args below meth c T h n0 cells slots) (hx : p.tables.exec = Jvm.exec) (hZ : Z.Warmed39 s.vm) (A : Av Z h a ty n f) (hty : ty.isReference = true) (q : ¬ j < 0) (r : j.toNatClampNeg < n) (hv : f j.toNatClampNeg = v) (hd : decode c.code pc = .ok (.aaload, 1)) (hp : pc + 1 = pc')
    (k : Go p e s below n0 Q R T (mkF m pc' Ls (v :: S))) : Go p e s below n0 Q R T (mkF m pc Ls (.int j :: .ref a :: S)) := by
  subst hp hv
  obtain ⟨e0, hn, locs, Y, N⟩ := X
  obtain ⟨cl, Ar, S0, u⟩ := A
  exact stp (fun t y => Y.aaload hx (by rw [e0]; exact Ar.1) (State.isArrayOf_alike hZ.alike Ar.2.1) hty Ar.2.2 (inn S0 q r) (u _ r) (g := mkF m pc Ls (.int j :: .ref a :: S)) rfl rfl hd t y) k
theorem saI {a : Addr} {n : Nat} {f : Nat → Value} {j x : Int32} (X : Pn p l e R s m args below meth c T h n0 cells slots) (hx : p.tables.exec = Jvm.exec) (hZ : Z.Warmed39 s.vm) (A : Av Z h a .int n f) (ge : n0 ≤ a) (q : ¬ j < 0) (r : j.toNatClampNeg < n) (hd : decode c.code pc = .ok (.iastore, 1)) (hp : pc + 1 = pc')
    (k : ∀ T' h', Pn p l e R s m args below meth c T' h' n0 cells slots → Wr h h' a j.toNatClampNeg (.int x) → Go p e s below n0 Q R T' (mkF m pc' Ls S)) : Go p e s below n0 Q R T (mkF m pc Ls (.int x :: .int j :: .ref a :: S)) := by
  subst hp
  obtain ⟨e0, hn, locs, Y, N⟩ := X
  obtain ⟨cl, Ar, S0, u⟩ := A
  obtain ⟨T', h', Y', e', W', st⟩ := stI Y hx hZ e0 Ar (inn S0 q r) (g := mkF m pc Ls (.int x :: .int j :: .ref a :: S)) rfl rfl hd
  exact stp st (k T' h' ⟨e', hn, _, Y', Fr.snoc Y' N ge⟩ W')
theorem saJ {a : Addr} {n : Nat} {f : Nat → Value} {j : Int32} {x : Int64} (X : Pn p l e R s m args below meth c T h n0 cells slots) (hx : p.tables.exec = Jvm.exec) (hZ : Z.Warmed39 s.vm) (A : Av Z h a .long n f) (ge : n0 ≤ a) (q : ¬ j < 0) (r : j.toNatClampNeg < n) (hd : decode c.code pc = .ok (.lastore, 1)) (hp : pc + 1 = pc')
    (k : ∀ T' h', Pn p l e R s m args below meth c T' h' n0 cells slots → Wr h h' a j.toNatClampNeg (.long x) → Go p e s below n0 Q R T' (mkF m pc' Ls S)) : Go p e s below n0 Q R T (mkF m pc Ls (.long x :: .int j :: .ref a :: S)) := by
  subst hp
  obtain ⟨e0, hn, locs, Y, N⟩ := X
  obtain ⟨cl, Ar, S0, u⟩ := A
  obtain ⟨T', h', Y', e', W', st⟩ := stJ Y hx hZ e0 Ar (inn S0 q r) (g := mkF m pc Ls (.long x :: .int j :: .ref a :: S)) rfl rfl hd
  exact stp st (k T' h' ⟨e', hn, _, Y', Fr.snoc Y' N ge⟩ W')
theorem saB {a : Addr} {n : Nat} {f : Nat → Value} {j x : Int32} (X : Pn p l e R s m args below meth c T h n0 cells slots) (hx : p.tables.exec = Jvm.exec) (hZ : Z.Warmed39 s.vm) (A : Av Z h a .byte n f) (ge : n0 ≤ a) (q : ¬ j < 0) (r : j.toNatClampNeg < n) (hd : decode c.code pc = .ok (.bastore, 1)) (hp : pc + 1 = pc')
    (k : ∀ T' h', Pn p l e R s m args below meth c T' h' n0 cells slots → Wr h h' a j.toNatClampNeg (.int x.toInt8.toInt32) → Go p e s below n0 Q R T' (mkF m pc' Ls S)) : Go p e s below n0 Q R T (mkF m pc Ls (.int x :: .int j :: .ref a :: S)) := by
  subst hp
  obtain ⟨e0, hn, locs, Y, N⟩ := X
  obtain ⟨cl, Ar, S0, u⟩ := A
  obtain ⟨T', h', Y', e', W', st⟩ := stB Y hx hZ e0 Ar (inn S0 q r) (g := mkF m pc Ls (.int x :: .int j :: .ref a :: S)) rfl rfl hd
  exact stp st (k T' h' ⟨e', hn, _, Y', Fr.snoc Y' N ge⟩ W')
/-! arrays of references: the class is known too -/
def AvR (Z : State) (h : Heap) (a : Addr) (C : String) (n : Nat) (f : Nat → Value) : Prop := ∃ c : Cell, Arr Z h a c (.object C) ∧ Ovr Z c.cls C ∧ c.slots.size = n ∧ ∀ i, i < n → c.slots[i]? = some (f i)
theorem AvR.lt {a : Addr} {C : String} {n : Nat} {f : Nat → Value} (F : AvR Z h a C n f) : a < h.size := by obtain ⟨c, A, -⟩ := F; exact A.lt
theorem AvR.av {a : Addr} {C : String} {n : Nat} {f : Nat → Value} (F : AvR Z h a C n f) : Av Z h a (.object C) n f := by obtain ⟨c, A, -, r⟩ := F; exact ⟨c, A, r⟩
theorem AvR.ext {h' : Heap} {a : Addr} {C : String} {n : Nat} {f : Nat → Value} (F : AvR Z h a C n f) (E : Ext h h') : AvR Z h' a C n f := by obtain ⟨c, A, r⟩ := F; exact ⟨c, A.ext E, r⟩
theorem AvR.other {h' : Heap} {a b : Addr} {C : String} {n sl : Nat} {v : Value} {f : Nat → Value} (F : AvR Z h b C n f) (W : Wr h h' a sl v) (q : b ≠ a) : AvR Z h' b C n f := by obtain ⟨c, A, r⟩ := F; exact ⟨c, A.other W q, r⟩
theorem AvR.set {h' : Heap} {a : Addr} {C : String} {n k : Nat} {j : Int32} {v : Value} {f : Nat → Value} (e : j.toNatClampNeg = k) (F : AvR Z h a C n f) (W : Wr h h' a j.toNatClampNeg v) : AvR Z h' a C n (fun i => if i = k then v else f i) := by
  subst e
  obtain ⟨c, A, O, q, r⟩ := F
  refine ⟨c.setSlot j.toNatClampNeg v, A.same W, O, by rw [sz_set]; exact q, fun i hi => ?_⟩
  obtain ⟨c', e1, -, -, -, -, e6, e7⟩ := wr_at W A.1
  obtain ⟨e8, e9, -⟩ := e7 rfl
  by_cases hj : i = j.toNatClampNeg
  · subst hj; show _ = some (if j.toNatClampNeg = j.toNatClampNeg then v else f j.toNatClampNeg); rw [if_pos rfl, ← e8]; exact e9
  · show _ = some (if i = j.toNatClampNeg then v else f i); rw [if_neg hj, ← e8, e6 _ hj]; exact r i hi
theorem nr {own C : String} {index : Nat} {z : Int32} (cap : Nat) (X : Pn p l e R s m args below meth c T h n0 cells slots) (hx : p.tables.exec = Jvm.exec) (hZ : Z.Warmed39 s.vm) (hown : s.vm.findClass own = some m.cls) (w1 : (Cond.classLink own index C).before a0 Z = true) (w2 : (Cond.arrayOver (.object C)).before a0 Z = true) (hd : decode c.code pc = .ok (.anewarray index, 3)) (hp : pc + 3 = pc') (hz : ¬ z < 0) (hcap : z.toNatClampNeg ≤ cap) (hb : cap * 8 ≤ 536870912) (hc : cells + 1 ≤ R.cells) (hl : slots + cap ≤ R.slots)
    (k : ∀ T' h' b, Pn p l e R s m args below meth c T' h' n0 (cells + 1) (slots + cap) → b = h.size → n0 ≤ b → Ext h h' → AvR Z h' b C z.toNatClampNeg (fun _ => .null) → Go p e s below n0 Q R T' (mkF m pc' Ls (.ref b :: S))) :
    Go p e s below n0 Q R T (mkF m pc Ls (.int z :: S)) := by
  subst hp
  have q := X.le
  obtain ⟨e0, hn, locs, Y, N⟩ := X
  obtain ⟨T', h', k', Y', e', E', A', O', st⟩ := newR Y hx hZ hown w1 w2 e0 (g := mkF m pc Ls (.int z :: S)) rfl hd rfl hz hcap hb hc hl
  refine stp st (k T' h' _ ⟨e', hn, _, Y', N⟩ rfl q E' ⟨_, A', O', sz_new _ _ _, fun i hi => ?_⟩)
  simp [newA, hi, defaultValue]
theorem saR {a y : Addr} {C : String} {n : Nat} {f : Nat → Value} {j : Int32} (X : Pn p l e R s m args below meth c T h n0 cells slots) (hx : p.tables.exec = Jvm.exec) (hZ : Z.Warmed39 s.vm) (A : AvR Z h a C n f) (I : Ins Z h y C true) (ge : n0 ≤ a) (q : ¬ j < 0) (r : j.toNatClampNeg < n) (hd : decode c.code pc = .ok (.aastore, 1)) (hp : pc + 1 = pc')
    (k : ∀ T' h', Pn p l e R s m args below meth c T' h' n0 cells slots → Wr h h' a j.toNatClampNeg (.ref y) → Go p e s below n0 Q R T' (mkF m pc' Ls S)) : Go p e s below n0 Q R T (mkF m pc Ls (.ref y :: .int j :: .ref a :: S)) := by
  subst hp
  obtain ⟨e0, hn, locs, Y, N⟩ := X
  obtain ⟨cl, Ar, O, S0, u⟩ := A
  obtain ⟨T', h', Y', e', W', st⟩ := stR Y hx hZ e0 Ar (inn S0 q r) rfl (Sto.of Ar O I) (g := mkF m pc Ls (.ref y :: .int j :: .ref a :: S)) rfl rfl hd
  exact stp st (k T' h' ⟨e', hn, _, Y', Fr.snoc Y' N ge⟩ W')
theorem i_iadd {x y : Int32} (X : Pn p l e R s m args below meth c T h n0 cells slots) (hx : p.tables.exec = Jvm.exec) (hd : decode c.code pc = .ok (.iadd, 1)) (hp : pc + 1 = pc')
    (k : Go p e s below n0 Q R T (mkF m pc' Ls (.int (x + y) :: S))) : Go p e s below n0 Q R T (mkF m pc Ls (.int y :: .int x :: S)) := by subst hp; exact stp (fun _ q => XS.iadd X.here hx rfl hd rfl q) k
theorem i_isub {x y : Int32} (X : Pn p l e R s m args below meth c T h n0 cells slots) (hx : p.tables.exec = Jvm.exec) (hd : decode c.code pc = .ok (.isub, 1)) (hp : pc + 1 = pc')
    (k : Go p e s below n0 Q R T (mkF m pc' Ls (.int (x - y) :: S))) : Go p e s below n0 Q R T (mkF m pc Ls (.int y :: .int x :: S)) := by subst hp; exact stp (fun _ q => XS.isub X.here hx rfl hd rfl q) k
theorem i_imul {x y : Int32} (X : Pn p l e R s m args below meth c T h n0 cells slots) (hx : p.tables.exec = Jvm.exec) (hd : decode c.code pc = .ok (.imul, 1)) (hp : pc + 1 = pc')
    (k : Go p e s below n0 Q R T (mkF m pc' Ls (.int (x * y) :: S))) : Go p e s below n0 Q R T (mkF m pc Ls (.int y :: .int x :: S)) := by subst hp; exact stp (fun _ q => XS.imul X.here hx rfl hd rfl q) k
theorem i_iand {x y : Int32} (X : Pn p l e R s m args below meth c T h n0 cells slots) (hx : p.tables.exec = Jvm.exec) (hd : decode c.code pc = .ok (.iand, 1)) (hp : pc + 1 = pc')
    (k : Go p e s below n0 Q R T (mkF m pc' Ls (.int (x &&& y) :: S))) : Go p e s below n0 Q R T (mkF m pc Ls (.int y :: .int x :: S)) := by subst hp; exact stp (fun _ q => XS.iand X.here hx rfl hd rfl q) k
theorem i_ior {x y : Int32} (X : Pn p l e R s m args below meth c T h n0 cells slots) (hx : p.tables.exec = Jvm.exec) (hd : decode c.code pc = .ok (.ior, 1)) (hp : pc + 1 = pc')
    (k : Go p e s below n0 Q R T (mkF m pc' Ls (.int (x ||| y) :: S))) : Go p e s below n0 Q R T (mkF m pc Ls (.int y :: .int x :: S)) := by subst hp; exact stp (fun _ q => XT.ior X.here hx rfl hd rfl q) k
theorem i_ixor {x y : Int32} (X : Pn p l e R s m args below meth c T h n0 cells slots) (hx : p.tables.exec = Jvm.exec) (hd : decode c.code pc = .ok (.ixor, 1)) (hp : pc + 1 = pc')
    (k : Go p e s below n0 Q R T (mkF m pc' Ls (.int (x ^^^ y) :: S))) : Go p e s below n0 Q R T (mkF m pc Ls (.int y :: .int x :: S)) := by subst hp; exact stp (fun _ q => XT.ixor X.here hx rfl hd rfl q) k
theorem i_ishl {x y : Int32} (X : Pn p l e R s m args below meth c T h n0 cells slots) (hx : p.tables.exec = Jvm.exec) (hd : decode c.code pc = .ok (.ishl, 1)) (hp : pc + 1 = pc')
    (k : Go p e s below n0 Q R T (mkF m pc' Ls (.int (x <<< (y &&& 31)) :: S))) : Go p e s below n0 Q R T (mkF m pc Ls (.int y :: .int x :: S)) := by subst hp; exact stp (fun _ q => XT.ishl X.here hx rfl hd rfl q) k
theorem i_ishr {x y : Int32} (X : Pn p l e R s m args below meth c T h n0 cells slots) (hx : p.tables.exec = Jvm.exec) (hd : decode c.code pc = .ok (.ishr, 1)) (hp : pc + 1 = pc')
    (k : Go p e s below n0 Q R T (mkF m pc' Ls (.int (x >>> (y &&& 31)) :: S))) : Go p e s below n0 Q R T (mkF m pc Ls (.int y :: .int x :: S)) := by subst hp; exact stp (fun _ q => XT.ishr X.here hx rfl hd rfl q) k
theorem i_iushr {x y : Int32} (X : Pn p l e R s m args below meth c T h n0 cells slots) (hx : p.tables.exec = Jvm.exec) (hd : decode c.code pc = .ok (.iushr, 1)) (hp : pc + 1 = pc')
    (k : Go p e s below n0 Q R T (mkF m pc' Ls (.int (XT.ushr x y) :: S))) : Go p e s below n0 Q R T (mkF m pc Ls (.int y :: .int x :: S)) := by subst hp; exact stp (fun _ q => XT.iushr X.here hx rfl hd rfl q) k
theorem i_ladd {x y : Int64} (X : Pn p l e R s m args below meth c T h n0 cells slots) (hx : p.tables.exec = Jvm.exec) (hd : decode c.code pc = .ok (.ladd, 1)) (hp : pc + 1 = pc')
    (k : Go p e s below n0 Q R T (mkF m pc' Ls (.long (x + y) :: S))) : Go p e s below n0 Q R T (mkF m pc Ls (.long y :: .long x :: S)) := by subst hp; exact stp (fun _ q => XT.ladd X.here hx rfl hd rfl q) k
theorem i_lsub {x y : Int64} (X : Pn p l e R s m args below meth c T h n0 cells slots) (hx : p.tables.exec = Jvm.exec) (hd : decode c.code pc = .ok (.lsub, 1)) (hp : pc + 1 = pc')
    (k : Go p e s below n0 Q R T (mkF m pc' Ls (.long (x - y) :: S))) : Go p e s below n0 Q R T (mkF m pc Ls (.long y :: .long x :: S)) := by subst hp; exact stp (fun _ q => XT.lsub X.here hx rfl hd rfl q) k
theorem i_lmul {x y : Int64} (X : Pn p l e R s m args below meth c T h n0 cells slots) (hx : p.tables.exec = Jvm.exec) (hd : decode c.code pc = .ok (.lmul, 1)) (hp : pc + 1 = pc')
    (k : Go p e s below n0 Q R T (mkF m pc' Ls (.long (x * y) :: S))) : Go p e s below n0 Q R T (mkF m pc Ls (.long y :: .long x :: S)) := by subst hp; exact stp (fun _ q => XT.lmul X.here hx rfl hd rfl q) k
theorem i_land {x y : Int64} (X : Pn p l e R s m args below meth c T h n0 cells slots) (hx : p.tables.exec = Jvm.exec) (hd : decode c.code pc = .ok (.land, 1)) (hp : pc + 1 = pc')
    (k : Go p e s below n0 Q R T (mkF m pc' Ls (.long (x &&& y) :: S))) : Go p e s below n0 Q R T (mkF m pc Ls (.long y :: .long x :: S)) := by subst hp; exact stp (fun _ q => XT.land X.here hx rfl hd rfl q) k
theorem i_lor {x y : Int64} (X : Pn p l e R s m args below meth c T h n0 cells slots) (hx : p.tables.exec = Jvm.exec) (hd : decode c.code pc = .ok (.lor, 1)) (hp : pc + 1 = pc')
    (k : Go p e s below n0 Q R T (mkF m pc' Ls (.long (x ||| y) :: S))) : Go p e s below n0 Q R T (mkF m pc Ls (.long y :: .long x :: S)) := by subst hp; exact stp (fun _ q => XT.lor X.here hx rfl hd rfl q) k
theorem i_lxor {x y : Int64} (X : Pn p l e R s m args below meth c T h n0 cells slots) (hx : p.tables.exec = Jvm.exec) (hd : decode c.code pc = .ok (.lxor, 1)) (hp : pc + 1 = pc')
    (k : Go p e s below n0 Q R T (mkF m pc' Ls (.long (x ^^^ y) :: S))) : Go p e s below n0 Q R T (mkF m pc Ls (.long y :: .long x :: S)) := by subst hp; exact stp (fun _ q => XT.lxor X.here hx rfl hd rfl q) k
theorem i_lshl {x : Int64} {y : Int32} (X : Pn p l e R s m args below meth c T h n0 cells slots) (hx : p.tables.exec = Jvm.exec) (hd : decode c.code pc = .ok (.lshl, 1)) (hp : pc + 1 = pc')
    (k : Go p e s below n0 Q R T (mkF m pc' Ls (.long (x <<< (y.toInt64 &&& 63)) :: S))) : Go p e s below n0 Q R T (mkF m pc Ls (.int y :: .long x :: S)) := by subst hp; exact stp (fun _ q => XT.lshl X.here hx rfl hd rfl q) k
theorem i_lshr {x : Int64} {y : Int32} (X : Pn p l e R s m args below meth c T h n0 cells slots) (hx : p.tables.exec = Jvm.exec) (hd : decode c.code pc = .ok (.lshr, 1)) (hp : pc + 1 = pc')
    (k : Go p e s below n0 Q R T (mkF m pc' Ls (.long (x >>> (y.toInt64 &&& 63)) :: S))) : Go p e s below n0 Q R T (mkF m pc Ls (.int y :: .long x :: S)) := by subst hp; exact stp (fun _ q => XT.lshr X.here hx rfl hd rfl q) k
theorem i_lushr {x : Int64} {y : Int32} (X : Pn p l e R s m args below meth c T h n0 cells slots) (hx : p.tables.exec = Jvm.exec) (hd : decode c.code pc = .ok (.lushr, 1)) (hp : pc + 1 = pc')
    (k : Go p e s below n0 Q R T (mkF m pc' Ls (.long (XT.ushrL x y) :: S))) : Go p e s below n0 Q R T (mkF m pc Ls (.int y :: .long x :: S)) := by subst hp; exact stp (fun _ q => XT.lushr X.here hx rfl hd rfl q) k
theorem i_idiv {x y : Int32} (X : Pn p l e R s m args below meth c T h n0 cells slots) (hx : p.tables.exec = Jvm.exec) (hd : decode c.code pc = .ok (.idiv, 1)) (hp : pc + 1 = pc') (hy : y ≠ 0)
    (k : Go p e s below n0 Q R T (mkF m pc' Ls (.int (x / y) :: S))) : Go p e s below n0 Q R T (mkF m pc Ls (.int y :: .int x :: S)) := by subst hp; exact stp (fun _ q => XS.idiv X.here hx rfl hd rfl hy q) k
theorem i_ldiv {x y : Int64} (X : Pn p l e R s m args below meth c T h n0 cells slots) (hx : p.tables.exec = Jvm.exec) (hd : decode c.code pc = .ok (.ldiv, 1)) (hp : pc + 1 = pc') (hy : y ≠ 0)
    (k : Go p e s below n0 Q R T (mkF m pc' Ls (.long (x / y) :: S))) : Go p e s below n0 Q R T (mkF m pc Ls (.long y :: .long x :: S)) := by subst hp; exact stp (fun _ q => XT.ldiv X.here hx rfl hd rfl hy q) k
theorem i_lrem {x y : Int64} (X : Pn p l e R s m args below meth c T h n0 cells slots) (hx : p.tables.exec = Jvm.exec) (hd : decode c.code pc = .ok (.lrem, 1)) (hp : pc + 1 = pc') (hy : y ≠ 0)
    (k : Go p e s below n0 Q R T (mkF m pc' Ls (.long (x - (x / y) * y) :: S))) : Go p e s below n0 Q R T (mkF m pc Ls (.long y :: .long x :: S)) := by subst hp; exact stp (fun _ q => XT.lrem X.here hx rfl hd rfl hy q) k
theorem i_irem {x y : Int32} (X : Pn p l e R s m args below meth c T h n0 cells slots) (hx : p.tables.exec = Jvm.exec) (hd : decode c.code pc = .ok (.irem, 1)) (hp : pc + 1 = pc') (hy : y ≠ 0)
    (k : Go p e s below n0 Q R T (mkF m pc' Ls (.int (x % y) :: S))) : Go p e s below n0 Q R T (mkF m pc Ls (.int y :: .int x :: S)) := by subst hp; obtain ⟨e0, hn, locs, Y, N⟩ := X; exact stp (fun _ q => iremM Y hx rfl hd rfl hy q) k
theorem i_ineg {x : Int32} (X : Pn p l e R s m args below meth c T h n0 cells slots) (hx : p.tables.exec = Jvm.exec) (hd : decode c.code pc = .ok (.ineg, 1)) (hp : pc + 1 = pc')
    (k : Go p e s below n0 Q R T (mkF m pc' Ls (.int (-x) :: S))) : Go p e s below n0 Q R T (mkF m pc Ls (.int x :: S)) := by subst hp; exact stp (fun _ q => XS.ineg X.here hx rfl hd rfl q) k
theorem i_lneg {x : Int64} (X : Pn p l e R s m args below meth c T h n0 cells slots) (hx : p.tables.exec = Jvm.exec) (hd : decode c.code pc = .ok (.lneg, 1)) (hp : pc + 1 = pc')
    (k : Go p e s below n0 Q R T (mkF m pc' Ls (.long (-x) :: S))) : Go p e s below n0 Q R T (mkF m pc Ls (.long x :: S)) := by subst hp; exact stp (fun _ q => XT.lneg X.here hx rfl hd rfl q) k
theorem i_i2l {x : Int32} (X : Pn p l e R s m args below meth c T h n0 cells slots) (hx : p.tables.exec = Jvm.exec) (hd : decode c.code pc = .ok (.i2l, 1)) (hp : pc + 1 = pc')
    (k : Go p e s below n0 Q R T (mkF m pc' Ls (.long x.toInt64 :: S))) : Go p e s below n0 Q R T (mkF m pc Ls (.int x :: S)) := by subst hp; exact stp (fun _ q => XT.i2l X.here hx rfl hd rfl q) k
theorem i_l2i {x : Int64} (X : Pn p l e R s m args below meth c T h n0 cells slots) (hx : p.tables.exec = Jvm.exec) (hd : decode c.code pc = .ok (.l2i, 1)) (hp : pc + 1 = pc')
    (k : Go p e s below n0 Q R T (mkF m pc' Ls (.int x.toInt32 :: S))) : Go p e s below n0 Q R T (mkF m pc Ls (.long x :: S)) := by subst hp; exact stp (fun _ q => XT.l2i X.here hx rfl hd rfl q) k
theorem i_i2b {x : Int32} (X : Pn p l e R s m args below meth c T h n0 cells slots) (hx : p.tables.exec = Jvm.exec) (hd : decode c.code pc = .ok (.i2b, 1)) (hp : pc + 1 = pc')
    (k : Go p e s below n0 Q R T (mkF m pc' Ls (.int x.toInt8.toInt32 :: S))) : Go p e s below n0 Q R T (mkF m pc Ls (.int x :: S)) := by subst hp; exact stp (fun _ q => XT.i2b X.here hx rfl hd rfl q) k
theorem i_i2c {x : Int32} (X : Pn p l e R s m args below meth c T h n0 cells slots) (hx : p.tables.exec = Jvm.exec) (hd : decode c.code pc = .ok (.i2c, 1)) (hp : pc + 1 = pc')
    (k : Go p e s below n0 Q R T (mkF m pc' Ls (.int x.toUInt32.toUInt16.toUInt32.toInt32 :: S))) : Go p e s below n0 Q R T (mkF m pc Ls (.int x :: S)) := by subst hp; exact stp (fun _ q => XT.i2c X.here hx rfl hd rfl q) k
theorem i_i2s {x : Int32} (X : Pn p l e R s m args below meth c T h n0 cells slots) (hx : p.tables.exec = Jvm.exec) (hd : decode c.code pc = .ok (.i2s, 1)) (hp : pc + 1 = pc')
    (k : Go p e s below n0 Q R T (mkF m pc' Ls (.int x.toInt16.toInt32 :: S))) : Go p e s below n0 Q R T (mkF m pc Ls (.int x :: S)) := by subst hp; exact stp (fun _ q => XT.i2s X.here hx rfl hd rfl q) k
theorem i_lcmp {x y : Int64} (X : Pn p l e R s m args below meth c T h n0 cells slots) (hx : p.tables.exec = Jvm.exec) (hd : decode c.code pc = .ok (.lcmp, 1)) (hp : pc + 1 = pc')
    (k : Go p e s below n0 Q R T (mkF m pc' Ls (.int (XT.cmpL x y) :: S))) : Go p e s below n0 Q R T (mkF m pc Ls (.long y :: .long x :: S)) := by subst hp; exact stp (fun _ q => XT.lcmp X.here hx rfl hd rfl q) k
theorem i_aloadN {k : Fin 4} {v : Value} (X : Pn p l e R s m args below meth c T h n0 cells slots) (hx : p.tables.exec = Jvm.exec) (hd : decode c.code pc = .ok (.aload_n k, 1)) (hp : pc + 1 = pc') (hl : Ls[k.val]? = some (.val v)) (hv : v.isRef = true)
    (k : Go p e s below n0 Q R T (mkF m pc' Ls (v :: S))) : Go p e s below n0 Q R T (mkF m pc Ls S) := by subst hp; exact stp (fun _ q => XS.aloadN X.here hx rfl hd hl hv q) k
theorem i_aload {k : Nat} {v : Value} (X : Pn p l e R s m args below meth c T h n0 cells slots) (hx : p.tables.exec = Jvm.exec) (hd : decode c.code pc = .ok (.aload k, 2)) (hp : pc + 2 = pc') (hl : Ls[k]? = some (.val v)) (hv : v.isRef = true)
    (k : Go p e s below n0 Q R T (mkF m pc' Ls (v :: S))) : Go p e s below n0 Q R T (mkF m pc Ls S) := by subst hp; exact stp (fun _ q => XS.aload X.here hx rfl hd hl hv q) k
theorem i_iloadN {k : Fin 4} {v : Int32} (X : Pn p l e R s m args below meth c T h n0 cells slots) (hx : p.tables.exec = Jvm.exec) (hd : decode c.code pc = .ok (.iload_n k, 1)) (hp : pc + 1 = pc') (hl : Ls[k.val]? = some (.val (.int v)))
    (k : Go p e s below n0 Q R T (mkF m pc' Ls (.int v :: S))) : Go p e s below n0 Q R T (mkF m pc Ls S) := by subst hp; exact stp (fun _ q => XS.iloadN X.here hx rfl hd hl q) k
theorem i_iload {k : Nat} {v : Int32} (X : Pn p l e R s m args below meth c T h n0 cells slots) (hx : p.tables.exec = Jvm.exec) (hd : decode c.code pc = .ok (.iload k, 2)) (hp : pc + 2 = pc') (hl : Ls[k]? = some (.val (.int v)))
    (k : Go p e s below n0 Q R T (mkF m pc' Ls (.int v :: S))) : Go p e s below n0 Q R T (mkF m pc Ls S) := by subst hp; exact stp (fun _ q => XS.iload X.here hx rfl hd hl q) k
theorem i_lloadN {k : Fin 4} {v : Int64} (X : Pn p l e R s m args below meth c T h n0 cells slots) (hx : p.tables.exec = Jvm.exec) (hd : decode c.code pc = .ok (.lload_n k, 1)) (hp : pc + 1 = pc') (hl : Ls[k.val]? = some (.val (.long v)))
    (k : Go p e s below n0 Q R T (mkF m pc' Ls (.long v :: S))) : Go p e s below n0 Q R T (mkF m pc Ls S) := by subst hp; exact stp (fun _ q => XT.lloadN X.here hx rfl hd hl q) k
theorem i_lload {k : Nat} {v : Int64} (X : Pn p l e R s m args below meth c T h n0 cells slots) (hx : p.tables.exec = Jvm.exec) (hd : decode c.code pc = .ok (.lload k, 2)) (hp : pc + 2 = pc') (hl : Ls[k]? = some (.val (.long v)))
    (k : Go p e s below n0 Q R T (mkF m pc' Ls (.long v :: S))) : Go p e s below n0 Q R T (mkF m pc Ls S) := by subst hp; exact stp (fun _ q => XT.lload X.here hx rfl hd hl q) k
theorem i_istoreN {k : Fin 4} {x : Int32} {L' : Array Slot} (X : Pn p l e R s m args below meth c T h n0 cells slots) (hx : p.tables.exec = Jvm.exec) (hd : decode c.code pc = .ok (.istore_n k, 1)) (hp : pc + 1 = pc') (hl : storeLocals Ls k.val (.int x) = some L')
    (k : Go p e s below n0 Q R T (mkF m pc' L' S)) : Go p e s below n0 Q R T (mkF m pc Ls (.int x :: S)) := by subst hp; exact stp (fun _ q => XS.istoreN X.here hx rfl hd rfl hl q) k
theorem i_istore {k : Nat} {x : Int32} {L' : Array Slot} (X : Pn p l e R s m args below meth c T h n0 cells slots) (hx : p.tables.exec = Jvm.exec) (hd : decode c.code pc = .ok (.istore k, 2)) (hp : pc + 2 = pc') (hl : storeLocals Ls k (.int x) = some L')
    (k : Go p e s below n0 Q R T (mkF m pc' L' S)) : Go p e s below n0 Q R T (mkF m pc Ls (.int x :: S)) := by subst hp; exact stp (fun _ q => XS.istore X.here hx rfl hd rfl hl q) k
theorem i_lstoreN {k : Fin 4} {x : Int64} {L' : Array Slot} (X : Pn p l e R s m args below meth c T h n0 cells slots) (hx : p.tables.exec = Jvm.exec) (hd : decode c.code pc = .ok (.lstore_n k, 1)) (hp : pc + 1 = pc') (hl : storeLocals Ls k.val (.long x) = some L')
    (k : Go p e s below n0 Q R T (mkF m pc' L' S)) : Go p e s below n0 Q R T (mkF m pc Ls (.long x :: S)) := by subst hp; exact stp (fun _ q => XT.lstoreN X.here hx rfl hd rfl hl q) k
theorem i_lstore {k : Nat} {x : Int64} {L' : Array Slot} (X : Pn p l e R s m args below meth c T h n0 cells slots) (hx : p.tables.exec = Jvm.exec) (hd : decode c.code pc = .ok (.lstore k, 2)) (hp : pc + 2 = pc') (hl : storeLocals Ls k (.long x) = some L')
    (k : Go p e s below n0 Q R T (mkF m pc' L' S)) : Go p e s below n0 Q R T (mkF m pc Ls (.long x :: S)) := by subst hp; exact stp (fun _ q => XT.lstore X.here hx rfl hd rfl hl q) k
theorem i_astoreN {k : Fin 4} {x : Value} {L' : Array Slot} (X : Pn p l e R s m args below meth c T h n0 cells slots) (hx : p.tables.exec = Jvm.exec) (hd : decode c.code pc = .ok (.astore_n k, 1)) (hp : pc + 1 = pc') (hv : x.isRef = true) (hl : storeLocals Ls k.val x = some L')
    (k : Go p e s below n0 Q R T (mkF m pc' L' S)) : Go p e s below n0 Q R T (mkF m pc Ls (x :: S)) := by subst hp; exact stp (fun _ q => XS.astoreN X.here hx rfl hd rfl hv hl q) k
theorem i_astore {k : Nat} {x : Value} {L' : Array Slot} (X : Pn p l e R s m args below meth c T h n0 cells slots) (hx : p.tables.exec = Jvm.exec) (hd : decode c.code pc = .ok (.astore k, 2)) (hp : pc + 2 = pc') (hv : x.isRef = true) (hl : storeLocals Ls k x = some L')
    (k : Go p e s below n0 Q R T (mkF m pc' L' S)) : Go p e s below n0 Q R T (mkF m pc Ls (x :: S)) := by subst hp; exact stp (fun _ q => XS.astore X.here hx rfl hd rfl hv hl q) k
theorem i_iconst {i : Int} (v : Int32) (X : Pn p l e R s m args below meth c T h n0 cells slots) (hx : p.tables.exec = Jvm.exec) (hd : decode c.code pc = .ok (.iconst i, 1)) (hp : pc + 1 = pc') (hv : Int32.ofInt i = v)
    (k : Go p e s below n0 Q R T (mkF m pc' Ls (.int v :: S))) : Go p e s below n0 Q R T (mkF m pc Ls S) := by subst hp; exact stp (fun _ q => XT.iconstV X.here hx rfl v hd hv q) k
theorem i_bipush {i : Int} (v : Int32) (X : Pn p l e R s m args below meth c T h n0 cells slots) (hx : p.tables.exec = Jvm.exec) (hd : decode c.code pc = .ok (.bipush i, 2)) (hp : pc + 2 = pc') (hv : (Int8.ofInt i).toInt32 = v)
    (k : Go p e s below n0 Q R T (mkF m pc' Ls (.int v :: S))) : Go p e s below n0 Q R T (mkF m pc Ls S) := by subst hp; exact stp (fun _ q => XT.bipushV X.here hx rfl v hd hv q) k
theorem i_sipush {i : Int} (v : Int32) (X : Pn p l e R s m args below meth c T h n0 cells slots) (hx : p.tables.exec = Jvm.exec) (hd : decode c.code pc = .ok (.sipush i, 3)) (hp : pc + 3 = pc') (hv : (Int16.ofInt i).toInt32 = v)
    (k : Go p e s below n0 Q R T (mkF m pc' Ls (.int v :: S))) : Go p e s below n0 Q R T (mkF m pc Ls S) := by subst hp; exact stp (fun _ q => XT.sipushV X.here hx rfl v hd hv q) k
theorem i_lconst {i : Fin 2} (v : Int64) (X : Pn p l e R s m args below meth c T h n0 cells slots) (hx : p.tables.exec = Jvm.exec) (hd : decode c.code pc = .ok (.lconst i, 1)) (hp : pc + 1 = pc') (hv : Int64.ofNat i = v)
    (k : Go p e s below n0 Q R T (mkF m pc' Ls (.long v :: S))) : Go p e s below n0 Q R T (mkF m pc Ls S) := by subst hp; exact stp (fun _ q => XT.lconstV X.here hx rfl v hd hv q) k
theorem i_aconstNull (X : Pn p l e R s m args below meth c T h n0 cells slots) (hx : p.tables.exec = Jvm.exec) (hd : decode c.code pc = .ok (.aconst_null, 1)) (hp : pc + 1 = pc')
    (k : Go p e s below n0 Q R T (mkF m pc' Ls (.null :: S))) : Go p e s below n0 Q R T (mkF m pc Ls S) := by subst hp; exact stp (fun _ q => XS.aconstNull X.here hx rfl hd q) k
theorem i_iinc {i : Nat} {cst : Int} {x : Int32} {L' : Array Slot} (v : Int32) (X : Pn p l e R s m args below meth c T h n0 cells slots) (hx : p.tables.exec = Jvm.exec) (hd : decode c.code pc = .ok (.iinc i cst, 3)) (hp : pc + 3 = pc') (hv : Int32.ofInt cst = v) (hl : Ls[i]? = some (.val (.int x))) (hl' : storeLocals Ls i (.int (x + v)) = some L')
    (k : Go p e s below n0 Q R T (mkF m pc' L' S)) : Go p e s below n0 Q R T (mkF m pc Ls S) := by subst hp; exact stp (fun _ q => XT.iincV X.here hx rfl v hd hv hl hl' q) k
theorem i_ldc {own : String} {i : Nat} (v : Int32) (X : Pn p l e R s m args below meth c T h n0 cells slots) (hx : p.tables.exec = Jvm.exec) (hZ : Z.Warmed39 s.vm) (hown : s.vm.findClass own = some m.cls) (w : (Cond.constant own i v).before a0 Z = true) (hd : decode c.code pc = .ok (.ldc i, 2)) (hp : pc + 2 = pc')
    (k : Go p e s below n0 Q R T (mkF m pc' Ls (.int v :: S))) : Go p e s below n0 Q R T (mkF m pc Ls S) := by subst hp; obtain ⟨e0, hn, locs, Y, N⟩ := X; exact stp (fun _ q => Y.ldcI hx hown (mv hZ w) (g := mkF m pc Ls S) rfl hd q) k
theorem i_ldcW {own : String} {i : Nat} (v : Int32) (X : Pn p l e R s m args below meth c T h n0 cells slots) (hx : p.tables.exec = Jvm.exec) (hZ : Z.Warmed39 s.vm) (hown : s.vm.findClass own = some m.cls) (w : (Cond.constant own i v).before a0 Z = true) (hd : decode c.code pc = .ok (.ldc_w i, 3)) (hp : pc + 3 = pc')
    (k : Go p e s below n0 Q R T (mkF m pc' Ls (.int v :: S))) : Go p e s below n0 Q R T (mkF m pc Ls S) := by subst hp; obtain ⟨e0, hn, locs, Y, N⟩ := X; exact stp (fun _ q => Y.ldcWI hx hown (mv hZ w) (g := mkF m pc Ls S) rfl hd q) k
theorem i_ldc2 {own : String} {i : Nat} (v : Int64) (X : Pn p l e R s m args below meth c T h n0 cells slots) (hx : p.tables.exec = Jvm.exec) (hZ : Z.Warmed39 s.vm) (hown : s.vm.findClass own = some m.cls) (w : (Cond.constantLong own i v).before a0 Z = true) (hd : decode c.code pc = .ok (.ldc2_w i, 3)) (hp : pc + 3 = pc')
    (k : Go p e s below n0 Q R T (mkF m pc' Ls (.long v :: S))) : Go p e s below n0 Q R T (mkF m pc Ls S) := by subst hp; obtain ⟨e0, hn, locs, Y, N⟩ := X; exact stp (fun _ q => Y.ldc2J hx hown (mv hZ w) (g := mkF m pc Ls S) rfl hd q) k
theorem i_dup {x : Value} (X : Pn p l e R s m args below meth c T h n0 cells slots) (hx : p.tables.exec = Jvm.exec) (hd : decode c.code pc = .ok (.dup, 1)) (hp : pc + 1 = pc') (hc : x.category = 1)
    (k : Go p e s below n0 Q R T (mkF m pc' Ls (x :: x :: S))) : Go p e s below n0 Q R T (mkF m pc Ls (x :: S)) := by subst hp; exact stp (fun _ q => XS.dup X.here hx rfl hd rfl hc q) k
theorem i_pop {x : Value} (X : Pn p l e R s m args below meth c T h n0 cells slots) (hx : p.tables.exec = Jvm.exec) (hd : decode c.code pc = .ok (.pop, 1)) (hp : pc + 1 = pc') (hc : x.category = 1)
    (k : Go p e s below n0 Q R T (mkF m pc' Ls S)) : Go p e s below n0 Q R T (mkF m pc Ls (x :: S)) := by subst hp; exact stp (fun _ q => XT.pop X.here hx rfl hd rfl hc q) k
theorem i_dupX1 {x y : Value} (X : Pn p l e R s m args below meth c T h n0 cells slots) (hx : p.tables.exec = Jvm.exec) (hd : decode c.code pc = .ok (.dup_x1, 1)) (hp : pc + 1 = pc') (hc : x.category = 1) (hc' : y.category = 1)
    (k : Go p e s below n0 Q R T (mkF m pc' Ls (x :: y :: x :: S))) : Go p e s below n0 Q R T (mkF m pc Ls (x :: y :: S)) := by subst hp; exact stp (fun _ q => XT.dupX1 X.here hx rfl hd rfl hc hc' q) k
theorem i_dup2 {x y : Value} (X : Pn p l e R s m args below meth c T h n0 cells slots) (hx : p.tables.exec = Jvm.exec) (hd : decode c.code pc = .ok (.dup2, 1)) (hp : pc + 1 = pc') (hc : x.category = 1) (hc' : y.category = 1)
    (k : Go p e s below n0 Q R T (mkF m pc' Ls (x :: y :: x :: y :: S))) : Go p e s below n0 Q R T (mkF m pc Ls (x :: y :: S)) := by subst hp; exact stp (fun _ q => XT.dup2 X.here hx rfl hd rfl hc hc' q) k
theorem i_dup2L {x : Int64} (X : Pn p l e R s m args below meth c T h n0 cells slots) (hx : p.tables.exec = Jvm.exec) (hd : decode c.code pc = .ok (.dup2, 1)) (hp : pc + 1 = pc')
    (k : Go p e s below n0 Q R T (mkF m pc' Ls (.long x :: .long x :: S))) : Go p e s below n0 Q R T (mkF m pc Ls (.long x :: S)) := by subst hp; exact stp (fun _ q => XT.dup2L X.here hx rfl hd rfl q) k
theorem i_goto {o : Int} (X : Pn p l e R s m args below meth c T h n0 cells slots) (hx : p.tables.exec = Jvm.exec) (hd : decode c.code pc = .ok (.goto o, 3)) (ho : 0 ≤ (pc : Int) + o) (hp : ((pc : Int) + o).toNat = pc')
    (k : Go p e s below n0 Q R T (mkF m pc' Ls S)) : Go p e s below n0 Q R T (mkF m pc Ls S) := stp (fun _ q => XS.goto X.here hx rfl rfl hd ho hp q) k
theorem i_ifT {cd : ClassFile.Cond} {o : Int} {x : Int32} (X : Pn p l e R s m args below meth c T h n0 cells slots) (hx : p.tables.exec = Jvm.exec) (hd : decode c.code pc = .ok (.ifCond cd o, 3)) (hc : ifCond.holds cd x = true) (ho : 0 ≤ (pc : Int) + o) (hp : ((pc : Int) + o).toNat = pc')
    (k : Go p e s below n0 Q R T (mkF m pc' Ls S)) : Go p e s below n0 Q R T (mkF m pc Ls (.int x :: S)) := stp (fun _ q => XS.ifYes X.here hx rfl rfl hd rfl hc ho hp q) k
theorem i_ifF {cd : ClassFile.Cond} {o : Int} {x : Int32} (X : Pn p l e R s m args below meth c T h n0 cells slots) (hx : p.tables.exec = Jvm.exec) (hd : decode c.code pc = .ok (.ifCond cd o, 3)) (hp : pc + 3 = pc') (hc : ifCond.holds cd x = false)
    (k : Go p e s below n0 Q R T (mkF m pc' Ls S)) : Go p e s below n0 Q R T (mkF m pc Ls (.int x :: S)) := by subst hp; exact stp (fun _ q => XS.ifNo X.here hx rfl hd rfl hc q) k
theorem i_icT {cd : ClassFile.Cond} {o : Int} {x y : Int32} (X : Pn p l e R s m args below meth c T h n0 cells slots) (hx : p.tables.exec = Jvm.exec) (hd : decode c.code pc = .ok (.if_icmp cd o, 3)) (hc : if_icmp.holds cd x y = true) (ho : 0 ≤ (pc : Int) + o) (hp : ((pc : Int) + o).toNat = pc')
    (k : Go p e s below n0 Q R T (mkF m pc' Ls S)) : Go p e s below n0 Q R T (mkF m pc Ls (.int y :: .int x :: S)) := stp (fun _ q => XS.icmpYes X.here hx rfl rfl hd rfl hc ho hp q) k
theorem i_icF {cd : ClassFile.Cond} {o : Int} {x y : Int32} (X : Pn p l e R s m args below meth c T h n0 cells slots) (hx : p.tables.exec = Jvm.exec) (hd : decode c.code pc = .ok (.if_icmp cd o, 3)) (hp : pc + 3 = pc') (hc : if_icmp.holds cd x y = false)
    (k : Go p e s below n0 Q R T (mkF m pc' Ls S)) : Go p e s below n0 Q R T (mkF m pc Ls (.int y :: .int x :: S)) := by subst hp; exact stp (fun _ q => XS.icmpNo X.here hx rfl hd rfl hc q) k
theorem i_acT {cd : ClassFile.ACond} {o : Int} {x y : Value} (X : Pn p l e R s m args below meth c T h n0 cells slots) (hx : p.tables.exec = Jvm.exec) (hd : decode c.code pc = .ok (.if_acmp cd o, 3)) (hx' : x.isRef = true) (hy' : y.isRef = true) (hc : XT.acmp cd x y = true) (ho : 0 ≤ (pc : Int) + o) (hp : ((pc : Int) + o).toNat = pc')
    (k : Go p e s below n0 Q R T (mkF m pc' Ls S)) : Go p e s below n0 Q R T (mkF m pc Ls (y :: x :: S)) := stp (fun _ q => XT.acmpYes X.here hx rfl rfl hd rfl hx' hy' hc ho hp q) k
theorem i_acF {cd : ClassFile.ACond} {o : Int} {x y : Value} (X : Pn p l e R s m args below meth c T h n0 cells slots) (hx : p.tables.exec = Jvm.exec) (hd : decode c.code pc = .ok (.if_acmp cd o, 3)) (hp : pc + 3 = pc') (hx' : x.isRef = true) (hy' : y.isRef = true) (hc : XT.acmp cd x y = false)
    (k : Go p e s below n0 Q R T (mkF m pc' Ls S)) : Go p e s below n0 Q R T (mkF m pc Ls (y :: x :: S)) := by subst hp; exact stp (fun _ q => XT.acmpNo X.here hx rfl hd rfl hx' hy' hc q) k
theorem i_nuT {o : Int} {x : Value} (X : Pn p l e R s m args below meth c T h n0 cells slots) (hx : p.tables.exec = Jvm.exec) (hd : decode c.code pc = .ok (.ifnull o, 3)) (hv : x = .null) (ho : 0 ≤ (pc : Int) + o) (hp : ((pc : Int) + o).toNat = pc')
    (k : Go p e s below n0 Q R T (mkF m pc' Ls S)) : Go p e s below n0 Q R T (mkF m pc Ls (x :: S)) := stp (fun _ q => XT.nullYes X.here hx rfl rfl hd rfl hv ho hp q) k
theorem i_nuF {o : Int} {x : Value} (X : Pn p l e R s m args below meth c T h n0 cells slots) (hx : p.tables.exec = Jvm.exec) (hd : decode c.code pc = .ok (.ifnull o, 3)) (hp : pc + 3 = pc') (hr : x.isRef = true) (hv : ¬ x = .null)
    (k : Go p e s below n0 Q R T (mkF m pc' Ls S)) : Go p e s below n0 Q R T (mkF m pc Ls (x :: S)) := by subst hp; exact stp (fun _ q => XT.nullNo X.here hx rfl hd rfl hr hv q) k
theorem i_nnT {o : Int} {x : Value} (X : Pn p l e R s m args below meth c T h n0 cells slots) (hx : p.tables.exec = Jvm.exec) (hd : decode c.code pc = .ok (.ifnonnull o, 3)) (hr : x.isRef = true) (hv : ¬ x = .null) (ho : 0 ≤ (pc : Int) + o) (hp : ((pc : Int) + o).toNat = pc')
    (k : Go p e s below n0 Q R T (mkF m pc' Ls S)) : Go p e s below n0 Q R T (mkF m pc Ls (x :: S)) := stp (fun _ q => XT.nonnullYes X.here hx rfl rfl hd rfl hr hv ho hp q) k
theorem i_nnF {o : Int} {x : Value} (X : Pn p l e R s m args below meth c T h n0 cells slots) (hx : p.tables.exec = Jvm.exec) (hd : decode c.code pc = .ok (.ifnonnull o, 3)) (hp : pc + 3 = pc') (hv : x = .null)
    (k : Go p e s below n0 Q R T (mkF m pc' Ls S)) : Go p e s below n0 Q R T (mkF m pc Ls (x :: S)) := by subst hp; exact stp (fun _ q => XT.nonnullNo X.here hx rfl hd rfl hv q) k
theorem i_tsI {dflt low high : Int} {offs : Array Int} {ln : Nat} {o : Int} {x : Int32} (X : Pn p l e R s m args below meth c T h n0 cells slots) (hx : p.tables.exec = Jvm.exec) (hd : decode c.code pc = .ok (.tableswitch dflt low high offs, ln)) (hin : ¬ (x.toInt < low ∨ x.toInt > high)) (hoff : offs[(x.toInt - low).toNat]? = some o) (ho : 0 ≤ (pc : Int) + o) (hp : ((pc : Int) + o).toNat = pc')
    (k : Go p e s below n0 Q R T (mkF m pc' Ls S)) : Go p e s below n0 Q R T (mkF m pc Ls (.int x :: S)) := stp (fun _ q => XS.tswIn X.here hx rfl rfl hd rfl hin hoff ho hp q) k
theorem i_tsO {dflt low high : Int} {offs : Array Int} {ln : Nat} {x : Int32} (X : Pn p l e R s m args below meth c T h n0 cells slots) (hx : p.tables.exec = Jvm.exec) (hd : decode c.code pc = .ok (.tableswitch dflt low high offs, ln)) (hout : x.toInt < low ∨ x.toInt > high) (ho : 0 ≤ (pc : Int) + dflt) (hp : ((pc : Int) + dflt).toNat = pc')
    (k : Go p e s below n0 Q R T (mkF m pc' Ls S)) : Go p e s below n0 Q R T (mkF m pc Ls (.int x :: S)) := stp (fun _ q => XS.tswOut X.here hx rfl rfl hd rfl hout ho hp q) k
theorem own_irr (x : Int32) : ¬ x < x := Int32.lt_irrefl
theorem own_nar {t : FieldType} {w : Value} (h : w.isRef = true) : narrow t w = w := by rcases XT.refc h with rfl | ⟨_, rfl⟩ <;> cases t <;> rfl
theorem own_fitO {C : String} {w : Value} (h : w.isRef = true) : fits (.object C) w = true := by rcases XT.refc h with rfl | ⟨_, rfl⟩ <;> rfl
theorem own_fitA {t : FieldType} {w : Value} (h : w.isRef = true) : fits (.array t) w = true := by rcases XT.refc h with rfl | ⟨_, rfl⟩ <;> rfl
theorem own_sta_keep {h' : Heap} {ws : List Addr} {C n d : String} {v : Value} (F : Sta Z h C n d v) (K : Keep h h' ws) (q : ∀ (a : Addr) (cl : Cell), a ∈ ws → h[a]? = some cl → cl.vm.isStatics = false) : Sta Z h' C n d v := by
  obtain ⟨cf, i, k, f, st, cell, h1, h2, h3, h4, h5, h6, h7⟩ := F
  refine ⟨cf, i, k, f, st, cell, h1, h2, h3, h4, K.2.1 st cell h5 (fun hm => ?_), h6, h7⟩
  rw [q st cell hm h5] at h6; cases h6
theorem own_sw3 {x : Int32} (h0 : ¬ x = (0 : Int32)) (h1 : ¬ x = (1 : Int32)) (h2 : ¬ x = (2 : Int32)) : x.toInt < 0 ∨ x.toInt > 2 := by
  have a : ¬ x.toInt = 0 := fun q => h0 (Int32.toInt_inj.mp q)
  have b : ¬ x.toInt = 1 := fun q => h1 (Int32.toInt_inj.mp q)
  have c : ¬ x.toInt = 2 := fun q => h2 (Int32.toInt_inj.mp q)
  omega
def Two (a b : Slot) : Prop := (a = .unset ∧ b = .unset) ∨ ∃ z, a = .val (.long z) ∧ b = .second
theorem Two.u : Two .unset .unset := Or.inl ⟨rfl, rfl⟩
theorem Two.v (z : Int64) : Two (.val (.long z)) .second := Or.inr ⟨z, rfl, rfl⟩
theorem own_nar1 : nar .boolean 1 = 1 := by decide
theorem own_nar0 : nar .boolean 0 = 0 := by decide
end Own
end Jvm.OwnKit
namespace Jvm.Pilot.@@N@@
open Jvm Jvm.ClassFile Sem Op Lib Jvm.Free Jvm.Stand Jvm.LawKit Jvm.RoadKit Jvm.OwnKit Bundle Jvm.Pilot.@@N@@.Jvm.D
theorem own_lt (x y : Int32) : x < y ↔ x.toInt < y.toInt := Int32.lt_iff_toInt_lt
theorem own_z : (0 : Int32).toInt = 0 := by decide
theorem own_nat {j : Int32} (q : 0 ≤ j.toInt) : (j.toNatClampNeg : Int) = j.toInt := (nat_of (by rw [own_lt, own_z]; omega)).symm
def own_max (x y : Int32) : Int32 := if x < y then y else x
def own_zero : Nat → Int32 := fun _ => 0
def own_up (g : Nat → Int32) (k : Nat) (x : Int32) : Nat → Int32 := fun i => if i = k then x else g i
def own_k (x : Int32) (N : Nat) : Nat := (x &&& (Nat.toInt32 N - (1 : Int32))).toNatClampNeg
def own_slots (pl : Int32) : Int32 := if (1 : Int32) < pl then (if (2 : Int32) < pl then (if (4 : Int32) < pl then (if (8 : Int32) < pl then (if (16 : Int32) < pl then (if (32 : Int32) < pl then (64 : Int32) else (32 : Int32)) else (16 : Int32)) else (8 : Int32)) else (4 : Int32)) else (2 : Int32)) else (1 : Int32)
def own_p2 (N : Nat) : Prop := N = 1 ∨ N = 2 ∨ N = 4 ∨ N = 8 ∨ N = 16 ∨ N = 32 ∨ N = 64
def own_N (pl : Int32) : Nat := (own_slots pl).toNatClampNeg
theorem own_s7 (pl : Int32) : own_slots pl = 1 ∨ own_slots pl = 2 ∨ own_slots pl = 4 ∨ own_slots pl = 8 ∨ own_slots pl = 16 ∨ own_slots pl = 32 ∨ own_slots pl = 64 := by
  unfold own_slots; repeat' split
  all_goals simp
theorem own_Np (pl : Int32) : own_p2 (own_N pl) := by
  unfold own_N own_p2
  rcases own_s7 pl with h | h | h | h | h | h | h <;> rw [h] <;> decide
theorem own_Ns (pl : Int32) : Nat.toInt32 (own_N pl) = own_slots pl := by
  unfold own_N
  rcases own_s7 pl with h | h | h | h | h | h | h <;> rw [h] <;> decide
theorem own_sneg (pl : Int32) : ¬ own_slots pl < 0 ∧ (own_slots pl).toNatClampNeg ≤ 64 := by
  rcases own_s7 pl with h | h | h | h | h | h | h <;> rw [h] <;> decide
theorem own_sneg8 {pl : Int32} (h : ¬ (8 : Int32) < pl) : (own_slots pl).toNatClampNeg ≤ 8 := by
  unfold own_slots; rw [if_neg h]; repeat' split
  all_goals decide
theorem own_idx {N : Nat} (hN : own_p2 N) (x : Int32) : ¬ (x &&& (Nat.toInt32 N - (1 : Int32))) < 0 ∧ (x &&& (Nat.toInt32 N - (1 : Int32))).toNatClampNeg < N ∧ (own_k x N : Int) = x.toInt % (N : Int) := by
  have key : ∀ (k : Nat), k ≤ 31 → N = 2 ^ k → (Nat.toInt32 N - (1 : Int32)).toBitVec.toNat = 2 ^ k - 1 → ¬ (x &&& (Nat.toInt32 N - (1 : Int32))) < 0 ∧ (x &&& (Nat.toInt32 N - (1 : Int32))).toNatClampNeg < N ∧ (own_k x N : Int) = x.toInt % (N : Int) := by
    intro k hk e hm
    have a := c_mask x (Nat.toInt32 N - (1 : Int32)) k hk hm
    rw [← e] at a
    have pos : (0 : Int) < (N : Int) := by rw [e]; exact_mod_cast Nat.two_pow_pos k
    have b := Int.emod_nonneg x.toInt (show (N : Int) ≠ 0 by omega)
    have c := Int.emod_lt_of_pos x.toInt pos
    have d := own_nat (j := x &&& (Nat.toInt32 N - (1 : Int32))) (by omega)
    refine ⟨by rw [own_lt, own_z]; omega, by omega, ?_⟩
    unfold own_k; omega
  rcases hN with rfl | rfl | rfl | rfl | rfl | rfl | rfl
  · exact key 0 (by decide) (by decide) (by decide)
  · exact key 1 (by decide) (by decide) (by decide)
  · exact key 2 (by decide) (by decide) (by decide)
  · exact key 3 (by decide) (by decide) (by decide)
  · exact key 4 (by decide) (by decide) (by decide)
  · exact key 5 (by decide) (by decide) (by decide)
  · exact key 6 (by decide) (by decide) (by decide)
theorem own_st {Z : State} {h h' : Heap} {a : Addr} {n : Nat} {g : Nat → Int32} {j x : Int32} (A : Av Z h a .int n (fun i => .int (g i))) (W : Wr h h' a j.toNatClampNeg (.int x)) : Av Z h' a .int n (fun i => .int (own_up g j.toNatClampNeg x i)) :=
  (A.same W).congr fun i _ => by unfold own_up; split <;> rfl
def own_lea (fe fl : Nat → Int32) (N : Nat) (w q : Int32) : Int32 := if w < q then (0 : Int32) else if fe (own_k q N) = q then fl (own_k q N) else (0 : Int32)
theorem d8_0 : decode jdk_29_method_65_code 0 = .ok (.iload_n 0, 1) := by decide +kernel
theorem d8_1 : decode jdk_29_method_65_code 1 = .ok (.iload_n 1, 1) := by decide +kernel
theorem d8_2 : decode jdk_29_method_65_code 2 = .ok (.if_icmp .lt 7, 3) := by decide +kernel
theorem d8_5 : decode jdk_29_method_65_code 5 = .ok (.iload_n 0, 1) := by decide +kernel
theorem d8_6 : decode jdk_29_method_65_code 6 = .ok (.goto 4, 3) := by decide +kernel
theorem d8_9 : decode jdk_29_method_65_code 9 = .ok (.iload_n 1, 1) := by decide +kernel
theorem d8_10 : decode jdk_29_method_65_code 10 = .ok (.ireturn, 1) := by decide +kernel
theorem ef_rmMax (m : MethodId) (x : Int32) (y : Int32) : entryFrame m #[(.int x), (.int y)] 2 = mkF m 0 #[.val (.int x), .val (.int y)] [] := by first | (simp [entryFrame, mkF, argsToLocals, Value.category, maxLocals]; done) | rfl
def QrmMax (Z : State) (x : Int32) (y : Int32) (n0 : Nat) (h0 : Heap) (rv : Option Value) (h : Heap) : Prop := rv = some (.int (own_max x y)) ∧ h0 = h
abbrev RrmMax : Room := { frames := 0, cells := 0, slots := 0, locals := 0 }
set_option maxRecDepth 65536 in
set_option maxHeartbeats 40000000 in
theorem rmMax (l : Launch) (Z : State) (a0 : Array Value) (hw : ∀ d ∈ tables_1, d.before a0 Z = true) (ws : List Jvm.Cond) (x : Int32) (y : Int32) (n0 : Nat) (h0 : Heap) (hn : n0 ≤ h0.size)   :
    Con l Z (⟨"java/lang/Math", "max", "(II)I"⟩ : MethodName) jdk_29_method_65_code 2 (some .int) ws RrmMax #[(.int x), (.int y)] h0 n0 (QrmMax Z x y n0 h0) := by
  refine body (y := (⟨"java/lang/Math", "max", "(II)I"⟩ : MethodName)) (Ls := #[.val (.int x), .val (.int y)]) (by first | exact Jvm.Free.JP.mathPlain rfl (by decide) | decide +kernel) hn (fun m => ef_rmMax m x y) ?_
  intro p e s m below meth c T0 hx hby hml hown hnm hret hlk hZ X0
  refine i_iloadN (v := x) (pc' := 1) X0 hx (hb hby d8_0) rfl rfl ?_
  refine i_iloadN (v := y) (pc' := 2) X0 hx (hb hby d8_1) rfl rfl ?_
  by_cases hc1 : x < y
  · skip
    refine i_icT (pc' := 9) X0 hx (hb hby d8_2) (XT.ii_lt_t hc1) (by decide) (by decide) ?_
    refine i_iloadN (v := y) (pc' := 10) X0 hx (hb hby d8_9) rfl rfl ?_
    refine rI X0 hx hlk hret (hb hby d8_10) (by decide) (by decide) ?_
    exact ⟨(by simp [own_max, hc1]), rfl⟩
  · skip
    refine i_icF (pc' := 5) X0 hx (hb hby d8_2) rfl (XT.ii_lt_f hc1) ?_
    refine i_iloadN (v := x) (pc' := 6) X0 hx (hb hby d8_5) rfl rfl ?_
    refine i_goto (pc' := 10) X0 hx (hb hby d8_6) (by decide) (by decide) ?_
    refine rI X0 hx hlk hret (hb hby d8_10) (by decide) (by decide) ?_
    exact ⟨(by simp [own_max, hc1]), rfl⟩
theorem d1_0 : decode prog_18_method_1_code 0 = .ok (.aload_n 0, 1) := by decide +kernel
theorem d1_1 : decode prog_18_method_1_code 1 = .ok (.invokespecial 1, 3) := by decide +kernel
theorem d1_4 : decode prog_18_method_1_code 4 = .ok (.aload_n 0, 1) := by decide +kernel
theorem d1_5 : decode prog_18_method_1_code 5 = .ok (.iconst (-1), 1) := by decide +kernel
theorem d1_6 : decode prog_18_method_1_code 6 = .ok (.putfield 7, 3) := by decide +kernel
theorem d1_9 : decode prog_18_method_1_code 9 = .ok (.aload_n 0, 1) := by decide +kernel
theorem d1_10 : decode prog_18_method_1_code 10 = .ok (.iload_n 1, 1) := by decide +kernel
theorem d1_11 : decode prog_18_method_1_code 11 = .ok (.putfield 13, 3) := by decide +kernel
theorem d1_14 : decode prog_18_method_1_code 14 = .ok (.return_, 1) := by decide +kernel
theorem pn0 : plainName "com/example/shoal_creek/shoalcreek/MatchedSuffixes" = true := by first | (simp [plainName, overriddenIn]; done) | decide +kernel
theorem ef_rmNew (m : MethodId) (o : Addr) (x : Int32) : entryFrame m #[(.ref o), (.int x)] 2 = mkF m 0 #[.val (.ref o), .val (.int x)] [] := by first | (simp [entryFrame, mkF, argsToLocals, Value.category, maxLocals]; done) | rfl
def QrmNew (Z : State) (o : Addr) (x : Int32) (n0 : Nat) (h0 : Heap) (rv : Option Value) (h : Heap) : Prop := rv = none ∧ Keep h0 h [o] ∧ Fld Z h o "com/example/shoal_creek/shoalcreek/MatchedSuffixes" "newestEnd" "I" (.int (-1 : Int32)) ∧ Fld Z h o "com/example/shoal_creek/shoalcreek/MatchedSuffixes" "patternLength" "I" (.int x) ∧ Fld Z h o "com/example/shoal_creek/shoalcreek/MatchedSuffixes" "ends" "[I" .null ∧ Fld Z h o "com/example/shoal_creek/shoalcreek/MatchedSuffixes" "lengths" "[I" .null ∧ Fld Z h o "com/example/shoal_creek/shoalcreek/MatchedSuffixes" "differings" "[I" .null ∧ Fld Z h o "com/example/shoal_creek/shoalcreek/MatchedSuffixes" "differing" "C" (.int (0 : Int32))
abbrev RrmNew : Room := { frames := 1, cells := 0, slots := 0, locals := 12 }
set_option maxRecDepth 65536 in
set_option maxHeartbeats 40000000 in
theorem rmNew (l : Launch) (Z : State) (a0 : Array Value) (hw : ∀ d ∈ tables_1, d.before a0 Z = true) (ws : List Jvm.Cond) (o : Addr) (x : Int32) (n0 : Nat) (h0 : Heap) (hn : n0 ≤ h0.size) (H0 : Exa Z h0 o "com/example/shoal_creek/shoalcreek/MatchedSuffixes") (H1 : Fld Z h0 o "com/example/shoal_creek/shoalcreek/MatchedSuffixes" "newestEnd" "I" (.int (0 : Int32))) (H2 : Fld Z h0 o "com/example/shoal_creek/shoalcreek/MatchedSuffixes" "patternLength" "I" (.int (0 : Int32))) (H3 : Fld Z h0 o "com/example/shoal_creek/shoalcreek/MatchedSuffixes" "ends" "[I" .null) (H4 : Fld Z h0 o "com/example/shoal_creek/shoalcreek/MatchedSuffixes" "lengths" "[I" .null) (H5 : Fld Z h0 o "com/example/shoal_creek/shoalcreek/MatchedSuffixes" "differings" "[I" .null) (H6 : Fld Z h0 o "com/example/shoal_creek/shoalcreek/MatchedSuffixes" "differing" "C" (.int (0 : Int32))) (H7 : n0 ≤ o)  :
    Con l Z (⟨"com/example/shoal_creek/shoalcreek/MatchedSuffixes", "<init>", "(I)V"⟩ : MethodName) prog_18_method_1_code 2 none ws RrmNew #[(.ref o), (.int x)] h0 n0 (QrmNew Z o x n0 h0) := by
  refine body (y := (⟨"com/example/shoal_creek/shoalcreek/MatchedSuffixes", "<init>", "(I)V"⟩ : MethodName)) (Ls := #[.val (.ref o), .val (.int x)]) (plainFor_of_name pn0) hn (fun m => ef_rmNew m o x) ?_
  intro p e s m below meth c T0 hx hby hml hown hnm hret hlk hZ X0
  refine i_aloadN (v := (.ref o)) (pc' := 1) X0 hx (hb hby d1_0) rfl rfl rfl ?_
  refine oi (pc' := 4) (W := 0) X0 hx hZ hown (hw _ (List.mem_of_getElem? (i := 8) rfl)) (hw _ (List.mem_of_getElem? (i := 9) rfl)) (hw _ (List.mem_of_getElem? (i := 10) rfl)) (by rw [hml]; rfl) (hb hby d1_1) rfl (by decide) (Nat.le_of_eq rfl) (by decide) fun T1 X1 => ?_
  refine i_aloadN (v := (.ref o)) (pc' := 5) X1 hx (hb hby d1_4) rfl rfl rfl ?_
  refine i_iconst (pc' := 6) (-1 : Int32) X1 hx (hb hby d1_5) rfl (by decide) ?_
  refine pf (pc' := 9) (host := "") (ty := .int) X1 hx hZ hown (Or.inl (hw _ (List.mem_of_getElem? (i := 11) rfl))) Via.refl H1 H0 (Or.inl (hw _ (List.mem_of_getElem? (i := 12) rfl))) (hw _ (List.mem_of_getElem? (i := 3) rfl)) (by decide) rfl rfl H7 (hb hby d1_6) rfl fun T2 h2 X2 W2 => ?_
  refine i_aloadN (v := (.ref o)) (pc' := 10) X2 hx (hb hby d1_9) rfl rfl rfl ?_
  refine i_iloadN (v := x) (pc' := 11) X2 hx (hb hby d1_10) rfl rfl ?_
  have F3 : Fld Z h2 o "com/example/shoal_creek/shoalcreek/MatchedSuffixes" "patternLength" "I" (.int (0 : Int32)) := (Jvm.RoadKit.Fld.other W2 H2 (Or.inr (slot_ne (a0 := a0) (Or.inr (hw _ (List.mem_of_getElem? (i := 14) rfl))) (Or.inl (hw _ (List.mem_of_getElem? (i := 12) rfl))) (by decide) (t := .int) (t' := .int) (by decide) (by decide))))
  have F4 : Exa Z h2 o "com/example/shoal_creek/shoalcreek/MatchedSuffixes" := (Jvm.RoadKit.Exa.wr W2 H0)
  refine pf (pc' := 14) (host := "") (ty := .int) X2 hx hZ hown (Or.inl (hw _ (List.mem_of_getElem? (i := 13) rfl))) Via.refl F3 F4 (Or.inr ⟨(hw _ (List.mem_of_getElem? (i := 14) rfl)), rfl, hnm⟩) (hw _ (List.mem_of_getElem? (i := 3) rfl)) (by decide) rfl rfl H7 (hb hby d1_11) rfl fun T5 h5 X5 W5 => ?_
  refine rV X5 hx hlk hret (hb hby d1_14) (by decide) (by decide) ?_
  have F6 : Fld Z h5 o "com/example/shoal_creek/shoalcreek/MatchedSuffixes" "newestEnd" "I" (.int (-1 : Int32)) := (Jvm.RoadKit.Fld.other W5 (Jvm.RoadKit.Fld.same W2 H1) (Or.inr (slot_ne (a0 := a0) (Or.inl (hw _ (List.mem_of_getElem? (i := 12) rfl))) (Or.inr (hw _ (List.mem_of_getElem? (i := 14) rfl))) (by decide) (t := .int) (t' := .int) (by decide) (by decide))))
  have F7 : Fld Z h5 o "com/example/shoal_creek/shoalcreek/MatchedSuffixes" "patternLength" "I" (.int x) := (Jvm.RoadKit.Fld.same W5 F3)
  have F8 : Fld Z h5 o "com/example/shoal_creek/shoalcreek/MatchedSuffixes" "ends" "[I" .null := (Jvm.RoadKit.Fld.other W5 (Jvm.RoadKit.Fld.other W2 H3 (Or.inr (slot_ne (a0 := a0) (Or.inl (hw _ (List.mem_of_getElem? (i := 36) rfl))) (Or.inl (hw _ (List.mem_of_getElem? (i := 12) rfl))) (by decide) (t := (.array .int)) (t' := .int) (by decide) (by decide)))) (Or.inr (slot_ne (a0 := a0) (Or.inl (hw _ (List.mem_of_getElem? (i := 36) rfl))) (Or.inr (hw _ (List.mem_of_getElem? (i := 14) rfl))) (by decide) (t := (.array .int)) (t' := .int) (by decide) (by decide))))
  have F9 : Fld Z h5 o "com/example/shoal_creek/shoalcreek/MatchedSuffixes" "lengths" "[I" .null := (Jvm.RoadKit.Fld.other W5 (Jvm.RoadKit.Fld.other W2 H4 (Or.inr (slot_ne (a0 := a0) (Or.inl (hw _ (List.mem_of_getElem? (i := 39) rfl))) (Or.inl (hw _ (List.mem_of_getElem? (i := 12) rfl))) (by decide) (t := (.array .int)) (t' := .int) (by decide) (by decide)))) (Or.inr (slot_ne (a0 := a0) (Or.inl (hw _ (List.mem_of_getElem? (i := 39) rfl))) (Or.inr (hw _ (List.mem_of_getElem? (i := 14) rfl))) (by decide) (t := (.array .int)) (t' := .int) (by decide) (by decide))))
  have F10 : Fld Z h5 o "com/example/shoal_creek/shoalcreek/MatchedSuffixes" "differings" "[I" .null := (Jvm.RoadKit.Fld.other W5 (Jvm.RoadKit.Fld.other W2 H5 (Or.inr (slot_ne (a0 := a0) (Or.inl (hw _ (List.mem_of_getElem? (i := 41) rfl))) (Or.inl (hw _ (List.mem_of_getElem? (i := 12) rfl))) (by decide) (t := (.array .int)) (t' := .int) (by decide) (by decide)))) (Or.inr (slot_ne (a0 := a0) (Or.inl (hw _ (List.mem_of_getElem? (i := 41) rfl))) (Or.inr (hw _ (List.mem_of_getElem? (i := 14) rfl))) (by decide) (t := (.array .int)) (t' := .int) (by decide) (by decide))))
  have F11 : Fld Z h5 o "com/example/shoal_creek/shoalcreek/MatchedSuffixes" "differing" "C" (.int (0 : Int32)) := (Jvm.RoadKit.Fld.other W5 (Jvm.RoadKit.Fld.other W2 H6 (Or.inr (slot_ne (a0 := a0) (Or.inl (hw _ (List.mem_of_getElem? (i := 21) rfl))) (Or.inl (hw _ (List.mem_of_getElem? (i := 12) rfl))) (by decide) (t := .char) (t' := .int) (by decide) (by decide)))) (Or.inr (slot_ne (a0 := a0) (Or.inl (hw _ (List.mem_of_getElem? (i := 21) rfl))) (Or.inr (hw _ (List.mem_of_getElem? (i := 14) rfl))) (by decide) (t := .char) (t' := .int) (by decide) (by decide))))
  exact ⟨rfl, (((Keep.refl h0 _).wr W2 (Or.inl (List.mem_of_getElem? (i := 0) rfl))).wr W5 (Or.inl (List.mem_of_getElem? (i := 0) rfl))), F6, F7, F8, F9, F10, F11⟩
theorem d6_0 : decode prog_18_method_9_code 0 = .ok (.aload_n 0, 1) := by decide +kernel
theorem d6_1 : decode prog_18_method_9_code 1 = .ok (.getfield 16, 3) := by decide +kernel
theorem d6_4 : decode prog_18_method_9_code 4 = .ok (.ifnonnull 47, 3) := by decide +kernel
theorem d6_7 : decode prog_18_method_9_code 7 = .ok (.iconst 1, 1) := by decide +kernel
theorem d6_8 : decode prog_18_method_9_code 8 = .ok (.istore_n 1, 1) := by decide +kernel
theorem d6_9 : decode prog_18_method_9_code 9 = .ok (.iload_n 1, 1) := by decide +kernel
theorem d6_10 : decode prog_18_method_9_code 10 = .ok (.aload_n 0, 1) := by decide +kernel
theorem d6_11 : decode prog_18_method_9_code 11 = .ok (.getfield 13, 3) := by decide +kernel
theorem d6_14 : decode prog_18_method_9_code 14 = .ok (.if_icmp .ge 16, 3) := by decide +kernel
theorem d6_17 : decode prog_18_method_9_code 17 = .ok (.iload_n 1, 1) := by decide +kernel
theorem d6_18 : decode prog_18_method_9_code 18 = .ok (.ldc 37, 2) := by decide +kernel
theorem d6_20 : decode prog_18_method_9_code 20 = .ok (.if_icmp .ge 10, 3) := by decide +kernel
theorem d6_23 : decode prog_18_method_9_code 23 = .ok (.iload_n 1, 1) := by decide +kernel
theorem d6_24 : decode prog_18_method_9_code 24 = .ok (.iconst 1, 1) := by decide +kernel
theorem d6_25 : decode prog_18_method_9_code 25 = .ok (.ishl, 1) := by decide +kernel
theorem d6_26 : decode prog_18_method_9_code 26 = .ok (.istore_n 1, 1) := by decide +kernel
theorem d6_27 : decode prog_18_method_9_code 27 = .ok (.goto (-18), 3) := by decide +kernel
theorem d6_30 : decode prog_18_method_9_code 30 = .ok (.aload_n 0, 1) := by decide +kernel
theorem d6_31 : decode prog_18_method_9_code 31 = .ok (.iload_n 1, 1) := by decide +kernel
theorem d6_32 : decode prog_18_method_9_code 32 = .ok (.newarray .int, 2) := by decide +kernel
theorem d6_34 : decode prog_18_method_9_code 34 = .ok (.putfield 16, 3) := by decide +kernel
theorem d6_37 : decode prog_18_method_9_code 37 = .ok (.aload_n 0, 1) := by decide +kernel
theorem d6_38 : decode prog_18_method_9_code 38 = .ok (.iload_n 1, 1) := by decide +kernel
theorem d6_39 : decode prog_18_method_9_code 39 = .ok (.newarray .int, 2) := by decide +kernel
theorem d6_41 : decode prog_18_method_9_code 41 = .ok (.putfield 20, 3) := by decide +kernel
theorem d6_44 : decode prog_18_method_9_code 44 = .ok (.aload_n 0, 1) := by decide +kernel
theorem d6_45 : decode prog_18_method_9_code 45 = .ok (.iload_n 1, 1) := by decide +kernel
theorem d6_46 : decode prog_18_method_9_code 46 = .ok (.newarray .int, 2) := by decide +kernel
theorem d6_48 : decode prog_18_method_9_code 48 = .ok (.putfield 23, 3) := by decide +kernel
theorem d6_51 : decode prog_18_method_9_code 51 = .ok (.return_, 1) := by decide +kernel
theorem ef_rmAl (m : MethodId) (o : Addr) : entryFrame m #[(.ref o)] 2 = mkF m 0 #[.val (.ref o), .unset] [] := by first | (simp [entryFrame, mkF, argsToLocals, Value.category, maxLocals]; done) | rfl
def QrmAl (Z : State) (o : Addr) (pl : Int32) (w : Int32) (df : Int32) (n0 : Nat) (h0 : Heap) (rv : Option Value) (h : Heap) : Prop := ∃ aE : Addr, ∃ aL : Addr, ∃ aD : Addr, rv = none ∧ Keep h0 h [o] ∧ Fld Z h o "com/example/shoal_creek/shoalcreek/MatchedSuffixes" "ends" "[I" (.ref aE) ∧ Fld Z h o "com/example/shoal_creek/shoalcreek/MatchedSuffixes" "lengths" "[I" (.ref aL) ∧ Fld Z h o "com/example/shoal_creek/shoalcreek/MatchedSuffixes" "differings" "[I" (.ref aD) ∧ Fld Z h o "com/example/shoal_creek/shoalcreek/MatchedSuffixes" "newestEnd" "I" (.int w) ∧ Fld Z h o "com/example/shoal_creek/shoalcreek/MatchedSuffixes" "patternLength" "I" (.int pl) ∧ Fld Z h o "com/example/shoal_creek/shoalcreek/MatchedSuffixes" "differing" "C" (.int df) ∧ Av Z h aE .int (own_N pl) (fun i => .int (own_zero i)) ∧ Av Z h aL .int (own_N pl) (fun i => .int (own_zero i)) ∧ Av Z h aD .int (own_N pl) (fun i => .int (own_zero i)) ∧ h0.size ≤ aE ∧ h0.size ≤ aL ∧ h0.size ≤ aD ∧ aE ≠ aL ∧ aE ≠ aD ∧ aL ≠ aD
abbrev RrmAl : Room := { frames := 0, cells := 3, slots := 24, locals := 0 }
set_option maxRecDepth 65536 in
set_option maxHeartbeats 40000000 in
theorem rmAl (l : Launch) (Z : State) (a0 : Array Value) (hw : ∀ d ∈ tables_1, d.before a0 Z = true) (ws : List Jvm.Cond) (o : Addr) (pl : Int32) (w : Int32) (df : Int32) (n0 : Nat) (h0 : Heap) (hn : n0 ≤ h0.size) (H0 : Exa Z h0 o "com/example/shoal_creek/shoalcreek/MatchedSuffixes") (H1 : Fld Z h0 o "com/example/shoal_creek/shoalcreek/MatchedSuffixes" "ends" "[I" .null) (H2 : Fld Z h0 o "com/example/shoal_creek/shoalcreek/MatchedSuffixes" "lengths" "[I" .null) (H3 : Fld Z h0 o "com/example/shoal_creek/shoalcreek/MatchedSuffixes" "differings" "[I" .null) (H4 : Fld Z h0 o "com/example/shoal_creek/shoalcreek/MatchedSuffixes" "newestEnd" "I" (.int w)) (H5 : Fld Z h0 o "com/example/shoal_creek/shoalcreek/MatchedSuffixes" "patternLength" "I" (.int pl)) (H6 : Fld Z h0 o "com/example/shoal_creek/shoalcreek/MatchedSuffixes" "differing" "C" (.int df)) (H7 : n0 ≤ o) (hp64 : ¬ (8 : Int32) < pl) :
    Con l Z (⟨"com/example/shoal_creek/shoalcreek/MatchedSuffixes", "allocate", "()V"⟩ : MethodName) prog_18_method_9_code 2 none ws RrmAl #[(.ref o)] h0 n0 (QrmAl Z o pl w df n0 h0) := by
  refine body (y := (⟨"com/example/shoal_creek/shoalcreek/MatchedSuffixes", "allocate", "()V"⟩ : MethodName)) (Ls := #[.val (.ref o), .unset]) (plainFor_of_name pn0) hn (fun m => ef_rmAl m o) ?_
  intro p e s m below meth c T0 hx hby hml hown hnm hret hlk hZ X0
  refine i_aloadN (v := (.ref o)) (pc' := 1) X0 hx (hb hby d6_0) rfl rfl rfl ?_
  refine gf (pc' := 4) (host := "") X0 hx hZ hown (Or.inl (hw _ (List.mem_of_getElem? (i := 35) rfl))) Via.refl H1 (hb hby d6_1) rfl fun T1 X1 => ?_
  refine i_nnF (pc' := 7) X1 hx (hb hby d6_4) rfl rfl ?_
  refine i_iconst (pc' := 8) (1 : Int32) X1 hx (hb hby d6_7) rfl (by decide) ?_
  refine i_istoreN (L' := #[.val (.ref o), .val (.int (1 : Int32))]) (pc' := 9) X1 hx (hb hby d6_8) rfl rfl ?_
  have J2 : ∀ (T2 : State) (h2 : Heap) (z : Int32), Pn p l e RrmAl s m #[(.ref o)] below meth c T2 h2 n0 0 0 → Keep h0 h2 [o] → Exa Z h2 o "com/example/shoal_creek/shoalcreek/MatchedSuffixes" → Fld Z h2 o "com/example/shoal_creek/shoalcreek/MatchedSuffixes" "ends" "[I" .null → Fld Z h2 o "com/example/shoal_creek/shoalcreek/MatchedSuffixes" "lengths" "[I" .null → Fld Z h2 o "com/example/shoal_creek/shoalcreek/MatchedSuffixes" "differings" "[I" .null → Fld Z h2 o "com/example/shoal_creek/shoalcreek/MatchedSuffixes" "newestEnd" "I" (.int w) → Fld Z h2 o "com/example/shoal_creek/shoalcreek/MatchedSuffixes" "patternLength" "I" (.int pl) → Fld Z h2 o "com/example/shoal_creek/shoalcreek/MatchedSuffixes" "differing" "C" (.int df) → z = own_slots pl → Go p e s below n0 (QrmAl Z o pl w df n0 h0) RrmAl T2 (mkF m 30 #[.val (.ref o), .val (.int z)] []) := by
    intro T2 h2 z  X2 K2 G2_0 G2_1 G2_2 G2_3 G2_4 G2_5 G2_6 hz
    refine i_aloadN (v := (.ref o)) (pc' := 31) X2 hx (hb hby d6_30) rfl rfl rfl ?_
    refine i_iloadN (v := z) (pc' := 32) X2 hx (hb hby d6_31) rfl rfl ?_
    refine na (aty := .int) (pc' := 34) 8 X2 hx hZ (hw _ (List.mem_of_getElem? (i := 37) rfl)) (hb hby d6_32) rfl (by rw [hz]; exact (own_sneg pl).1) (by rw [hz]; exact own_sneg8 hp64) (by decide) (by decide) (by decide) fun T3 h3 b3 X3 g3 ge3 E3 V3 => ?_
    have ne_o_b3 : o ≠ b3 := Nat.ne_of_lt (Nat.lt_of_lt_of_eq G2_0.lt g3.symm)
    have sz_b3 : h0.size ≤ b3 := Nat.le_trans (K2 : Keep h0 h2 [o]).1 (Nat.le_of_eq g3.symm)
    have K3 : Keep h0 h3 [o] := (K2 : Keep h0 h2 [o]).ext E3
    have A3 : Av Z h3 b3 .int (own_N pl) (fun _ => .int 0) := (by have q := V3; rw [hz] at q; exact q)
    have F4 : Fld Z h3 o "com/example/shoal_creek/shoalcreek/MatchedSuffixes" "ends" "[I" .null := (Jvm.RoadKit.Fld.ext E3 G2_1)
    have F5 : Exa Z h3 o "com/example/shoal_creek/shoalcreek/MatchedSuffixes" := (Jvm.RoadKit.Exa.ext E3 G2_0)
    refine pf (pc' := 37) (host := "") (ty := (.array .int)) X3 hx hZ hown (Or.inl (hw _ (List.mem_of_getElem? (i := 35) rfl))) Via.refl F4 F5 (Or.inl (hw _ (List.mem_of_getElem? (i := 36) rfl))) (hw _ (List.mem_of_getElem? (i := 3) rfl)) (by decide) rfl rfl H7 (hb hby d6_34) rfl fun T6 h6 X6 W6 => ?_
    refine i_aloadN (v := (.ref o)) (pc' := 38) X6 hx (hb hby d6_37) rfl rfl rfl ?_
    refine i_iloadN (v := z) (pc' := 39) X6 hx (hb hby d6_38) rfl rfl ?_
    refine na (aty := .int) (pc' := 41) 8 X6 hx hZ (hw _ (List.mem_of_getElem? (i := 37) rfl)) (hb hby d6_39) rfl (by rw [hz]; exact (own_sneg pl).1) (by rw [hz]; exact own_sneg8 hp64) (by decide) (by decide) (by decide) fun T7 h7 b7 X7 g7 ge7 E7 V7 => ?_
    have F8 : Exa Z h6 o "com/example/shoal_creek/shoalcreek/MatchedSuffixes" := (Jvm.RoadKit.Exa.wr W6 F5)
    have ne_o_b7 : o ≠ b7 := Nat.ne_of_lt (Nat.lt_of_lt_of_eq F8.lt g7.symm)
    have F9 : Av Z h6 b3 .int (own_N pl) (fun _ => .int 0) := (A3.other W6 (Ne.symm ne_o_b3))
    have ne_b3_b7 : b3 ≠ b7 := Nat.ne_of_lt (Nat.lt_of_lt_of_eq F9.lt g7.symm)
    have sz_b7 : h0.size ≤ b7 := Nat.le_trans ((K3.wr W6 (Or.inl (List.mem_of_getElem? (i := 0) rfl))) : Keep h0 h6 [o]).1 (Nat.le_of_eq g7.symm)
    have K7 : Keep h0 h7 [o] := ((K3.wr W6 (Or.inl (List.mem_of_getElem? (i := 0) rfl))) : Keep h0 h6 [o]).ext E7
    have A7 : Av Z h7 b7 .int (own_N pl) (fun _ => .int 0) := (by have q := V7; rw [hz] at q; exact q)
    have F10 : Fld Z h7 o "com/example/shoal_creek/shoalcreek/MatchedSuffixes" "lengths" "[I" .null := (Jvm.RoadKit.Fld.ext E7 (Jvm.RoadKit.Fld.other W6 (Jvm.RoadKit.Fld.ext E3 G2_2) (Or.inr (slot_ne (a0 := a0) (Or.inl (hw _ (List.mem_of_getElem? (i := 39) rfl))) (Or.inl (hw _ (List.mem_of_getElem? (i := 36) rfl))) (by decide) (t := (.array .int)) (t' := (.array .int)) (by decide) (by decide)))))
    have F11 : Exa Z h7 o "com/example/shoal_creek/shoalcreek/MatchedSuffixes" := (Jvm.RoadKit.Exa.ext E7 F8)
    refine pf (pc' := 44) (host := "") (ty := (.array .int)) X7 hx hZ hown (Or.inl (hw _ (List.mem_of_getElem? (i := 38) rfl))) Via.refl F10 F11 (Or.inl (hw _ (List.mem_of_getElem? (i := 39) rfl))) (hw _ (List.mem_of_getElem? (i := 3) rfl)) (by decide) rfl rfl H7 (hb hby d6_41) rfl fun T12 h12 X12 W12 => ?_
    refine i_aloadN (v := (.ref o)) (pc' := 45) X12 hx (hb hby d6_44) rfl rfl rfl ?_
    refine i_iloadN (v := z) (pc' := 46) X12 hx (hb hby d6_45) rfl rfl ?_
    refine na (aty := .int) (pc' := 48) 8 X12 hx hZ (hw _ (List.mem_of_getElem? (i := 37) rfl)) (hb hby d6_46) rfl (by rw [hz]; exact (own_sneg pl).1) (by rw [hz]; exact own_sneg8 hp64) (by decide) (by decide) (by decide) fun T13 h13 b13 X13 g13 ge13 E13 V13 => ?_
    have F14 : Exa Z h12 o "com/example/shoal_creek/shoalcreek/MatchedSuffixes" := (Jvm.RoadKit.Exa.wr W12 F11)
    have ne_o_b13 : o ≠ b13 := Nat.ne_of_lt (Nat.lt_of_lt_of_eq F14.lt g13.symm)
    have F15 : Av Z h12 b3 .int (own_N pl) (fun _ => .int 0) := ((F9.ext E7).other W12 (Ne.symm ne_o_b3))
    have ne_b3_b13 : b3 ≠ b13 := Nat.ne_of_lt (Nat.lt_of_lt_of_eq F15.lt g13.symm)
    have F16 : Av Z h12 b7 .int (own_N pl) (fun _ => .int 0) := (A7.other W12 (Ne.symm ne_o_b7))
    have ne_b7_b13 : b7 ≠ b13 := Nat.ne_of_lt (Nat.lt_of_lt_of_eq F16.lt g13.symm)
    have sz_b13 : h0.size ≤ b13 := Nat.le_trans ((K7.wr W12 (Or.inl (List.mem_of_getElem? (i := 0) rfl))) : Keep h0 h12 [o]).1 (Nat.le_of_eq g13.symm)
    have K13 : Keep h0 h13 [o] := ((K7.wr W12 (Or.inl (List.mem_of_getElem? (i := 0) rfl))) : Keep h0 h12 [o]).ext E13
    have A13 : Av Z h13 b13 .int (own_N pl) (fun _ => .int 0) := (by have q := V13; rw [hz] at q; exact q)
    have F17 : Fld Z h13 o "com/example/shoal_creek/shoalcreek/MatchedSuffixes" "differings" "[I" .null := (Jvm.RoadKit.Fld.ext E13 (Jvm.RoadKit.Fld.other W12 (Jvm.RoadKit.Fld.ext E7 (Jvm.RoadKit.Fld.other W6 (Jvm.RoadKit.Fld.ext E3 G2_3) (Or.inr (slot_ne (a0 := a0) (Or.inl (hw _ (List.mem_of_getElem? (i := 41) rfl))) (Or.inl (hw _ (List.mem_of_getElem? (i := 36) rfl))) (by decide) (t := (.array .int)) (t' := (.array .int)) (by decide) (by decide))))) (Or.inr (slot_ne (a0 := a0) (Or.inl (hw _ (List.mem_of_getElem? (i := 41) rfl))) (Or.inl (hw _ (List.mem_of_getElem? (i := 39) rfl))) (by decide) (t := (.array .int)) (t' := (.array .int)) (by decide) (by decide)))))
    have F18 : Exa Z h13 o "com/example/shoal_creek/shoalcreek/MatchedSuffixes" := (Jvm.RoadKit.Exa.ext E13 F14)
    refine pf (pc' := 51) (host := "") (ty := (.array .int)) X13 hx hZ hown (Or.inl (hw _ (List.mem_of_getElem? (i := 40) rfl))) Via.refl F17 F18 (Or.inl (hw _ (List.mem_of_getElem? (i := 41) rfl))) (hw _ (List.mem_of_getElem? (i := 3) rfl)) (by decide) rfl rfl H7 (hb hby d6_48) rfl fun T19 h19 X19 W19 => ?_
    refine rV X19 hx hlk hret (hb hby d6_51) (by decide) (by decide) ?_
    have F20 : Fld Z h19 o "com/example/shoal_creek/shoalcreek/MatchedSuffixes" "ends" "[I" (.ref b3) := (Jvm.RoadKit.Fld.other W19 (Jvm.RoadKit.Fld.ext E13 (Jvm.RoadKit.Fld.other W12 (Jvm.RoadKit.Fld.ext E7 (Jvm.RoadKit.Fld.same W6 F4)) (Or.inr (slot_ne (a0 := a0) (Or.inl (hw _ (List.mem_of_getElem? (i := 36) rfl))) (Or.inl (hw _ (List.mem_of_getElem? (i := 39) rfl))) (by decide) (t := (.array .int)) (t' := (.array .int)) (by decide) (by decide))))) (Or.inr (slot_ne (a0 := a0) (Or.inl (hw _ (List.mem_of_getElem? (i := 36) rfl))) (Or.inl (hw _ (List.mem_of_getElem? (i := 41) rfl))) (by decide) (t := (.array .int)) (t' := (.array .int)) (by decide) (by decide))))
    have F21 : Fld Z h19 o "com/example/shoal_creek/shoalcreek/MatchedSuffixes" "lengths" "[I" (.ref b7) := (Jvm.RoadKit.Fld.other W19 (Jvm.RoadKit.Fld.ext E13 (Jvm.RoadKit.Fld.same W12 F10)) (Or.inr (slot_ne (a0 := a0) (Or.inl (hw _ (List.mem_of_getElem? (i := 39) rfl))) (Or.inl (hw _ (List.mem_of_getElem? (i := 41) rfl))) (by decide) (t := (.array .int)) (t' := (.array .int)) (by decide) (by decide))))
    have F22 : Fld Z h19 o "com/example/shoal_creek/shoalcreek/MatchedSuffixes" "differings" "[I" (.ref b13) := (Jvm.RoadKit.Fld.same W19 F17)
    have F23 : Fld Z h19 o "com/example/shoal_creek/shoalcreek/MatchedSuffixes" "newestEnd" "I" (.int w) := (Jvm.RoadKit.Fld.other W19 (Jvm.RoadKit.Fld.ext E13 (Jvm.RoadKit.Fld.other W12 (Jvm.RoadKit.Fld.ext E7 (Jvm.RoadKit.Fld.other W6 (Jvm.RoadKit.Fld.ext E3 G2_4) (Or.inr (slot_ne (a0 := a0) (Or.inl (hw _ (List.mem_of_getElem? (i := 12) rfl))) (Or.inl (hw _ (List.mem_of_getElem? (i := 36) rfl))) (by decide) (t := .int) (t' := (.array .int)) (by decide) (by decide))))) (Or.inr (slot_ne (a0 := a0) (Or.inl (hw _ (List.mem_of_getElem? (i := 12) rfl))) (Or.inl (hw _ (List.mem_of_getElem? (i := 39) rfl))) (by decide) (t := .int) (t' := (.array .int)) (by decide) (by decide))))) (Or.inr (slot_ne (a0 := a0) (Or.inl (hw _ (List.mem_of_getElem? (i := 12) rfl))) (Or.inl (hw _ (List.mem_of_getElem? (i := 41) rfl))) (by decide) (t := .int) (t' := (.array .int)) (by decide) (by decide))))
    have F24 : Fld Z h19 o "com/example/shoal_creek/shoalcreek/MatchedSuffixes" "patternLength" "I" (.int pl) := (Jvm.RoadKit.Fld.other W19 (Jvm.RoadKit.Fld.ext E13 (Jvm.RoadKit.Fld.other W12 (Jvm.RoadKit.Fld.ext E7 (Jvm.RoadKit.Fld.other W6 (Jvm.RoadKit.Fld.ext E3 G2_5) (Or.inr (slot_ne (a0 := a0) (Or.inr (hw _ (List.mem_of_getElem? (i := 14) rfl))) (Or.inl (hw _ (List.mem_of_getElem? (i := 36) rfl))) (by decide) (t := .int) (t' := (.array .int)) (by decide) (by decide))))) (Or.inr (slot_ne (a0 := a0) (Or.inr (hw _ (List.mem_of_getElem? (i := 14) rfl))) (Or.inl (hw _ (List.mem_of_getElem? (i := 39) rfl))) (by decide) (t := .int) (t' := (.array .int)) (by decide) (by decide))))) (Or.inr (slot_ne (a0 := a0) (Or.inr (hw _ (List.mem_of_getElem? (i := 14) rfl))) (Or.inl (hw _ (List.mem_of_getElem? (i := 41) rfl))) (by decide) (t := .int) (t' := (.array .int)) (by decide) (by decide))))
    have F25 : Fld Z h19 o "com/example/shoal_creek/shoalcreek/MatchedSuffixes" "differing" "C" (.int df) := (Jvm.RoadKit.Fld.other W19 (Jvm.RoadKit.Fld.ext E13 (Jvm.RoadKit.Fld.other W12 (Jvm.RoadKit.Fld.ext E7 (Jvm.RoadKit.Fld.other W6 (Jvm.RoadKit.Fld.ext E3 G2_6) (Or.inr (slot_ne (a0 := a0) (Or.inl (hw _ (List.mem_of_getElem? (i := 21) rfl))) (Or.inl (hw _ (List.mem_of_getElem? (i := 36) rfl))) (by decide) (t := .char) (t' := (.array .int)) (by decide) (by decide))))) (Or.inr (slot_ne (a0 := a0) (Or.inl (hw _ (List.mem_of_getElem? (i := 21) rfl))) (Or.inl (hw _ (List.mem_of_getElem? (i := 39) rfl))) (by decide) (t := .char) (t' := (.array .int)) (by decide) (by decide))))) (Or.inr (slot_ne (a0 := a0) (Or.inl (hw _ (List.mem_of_getElem? (i := 21) rfl))) (Or.inl (hw _ (List.mem_of_getElem? (i := 41) rfl))) (by decide) (t := .char) (t' := (.array .int)) (by decide) (by decide))))
    have F26 : Av Z h19 b3 .int (own_N pl) (fun _ => .int 0) := ((F15.ext E13).other W19 (Ne.symm ne_o_b3))
    have F27 : Av Z h19 b7 .int (own_N pl) (fun _ => .int 0) := ((F16.ext E13).other W19 (Ne.symm ne_o_b7))
    have F28 : Av Z h19 b13 .int (own_N pl) (fun _ => .int 0) := (A13.other W19 (Ne.symm ne_o_b13))
    exact ⟨b3, b7, b13, rfl, (K13.wr W19 (Or.inl (List.mem_of_getElem? (i := 0) rfl))), F20, F21, F22, F23, F24, F25, F26, F27, F28, sz_b3, sz_b7, sz_b13, ne_b3_b7, ne_b3_b13, ne_b7_b13⟩
  refine i_iloadN (v := (1 : Int32)) (pc' := 10) X1 hx (hb hby d6_9) rfl rfl ?_
  refine i_aloadN (v := (.ref o)) (pc' := 11) X1 hx (hb hby d6_10) rfl rfl rfl ?_
  refine gf (pc' := 14) (host := "") X1 hx hZ hown (Or.inl (hw _ (List.mem_of_getElem? (i := 13) rfl))) Via.refl H5 (hb hby d6_11) rfl fun T29 X29 => ?_
  by_cases hc30 : (1 : Int32) < pl
  · skip
    refine i_icF (pc' := 17) X29 hx (hb hby d6_14) rfl (XT.ii_ge_f hc30) ?_
    refine i_iloadN (v := (1 : Int32)) (pc' := 18) X29 hx (hb hby d6_17) rfl rfl ?_
    refine i_ldc (pc' := 20) (1073741824 : Int32) X29 hx hZ hown (hw _ (List.mem_of_getElem? (i := 79) rfl)) (hb hby d6_18) rfl ?_
    refine i_icF (pc' := 23) X29 hx (hb hby d6_20) rfl (XT.ii_ge_f (by decide)) ?_
    refine i_iloadN (v := (1 : Int32)) (pc' := 24) X29 hx (hb hby d6_23) rfl rfl ?_
    refine i_iconst (pc' := 25) (1 : Int32) X29 hx (hb hby d6_24) rfl (by decide) ?_
    refine i_ishl (pc' := 26) X29 hx (hb hby d6_25) rfl ?_
    rw [show ((1 : Int32) <<< ((1 : Int32) &&& 31)) = (2 : Int32) from by decide]
    refine i_istoreN (L' := #[.val (.ref o), .val (.int (2 : Int32))]) (pc' := 27) X29 hx (hb hby d6_26) rfl rfl ?_
    refine i_goto (pc' := 9) X29 hx (hb hby d6_27) (by decide) (by decide) ?_
    refine i_iloadN (v := (2 : Int32)) (pc' := 10) X29 hx (hb hby d6_9) rfl rfl ?_
    refine i_aloadN (v := (.ref o)) (pc' := 11) X29 hx (hb hby d6_10) rfl rfl rfl ?_
    refine gf (pc' := 14) (host := "") X29 hx hZ hown (Or.inl (hw _ (List.mem_of_getElem? (i := 13) rfl))) Via.refl H5 (hb hby d6_11) rfl fun T31 X31 => ?_
    by_cases hc32 : (2 : Int32) < pl
    · skip
      refine i_icF (pc' := 17) X31 hx (hb hby d6_14) rfl (XT.ii_ge_f hc32) ?_
      refine i_iloadN (v := (2 : Int32)) (pc' := 18) X31 hx (hb hby d6_17) rfl rfl ?_
      refine i_ldc (pc' := 20) (1073741824 : Int32) X31 hx hZ hown (hw _ (List.mem_of_getElem? (i := 79) rfl)) (hb hby d6_18) rfl ?_
      refine i_icF (pc' := 23) X31 hx (hb hby d6_20) rfl (XT.ii_ge_f (by decide)) ?_
      refine i_iloadN (v := (2 : Int32)) (pc' := 24) X31 hx (hb hby d6_23) rfl rfl ?_
      refine i_iconst (pc' := 25) (1 : Int32) X31 hx (hb hby d6_24) rfl (by decide) ?_
      refine i_ishl (pc' := 26) X31 hx (hb hby d6_25) rfl ?_
      rw [show ((2 : Int32) <<< ((1 : Int32) &&& 31)) = (4 : Int32) from by decide]
      refine i_istoreN (L' := #[.val (.ref o), .val (.int (4 : Int32))]) (pc' := 27) X31 hx (hb hby d6_26) rfl rfl ?_
      refine i_goto (pc' := 9) X31 hx (hb hby d6_27) (by decide) (by decide) ?_
      refine i_iloadN (v := (4 : Int32)) (pc' := 10) X31 hx (hb hby d6_9) rfl rfl ?_
      refine i_aloadN (v := (.ref o)) (pc' := 11) X31 hx (hb hby d6_10) rfl rfl rfl ?_
      refine gf (pc' := 14) (host := "") X31 hx hZ hown (Or.inl (hw _ (List.mem_of_getElem? (i := 13) rfl))) Via.refl H5 (hb hby d6_11) rfl fun T33 X33 => ?_
      by_cases hc34 : (4 : Int32) < pl
      · skip
        refine i_icF (pc' := 17) X33 hx (hb hby d6_14) rfl (XT.ii_ge_f hc34) ?_
        refine i_iloadN (v := (4 : Int32)) (pc' := 18) X33 hx (hb hby d6_17) rfl rfl ?_
        refine i_ldc (pc' := 20) (1073741824 : Int32) X33 hx hZ hown (hw _ (List.mem_of_getElem? (i := 79) rfl)) (hb hby d6_18) rfl ?_
        refine i_icF (pc' := 23) X33 hx (hb hby d6_20) rfl (XT.ii_ge_f (by decide)) ?_
        refine i_iloadN (v := (4 : Int32)) (pc' := 24) X33 hx (hb hby d6_23) rfl rfl ?_
        refine i_iconst (pc' := 25) (1 : Int32) X33 hx (hb hby d6_24) rfl (by decide) ?_
        refine i_ishl (pc' := 26) X33 hx (hb hby d6_25) rfl ?_
        rw [show ((4 : Int32) <<< ((1 : Int32) &&& 31)) = (8 : Int32) from by decide]
        refine i_istoreN (L' := #[.val (.ref o), .val (.int (8 : Int32))]) (pc' := 27) X33 hx (hb hby d6_26) rfl rfl ?_
        refine i_goto (pc' := 9) X33 hx (hb hby d6_27) (by decide) (by decide) ?_
        refine i_iloadN (v := (8 : Int32)) (pc' := 10) X33 hx (hb hby d6_9) rfl rfl ?_
        refine i_aloadN (v := (.ref o)) (pc' := 11) X33 hx (hb hby d6_10) rfl rfl rfl ?_
        refine gf (pc' := 14) (host := "") X33 hx hZ hown (Or.inl (hw _ (List.mem_of_getElem? (i := 13) rfl))) Via.refl H5 (hb hby d6_11) rfl fun T35 X35 => ?_
        refine i_icT (pc' := 30) X35 hx (hb hby d6_14) (XT.ii_ge_t hp64) (by decide) (by decide) ?_
        exact J2 _ _ (8 : Int32) (X35.mono (by decide) (by decide)) (Keep.refl h0 _) H0 H1 H2 H3 H4 H5 H6 (by simp [own_slots, hc30, hc32, hc34, hp64])
      · skip
        refine i_icT (pc' := 30) X33 hx (hb hby d6_14) (XT.ii_ge_t hc34) (by decide) (by decide) ?_
        exact J2 _ _ (4 : Int32) (X33.mono (by decide) (by decide)) (Keep.refl h0 _) H0 H1 H2 H3 H4 H5 H6 (by simp [own_slots, hc30, hc32, hc34])
    · skip
      refine i_icT (pc' := 30) X31 hx (hb hby d6_14) (XT.ii_ge_t hc32) (by decide) (by decide) ?_
      exact J2 _ _ (2 : Int32) (X31.mono (by decide) (by decide)) (Keep.refl h0 _) H0 H1 H2 H3 H4 H5 H6 (by simp [own_slots, hc30, hc32])
  · skip
    refine i_icT (pc' := 30) X29 hx (hb hby d6_14) (XT.ii_ge_t hc30) (by decide) (by decide) ?_
    exact J2 _ _ (1 : Int32) (X29.mono (by decide) (by decide)) (Keep.refl h0 _) H0 H1 H2 H3 H4 H5 H6 (by simp [own_slots, hc30])
theorem ef_rmAl2 (m : MethodId) (o : Addr) : entryFrame m #[(.ref o)] 2 = mkF m 0 #[.val (.ref o), .unset] [] := by first | (simp [entryFrame, mkF, argsToLocals, Value.category, maxLocals]; done) | rfl
def QrmAl2 (Z : State) (o : Addr) (aE : Addr) (n0 : Nat) (h0 : Heap) (rv : Option Value) (h : Heap) : Prop := rv = none ∧ h0 = h
abbrev RrmAl2 : Room := { frames := 0, cells := 0, slots := 0, locals := 0 }
set_option maxRecDepth 65536 in
set_option maxHeartbeats 40000000 in
theorem rmAl2 (l : Launch) (Z : State) (a0 : Array Value) (hw : ∀ d ∈ tables_1, d.before a0 Z = true) (ws : List Jvm.Cond) (o : Addr) (aE : Addr) (n0 : Nat) (h0 : Heap) (hn : n0 ≤ h0.size) (H0 : Fld Z h0 o "com/example/shoal_creek/shoalcreek/MatchedSuffixes" "ends" "[I" (.ref aE))  :
    Con l Z (⟨"com/example/shoal_creek/shoalcreek/MatchedSuffixes", "allocate", "()V"⟩ : MethodName) prog_18_method_9_code 2 none ws RrmAl2 #[(.ref o)] h0 n0 (QrmAl2 Z o aE n0 h0) := by
  refine body (y := (⟨"com/example/shoal_creek/shoalcreek/MatchedSuffixes", "allocate", "()V"⟩ : MethodName)) (Ls := #[.val (.ref o), .unset]) (plainFor_of_name pn0) hn (fun m => ef_rmAl2 m o) ?_
  intro p e s m below meth c T0 hx hby hml hown hnm hret hlk hZ X0
  refine i_aloadN (v := (.ref o)) (pc' := 1) X0 hx (hb hby d6_0) rfl rfl rfl ?_
  refine gf (pc' := 4) (host := "") X0 hx hZ hown (Or.inl (hw _ (List.mem_of_getElem? (i := 35) rfl))) Via.refl H0 (hb hby d6_1) rfl fun T1 X1 => ?_
  refine i_nnT (pc' := 51) X1 hx (hb hby d6_4) rfl (by simp) (by decide) (by decide) ?_
  refine rV X1 hx hlk hret (hb hby d6_51) (by decide) (by decide) ?_
  exact ⟨rfl, rfl⟩
theorem d7_0 : decode prog_18_method_10_code 0 = .ok (.iload_n 1, 1) := by decide +kernel
theorem d7_1 : decode prog_18_method_10_code 1 = .ok (.aload_n 0, 1) := by decide +kernel
theorem d7_2 : decode prog_18_method_10_code 2 = .ok (.getfield 16, 3) := by decide +kernel
theorem d7_5 : decode prog_18_method_10_code 5 = .ok (.arraylength, 1) := by decide +kernel
theorem d7_6 : decode prog_18_method_10_code 6 = .ok (.iconst 1, 1) := by decide +kernel
theorem d7_7 : decode prog_18_method_10_code 7 = .ok (.isub, 1) := by decide +kernel
theorem d7_8 : decode prog_18_method_10_code 8 = .ok (.iand, 1) := by decide +kernel
theorem d7_9 : decode prog_18_method_10_code 9 = .ok (.istore 4, 2) := by decide +kernel
theorem d7_11 : decode prog_18_method_10_code 11 = .ok (.aload_n 0, 1) := by decide +kernel
theorem d7_12 : decode prog_18_method_10_code 12 = .ok (.getfield 16, 3) := by decide +kernel
theorem d7_15 : decode prog_18_method_10_code 15 = .ok (.iload 4, 2) := by decide +kernel
theorem d7_17 : decode prog_18_method_10_code 17 = .ok (.iload_n 1, 1) := by decide +kernel
theorem d7_18 : decode prog_18_method_10_code 18 = .ok (.iastore, 1) := by decide +kernel
theorem d7_19 : decode prog_18_method_10_code 19 = .ok (.aload_n 0, 1) := by decide +kernel
theorem d7_20 : decode prog_18_method_10_code 20 = .ok (.getfield 20, 3) := by decide +kernel
theorem d7_23 : decode prog_18_method_10_code 23 = .ok (.iload 4, 2) := by decide +kernel
theorem d7_25 : decode prog_18_method_10_code 25 = .ok (.iload_n 2, 1) := by decide +kernel
theorem d7_26 : decode prog_18_method_10_code 26 = .ok (.iastore, 1) := by decide +kernel
theorem d7_27 : decode prog_18_method_10_code 27 = .ok (.aload_n 0, 1) := by decide +kernel
theorem d7_28 : decode prog_18_method_10_code 28 = .ok (.getfield 23, 3) := by decide +kernel
theorem d7_31 : decode prog_18_method_10_code 31 = .ok (.iload 4, 2) := by decide +kernel
theorem d7_33 : decode prog_18_method_10_code 33 = .ok (.iload_n 3, 1) := by decide +kernel
theorem d7_34 : decode prog_18_method_10_code 34 = .ok (.iastore, 1) := by decide +kernel
theorem d7_35 : decode prog_18_method_10_code 35 = .ok (.aload_n 0, 1) := by decide +kernel
theorem d7_36 : decode prog_18_method_10_code 36 = .ok (.aload_n 0, 1) := by decide +kernel
theorem d7_37 : decode prog_18_method_10_code 37 = .ok (.getfield 7, 3) := by decide +kernel
theorem d7_40 : decode prog_18_method_10_code 40 = .ok (.iload_n 1, 1) := by decide +kernel
theorem d7_41 : decode prog_18_method_10_code 41 = .ok (.invokestatic 38, 3) := by decide +kernel
theorem d7_44 : decode prog_18_method_10_code 44 = .ok (.putfield 7, 3) := by decide +kernel
theorem d7_47 : decode prog_18_method_10_code 47 = .ok (.return_, 1) := by decide +kernel
theorem ef_rmKeep (m : MethodId) (o : Addr) (x : Int32) (y : Int32) (z : Int32) : entryFrame m #[(.ref o), (.int x), (.int y), (.int z)] 5 = mkF m 0 #[.val (.ref o), .val (.int x), .val (.int y), .val (.int z), .unset] [] := by first | (simp [entryFrame, mkF, argsToLocals, Value.category, maxLocals]; done) | rfl
def QrmKeep (Z : State) (o : Addr) (x : Int32) (y : Int32) (z : Int32) (w : Int32) (pl : Int32) (df : Int32) (aE : Addr) (aL : Addr) (aD : Addr) (N : Nat) (fe : Nat → Int32) (fl : Nat → Int32) (fd : Nat → Int32) (n0 : Nat) (h0 : Heap) (rv : Option Value) (h : Heap) : Prop := rv = none ∧ Keep h0 h [o, aE, aL, aD] ∧ Fld Z h o "com/example/shoal_creek/shoalcreek/MatchedSuffixes" "ends" "[I" (.ref aE) ∧ Fld Z h o "com/example/shoal_creek/shoalcreek/MatchedSuffixes" "lengths" "[I" (.ref aL) ∧ Fld Z h o "com/example/shoal_creek/shoalcreek/MatchedSuffixes" "differings" "[I" (.ref aD) ∧ Fld Z h o "com/example/shoal_creek/shoalcreek/MatchedSuffixes" "newestEnd" "I" (.int (own_max w x)) ∧ Fld Z h o "com/example/shoal_creek/shoalcreek/MatchedSuffixes" "patternLength" "I" (.int pl) ∧ Fld Z h o "com/example/shoal_creek/shoalcreek/MatchedSuffixes" "differing" "C" (.int df) ∧ Av Z h aE .int N (fun i => .int ((own_up fe (own_k x N) x) i)) ∧ Av Z h aL .int N (fun i => .int ((own_up fl (own_k x N) y) i)) ∧ Av Z h aD .int N (fun i => .int ((own_up fd (own_k x N) z) i))
theorem pd0 : parseMethodDescriptor "(II)I" = some ⟨[.int, .int], some .int⟩ := by decide +kernel
abbrev RrmKeep : Room := { frames := 1, cells := 0, slots := 0, locals := 14 }
set_option maxRecDepth 65536 in
set_option maxHeartbeats 40000000 in
theorem rmKeep (l : Launch) (Z : State) (a0 : Array Value) (hw : ∀ d ∈ tables_1, d.before a0 Z = true) (ws : List Jvm.Cond) (o : Addr) (x : Int32) (y : Int32) (z : Int32) (w : Int32) (pl : Int32) (df : Int32) (aE : Addr) (aL : Addr) (aD : Addr) (N : Nat) (fe : Nat → Int32) (fl : Nat → Int32) (fd : Nat → Int32) (n0 : Nat) (h0 : Heap) (hn : n0 ≤ h0.size) (H0 : Exa Z h0 o "com/example/shoal_creek/shoalcreek/MatchedSuffixes") (H1 : Fld Z h0 o "com/example/shoal_creek/shoalcreek/MatchedSuffixes" "ends" "[I" (.ref aE)) (H2 : Fld Z h0 o "com/example/shoal_creek/shoalcreek/MatchedSuffixes" "lengths" "[I" (.ref aL)) (H3 : Fld Z h0 o "com/example/shoal_creek/shoalcreek/MatchedSuffixes" "differings" "[I" (.ref aD)) (H4 : Fld Z h0 o "com/example/shoal_creek/shoalcreek/MatchedSuffixes" "newestEnd" "I" (.int w)) (H5 : Fld Z h0 o "com/example/shoal_creek/shoalcreek/MatchedSuffixes" "patternLength" "I" (.int pl)) (H6 : Fld Z h0 o "com/example/shoal_creek/shoalcreek/MatchedSuffixes" "differing" "C" (.int df)) (H7 : Av Z h0 aE .int N (fun i => .int (fe i))) (H8 : Av Z h0 aL .int N (fun i => .int (fl i))) (H9 : Av Z h0 aD .int N (fun i => .int (fd i))) (H10 : n0 ≤ o) (H11 : n0 ≤ aE) (H12 : n0 ≤ aL) (H13 : n0 ≤ aD) (H14 : o ≠ aE) (H15 : o ≠ aL) (H16 : o ≠ aD) (H17 : aE ≠ aL) (H18 : aE ≠ aD) (H19 : aL ≠ aD) (hN : own_p2 N) :
    Con l Z (⟨"com/example/shoal_creek/shoalcreek/MatchedSuffixes", "keep", "(III)V"⟩ : MethodName) prog_18_method_10_code 5 none ws RrmKeep #[(.ref o), (.int x), (.int y), (.int z)] h0 n0 (QrmKeep Z o x y z w pl df aE aL aD N fe fl fd n0 h0) := by
  refine body (y := (⟨"com/example/shoal_creek/shoalcreek/MatchedSuffixes", "keep", "(III)V"⟩ : MethodName)) (Ls := #[.val (.ref o), .val (.int x), .val (.int y), .val (.int z), .unset]) (plainFor_of_name pn0) hn (fun m => ef_rmKeep m o x y z) ?_
  intro p e s m below meth c T0 hx hby hml hown hnm hret hlk hZ X0
  refine i_iloadN (v := x) (pc' := 1) X0 hx (hb hby d7_0) rfl rfl ?_
  refine i_aloadN (v := (.ref o)) (pc' := 2) X0 hx (hb hby d7_1) rfl rfl rfl ?_
  refine gf (pc' := 5) (host := "") X0 hx hZ hown (Or.inl (hw _ (List.mem_of_getElem? (i := 35) rfl))) Via.refl H1 (hb hby d7_2) rfl fun T1 X1 => ?_
  refine len (pc' := 6) (Nat.toInt32 N) X1 hx hZ H7 rfl (hb hby d7_5) rfl ?_
  refine i_iconst (pc' := 7) (1 : Int32) X1 hx (hb hby d7_6) rfl (by decide) ?_
  refine i_isub (pc' := 8) X1 hx (hb hby d7_7) rfl ?_
  refine i_iand (pc' := 9) X1 hx (hb hby d7_8) rfl ?_
  refine i_istore (L' := #[.val (.ref o), .val (.int x), .val (.int y), .val (.int z), .val (.int (x &&& ((Nat.toInt32 N) - (1 : Int32))))]) (pc' := 11) X1 hx (hb hby d7_9) rfl rfl ?_
  refine i_aloadN (v := (.ref o)) (pc' := 12) X1 hx (hb hby d7_11) rfl rfl rfl ?_
  refine gf (pc' := 15) (host := "") X1 hx hZ hown (Or.inl (hw _ (List.mem_of_getElem? (i := 35) rfl))) Via.refl H1 (hb hby d7_12) rfl fun T2 X2 => ?_
  refine i_iload (v := (x &&& ((Nat.toInt32 N) - (1 : Int32)))) (pc' := 17) X2 hx (hb hby d7_15) rfl rfl ?_
  refine i_iloadN (v := x) (pc' := 18) X2 hx (hb hby d7_17) rfl rfl ?_
  refine saI (pc' := 19) X2 hx hZ H7 H11 (own_idx hN x).1 (own_idx hN x).2.1 (hb hby d7_18) rfl fun T3 h3 X3 W3 => ?_
  refine i_aloadN (v := (.ref o)) (pc' := 20) X3 hx (hb hby d7_19) rfl rfl rfl ?_
  have F4 : Fld Z h3 o "com/example/shoal_creek/shoalcreek/MatchedSuffixes" "lengths" "[I" (.ref aL) := (Jvm.RoadKit.Fld.other W3 H2 (Or.inl H14))
  refine gf (pc' := 23) (host := "") X3 hx hZ hown (Or.inl (hw _ (List.mem_of_getElem? (i := 38) rfl))) Via.refl F4 (hb hby d7_20) rfl fun T5 X5 => ?_
  refine i_iload (v := (x &&& ((Nat.toInt32 N) - (1 : Int32)))) (pc' := 25) X5 hx (hb hby d7_23) rfl rfl ?_
  refine i_iloadN (v := y) (pc' := 26) X5 hx (hb hby d7_25) rfl rfl ?_
  have F6 : Av Z h3 aL .int N (fun i => .int (fl i)) := (H8.other W3 (Ne.symm H17))
  refine saI (pc' := 27) X5 hx hZ F6 H12 (own_idx hN x).1 (own_idx hN x).2.1 (hb hby d7_26) rfl fun T7 h7 X7 W7 => ?_
  refine i_aloadN (v := (.ref o)) (pc' := 28) X7 hx (hb hby d7_27) rfl rfl rfl ?_
  have F8 : Fld Z h7 o "com/example/shoal_creek/shoalcreek/MatchedSuffixes" "differings" "[I" (.ref aD) := (Jvm.RoadKit.Fld.other W7 (Jvm.RoadKit.Fld.other W3 H3 (Or.inl H14)) (Or.inl H15))
  refine gf (pc' := 31) (host := "") X7 hx hZ hown (Or.inl (hw _ (List.mem_of_getElem? (i := 40) rfl))) Via.refl F8 (hb hby d7_28) rfl fun T9 X9 => ?_
  refine i_iload (v := (x &&& ((Nat.toInt32 N) - (1 : Int32)))) (pc' := 33) X9 hx (hb hby d7_31) rfl rfl ?_
  refine i_iloadN (v := z) (pc' := 34) X9 hx (hb hby d7_33) rfl rfl ?_
  have F10 : Av Z h7 aD .int N (fun i => .int (fd i)) := ((H9.other W3 (Ne.symm H18)).other W7 (Ne.symm H19))
  refine saI (pc' := 35) X9 hx hZ F10 H13 (own_idx hN x).1 (own_idx hN x).2.1 (hb hby d7_34) rfl fun T11 h11 X11 W11 => ?_
  refine i_aloadN (v := (.ref o)) (pc' := 36) X11 hx (hb hby d7_35) rfl rfl rfl ?_
  refine i_aloadN (v := (.ref o)) (pc' := 37) X11 hx (hb hby d7_36) rfl rfl rfl ?_
  have F12 : Fld Z h11 o "com/example/shoal_creek/shoalcreek/MatchedSuffixes" "newestEnd" "I" (.int w) := (Jvm.RoadKit.Fld.other W11 (Jvm.RoadKit.Fld.other W7 (Jvm.RoadKit.Fld.other W3 H4 (Or.inl H14)) (Or.inl H15)) (Or.inl H16))
  refine gf (pc' := 40) (host := "") X11 hx hZ hown (Or.inl (hw _ (List.mem_of_getElem? (i := 11) rfl))) Via.refl F12 (hb hby d7_37) rfl fun T13 X13 => ?_
  refine i_iloadN (v := x) (pc' := 41) X13 hx (hb hby d7_40) rfl rfl ?_
  refine cS (y := (⟨"java/lang/Math", "max", "(II)I"⟩ : MethodName)) (rest := [(.ref o)]) (pc' := 44) 1 [(.int w), (.int x)] X13 hx hZ hown (hw _ (List.mem_of_getElem? (i := 47) rfl)) (hw _ (List.mem_of_getElem? (i := 48) rfl)) (hw _ (List.mem_of_getElem? (i := 49) rfl)) (hw _ (List.mem_of_getElem? (i := 50) rfl)) (by decide) (rmMax l Z a0 hw [] w x n0 h11 X13.le ) (by decide) (by decide) (by rw [hml]; rfl) rfl (lenOf pd0 rfl) rfl (Nat.le_of_eq rfl) (hb hby d7_41) rfl (by decide) (by decide) ?_
  intro r14 T14 h14 X14 q14
  obtain ⟨rfl, eh14⟩ := q14
  subst eh14
  show Go _ _ _ _ _ _ _ T14 (mkF m 44 #[.val (.ref o), .val (.int x), .val (.int y), .val (.int z), .val (.int (x &&& ((Nat.toInt32 N) - (1 : Int32))))] [(.int (own_max w x)), (.ref o)])
  have F15 : Exa Z h11 o "com/example/shoal_creek/shoalcreek/MatchedSuffixes" := (Jvm.RoadKit.Exa.wr W11 (Jvm.RoadKit.Exa.wr W7 (Jvm.RoadKit.Exa.wr W3 H0)))
  refine pf (pc' := 47) (host := "") (ty := .int) X14 hx hZ hown (Or.inl (hw _ (List.mem_of_getElem? (i := 11) rfl))) Via.refl F12 F15 (Or.inl (hw _ (List.mem_of_getElem? (i := 12) rfl))) (hw _ (List.mem_of_getElem? (i := 3) rfl)) (by decide) rfl rfl H10 (hb hby d7_44) rfl fun T16 h16 X16 W16 => ?_
  refine rV X16 hx hlk hret (hb hby d7_47) (by decide) (by decide) ?_
  have F17 : Fld Z h16 o "com/example/shoal_creek/shoalcreek/MatchedSuffixes" "ends" "[I" (.ref aE) := (Jvm.RoadKit.Fld.other W16 (Jvm.RoadKit.Fld.other W11 (Jvm.RoadKit.Fld.other W7 (Jvm.RoadKit.Fld.other W3 H1 (Or.inl H14)) (Or.inl H15)) (Or.inl H16)) (Or.inr (slot_ne (a0 := a0) (Or.inl (hw _ (List.mem_of_getElem? (i := 36) rfl))) (Or.inl (hw _ (List.mem_of_getElem? (i := 12) rfl))) (by decide) (t := (.array .int)) (t' := .int) (by decide) (by decide))))
  have F18 : Fld Z h16 o "com/example/shoal_creek/shoalcreek/MatchedSuffixes" "lengths" "[I" (.ref aL) := (Jvm.RoadKit.Fld.other W16 (Jvm.RoadKit.Fld.other W11 (Jvm.RoadKit.Fld.other W7 F4 (Or.inl H15)) (Or.inl H16)) (Or.inr (slot_ne (a0 := a0) (Or.inl (hw _ (List.mem_of_getElem? (i := 39) rfl))) (Or.inl (hw _ (List.mem_of_getElem? (i := 12) rfl))) (by decide) (t := (.array .int)) (t' := .int) (by decide) (by decide))))
  have F19 : Fld Z h16 o "com/example/shoal_creek/shoalcreek/MatchedSuffixes" "differings" "[I" (.ref aD) := (Jvm.RoadKit.Fld.other W16 (Jvm.RoadKit.Fld.other W11 F8 (Or.inl H16)) (Or.inr (slot_ne (a0 := a0) (Or.inl (hw _ (List.mem_of_getElem? (i := 41) rfl))) (Or.inl (hw _ (List.mem_of_getElem? (i := 12) rfl))) (by decide) (t := (.array .int)) (t' := .int) (by decide) (by decide))))
  have F20 : Fld Z h16 o "com/example/shoal_creek/shoalcreek/MatchedSuffixes" "newestEnd" "I" (.int (own_max w x)) := (Jvm.RoadKit.Fld.same W16 F12)
  have F21 : Fld Z h16 o "com/example/shoal_creek/shoalcreek/MatchedSuffixes" "patternLength" "I" (.int pl) := (Jvm.RoadKit.Fld.other W16 (Jvm.RoadKit.Fld.other W11 (Jvm.RoadKit.Fld.other W7 (Jvm.RoadKit.Fld.other W3 H5 (Or.inl H14)) (Or.inl H15)) (Or.inl H16)) (Or.inr (slot_ne (a0 := a0) (Or.inr (hw _ (List.mem_of_getElem? (i := 14) rfl))) (Or.inl (hw _ (List.mem_of_getElem? (i := 12) rfl))) (by decide) (t := .int) (t' := .int) (by decide) (by decide))))
  have F22 : Fld Z h16 o "com/example/shoal_creek/shoalcreek/MatchedSuffixes" "differing" "C" (.int df) := (Jvm.RoadKit.Fld.other W16 (Jvm.RoadKit.Fld.other W11 (Jvm.RoadKit.Fld.other W7 (Jvm.RoadKit.Fld.other W3 H6 (Or.inl H14)) (Or.inl H15)) (Or.inl H16)) (Or.inr (slot_ne (a0 := a0) (Or.inl (hw _ (List.mem_of_getElem? (i := 21) rfl))) (Or.inl (hw _ (List.mem_of_getElem? (i := 12) rfl))) (by decide) (t := .char) (t' := .int) (by decide) (by decide))))
  have F23 : Av Z h16 aE .int N (fun i => .int (own_up fe (own_k x N) x i)) := ((((own_st H7 W3).other W7 H17).other W11 H18).other W16 (Ne.symm H14))
  have F24 : Av Z h16 aL .int N (fun i => .int (own_up fl (own_k x N) y i)) := (((own_st F6 W7).other W11 H19).other W16 (Ne.symm H15))
  have F25 : Av Z h16 aD .int N (fun i => .int (own_up fd (own_k x N) z i)) := ((own_st F10 W11).other W16 (Ne.symm H16))
  exact ⟨rfl, (((((Keep.refl h0 _).wr W3 (Or.inl (List.mem_of_getElem? (i := 1) rfl))).wr W7 (Or.inl (List.mem_of_getElem? (i := 2) rfl))).wr W11 (Or.inl (List.mem_of_getElem? (i := 3) rfl))).wr W16 (Or.inl (List.mem_of_getElem? (i := 0) rfl))), F17, F18, F19, F20, F21, F22, F23, F24, F25⟩
theorem d12_0 : decode prog_18_method_2_code 0 = .ok (.iconst 0, 1) := by decide +kernel
theorem d12_1 : decode prog_18_method_2_code 1 = .ok (.istore_n 2, 1) := by decide +kernel
theorem d12_2 : decode prog_18_method_2_code 2 = .ok (.iload_n 1, 1) := by decide +kernel
theorem d12_3 : decode prog_18_method_2_code 3 = .ok (.aload_n 0, 1) := by decide +kernel
theorem d12_4 : decode prog_18_method_2_code 4 = .ok (.getfield 7, 3) := by decide +kernel
theorem d12_7 : decode prog_18_method_2_code 7 = .ok (.if_icmp .gt 36, 3) := by decide +kernel
theorem d12_10 : decode prog_18_method_2_code 10 = .ok (.aload_n 0, 1) := by decide +kernel
theorem d12_11 : decode prog_18_method_2_code 11 = .ok (.getfield 16, 3) := by decide +kernel
theorem d12_14 : decode prog_18_method_2_code 14 = .ok (.iload_n 1, 1) := by decide +kernel
theorem d12_15 : decode prog_18_method_2_code 15 = .ok (.aload_n 0, 1) := by decide +kernel
theorem d12_16 : decode prog_18_method_2_code 16 = .ok (.getfield 16, 3) := by decide +kernel
theorem d12_19 : decode prog_18_method_2_code 19 = .ok (.arraylength, 1) := by decide +kernel
theorem d12_20 : decode prog_18_method_2_code 20 = .ok (.iconst 1, 1) := by decide +kernel
theorem d12_21 : decode prog_18_method_2_code 21 = .ok (.isub, 1) := by decide +kernel
theorem d12_22 : decode prog_18_method_2_code 22 = .ok (.iand, 1) := by decide +kernel
theorem d12_23 : decode prog_18_method_2_code 23 = .ok (.iaload, 1) := by decide +kernel
theorem d12_24 : decode prog_18_method_2_code 24 = .ok (.iload_n 1, 1) := by decide +kernel
theorem d12_25 : decode prog_18_method_2_code 25 = .ok (.if_icmp .ne 18, 3) := by decide +kernel
theorem d12_28 : decode prog_18_method_2_code 28 = .ok (.aload_n 0, 1) := by decide +kernel
theorem d12_29 : decode prog_18_method_2_code 29 = .ok (.getfield 20, 3) := by decide +kernel
theorem d12_32 : decode prog_18_method_2_code 32 = .ok (.iload_n 1, 1) := by decide +kernel
theorem d12_33 : decode prog_18_method_2_code 33 = .ok (.aload_n 0, 1) := by decide +kernel
theorem d12_34 : decode prog_18_method_2_code 34 = .ok (.getfield 16, 3) := by decide +kernel
theorem d12_37 : decode prog_18_method_2_code 37 = .ok (.arraylength, 1) := by decide +kernel
theorem d12_38 : decode prog_18_method_2_code 38 = .ok (.iconst 1, 1) := by decide +kernel
theorem d12_39 : decode prog_18_method_2_code 39 = .ok (.isub, 1) := by decide +kernel
theorem d12_40 : decode prog_18_method_2_code 40 = .ok (.iand, 1) := by decide +kernel
theorem d12_41 : decode prog_18_method_2_code 41 = .ok (.iaload, 1) := by decide +kernel
theorem d12_42 : decode prog_18_method_2_code 42 = .ok (.istore_n 2, 1) := by decide +kernel
theorem d12_43 : decode prog_18_method_2_code 43 = .ok (.iload_n 2, 1) := by decide +kernel
theorem d12_44 : decode prog_18_method_2_code 44 = .ok (.ireturn, 1) := by decide +kernel
theorem ef_rmL0 (m : MethodId) (o : Addr) (q : Int32) : entryFrame m #[(.ref o), (.int q)] 3 = mkF m 0 #[.val (.ref o), .val (.int q), .unset] [] := by first | (simp [entryFrame, mkF, argsToLocals, Value.category, maxLocals]; done) | rfl
def QrmL0 (Z : State) (o : Addr) (q : Int32) (w : Int32) (n0 : Nat) (h0 : Heap) (rv : Option Value) (h : Heap) : Prop := rv = some (.int (0 : Int32)) ∧ h0 = h
abbrev RrmL0 : Room := { frames := 0, cells := 0, slots := 0, locals := 0 }
set_option maxRecDepth 65536 in
set_option maxHeartbeats 40000000 in
theorem rmL0 (l : Launch) (Z : State) (a0 : Array Value) (hw : ∀ d ∈ tables_1, d.before a0 Z = true) (ws : List Jvm.Cond) (o : Addr) (q : Int32) (w : Int32) (n0 : Nat) (h0 : Heap) (hn : n0 ≤ h0.size) (H0 : Fld Z h0 o "com/example/shoal_creek/shoalcreek/MatchedSuffixes" "newestEnd" "I" (.int w)) (hq : w < q) :
    Con l Z (⟨"com/example/shoal_creek/shoalcreek/MatchedSuffixes", "lengthEndingAt", "(I)I"⟩ : MethodName) prog_18_method_2_code 3 (some .int) ws RrmL0 #[(.ref o), (.int q)] h0 n0 (QrmL0 Z o q w n0 h0) := by
  refine body (y := (⟨"com/example/shoal_creek/shoalcreek/MatchedSuffixes", "lengthEndingAt", "(I)I"⟩ : MethodName)) (Ls := #[.val (.ref o), .val (.int q), .unset]) (plainFor_of_name pn0) hn (fun m => ef_rmL0 m o q) ?_
  intro p e s m below meth c T0 hx hby hml hown hnm hret hlk hZ X0
  refine i_iconst (pc' := 1) (0 : Int32) X0 hx (hb hby d12_0) rfl (by decide) ?_
  refine i_istoreN (L' := #[.val (.ref o), .val (.int q), .val (.int (0 : Int32))]) (pc' := 2) X0 hx (hb hby d12_1) rfl rfl ?_
  refine i_iloadN (v := q) (pc' := 3) X0 hx (hb hby d12_2) rfl rfl ?_
  refine i_aloadN (v := (.ref o)) (pc' := 4) X0 hx (hb hby d12_3) rfl rfl rfl ?_
  refine gf (pc' := 7) (host := "") X0 hx hZ hown (Or.inl (hw _ (List.mem_of_getElem? (i := 11) rfl))) Via.refl H0 (hb hby d12_4) rfl fun T1 X1 => ?_
  refine i_icT (pc' := 43) X1 hx (hb hby d12_7) (XT.ii_gt_t hq) (by decide) (by decide) ?_
  refine i_iloadN (v := (0 : Int32)) (pc' := 44) X1 hx (hb hby d12_43) rfl rfl ?_
  refine rI X1 hx hlk hret (hb hby d12_44) (by decide) (by decide) ?_
  exact ⟨rfl, rfl⟩
theorem ef_rmL1 (m : MethodId) (o : Addr) (q : Int32) : entryFrame m #[(.ref o), (.int q)] 3 = mkF m 0 #[.val (.ref o), .val (.int q), .unset] [] := by first | (simp [entryFrame, mkF, argsToLocals, Value.category, maxLocals]; done) | rfl
def QrmL1 (Z : State) (o : Addr) (q : Int32) (w : Int32) (aE : Addr) (aL : Addr) (N : Nat) (fe : Nat → Int32) (fl : Nat → Int32) (n0 : Nat) (h0 : Heap) (rv : Option Value) (h : Heap) : Prop := rv = some (.int (own_lea fe fl N w q)) ∧ h0 = h
abbrev RrmL1 : Room := { frames := 0, cells := 0, slots := 0, locals := 0 }
set_option maxRecDepth 65536 in
set_option maxHeartbeats 40000000 in
theorem rmL1 (l : Launch) (Z : State) (a0 : Array Value) (hw : ∀ d ∈ tables_1, d.before a0 Z = true) (ws : List Jvm.Cond) (o : Addr) (q : Int32) (w : Int32) (aE : Addr) (aL : Addr) (N : Nat) (fe : Nat → Int32) (fl : Nat → Int32) (n0 : Nat) (h0 : Heap) (hn : n0 ≤ h0.size) (H0 : Fld Z h0 o "com/example/shoal_creek/shoalcreek/MatchedSuffixes" "newestEnd" "I" (.int w)) (H1 : Fld Z h0 o "com/example/shoal_creek/shoalcreek/MatchedSuffixes" "ends" "[I" (.ref aE)) (H2 : Fld Z h0 o "com/example/shoal_creek/shoalcreek/MatchedSuffixes" "lengths" "[I" (.ref aL)) (H3 : Av Z h0 aE .int N (fun i => .int (fe i))) (H4 : Av Z h0 aL .int N (fun i => .int (fl i))) (hN : own_p2 N) :
    Con l Z (⟨"com/example/shoal_creek/shoalcreek/MatchedSuffixes", "lengthEndingAt", "(I)I"⟩ : MethodName) prog_18_method_2_code 3 (some .int) ws RrmL1 #[(.ref o), (.int q)] h0 n0 (QrmL1 Z o q w aE aL N fe fl n0 h0) := by
  refine body (y := (⟨"com/example/shoal_creek/shoalcreek/MatchedSuffixes", "lengthEndingAt", "(I)I"⟩ : MethodName)) (Ls := #[.val (.ref o), .val (.int q), .unset]) (plainFor_of_name pn0) hn (fun m => ef_rmL1 m o q) ?_
  intro p e s m below meth c T0 hx hby hml hown hnm hret hlk hZ X0
  refine i_iconst (pc' := 1) (0 : Int32) X0 hx (hb hby d12_0) rfl (by decide) ?_
  refine i_istoreN (L' := #[.val (.ref o), .val (.int q), .val (.int (0 : Int32))]) (pc' := 2) X0 hx (hb hby d12_1) rfl rfl ?_
  refine i_iloadN (v := q) (pc' := 3) X0 hx (hb hby d12_2) rfl rfl ?_
  refine i_aloadN (v := (.ref o)) (pc' := 4) X0 hx (hb hby d12_3) rfl rfl rfl ?_
  refine gf (pc' := 7) (host := "") X0 hx hZ hown (Or.inl (hw _ (List.mem_of_getElem? (i := 11) rfl))) Via.refl H0 (hb hby d12_4) rfl fun T1 X1 => ?_
  by_cases hc2 : w < q
  · skip
    refine i_icT (pc' := 43) X1 hx (hb hby d12_7) (XT.ii_gt_t hc2) (by decide) (by decide) ?_
    refine i_iloadN (v := (0 : Int32)) (pc' := 44) X1 hx (hb hby d12_43) rfl rfl ?_
    refine rI X1 hx hlk hret (hb hby d12_44) (by decide) (by decide) ?_
    exact ⟨(by simp [own_lea, hc2]), rfl⟩
  · skip
    refine i_icF (pc' := 10) X1 hx (hb hby d12_7) rfl (XT.ii_gt_f hc2) ?_
    refine i_aloadN (v := (.ref o)) (pc' := 11) X1 hx (hb hby d12_10) rfl rfl rfl ?_
    refine gf (pc' := 14) (host := "") X1 hx hZ hown (Or.inl (hw _ (List.mem_of_getElem? (i := 35) rfl))) Via.refl H1 (hb hby d12_11) rfl fun T3 X3 => ?_
    refine i_iloadN (v := q) (pc' := 15) X3 hx (hb hby d12_14) rfl rfl ?_
    refine i_aloadN (v := (.ref o)) (pc' := 16) X3 hx (hb hby d12_15) rfl rfl rfl ?_
    refine gf (pc' := 19) (host := "") X3 hx hZ hown (Or.inl (hw _ (List.mem_of_getElem? (i := 35) rfl))) Via.refl H1 (hb hby d12_16) rfl fun T4 X4 => ?_
    refine len (pc' := 20) (Nat.toInt32 N) X4 hx hZ H3 rfl (hb hby d12_19) rfl ?_
    refine i_iconst (pc' := 21) (1 : Int32) X4 hx (hb hby d12_20) rfl (by decide) ?_
    refine i_isub (pc' := 22) X4 hx (hb hby d12_21) rfl ?_
    refine i_iand (pc' := 23) X4 hx (hb hby d12_22) rfl ?_
    refine ldI (v := (.int (fe (own_k q N)))) (pc' := 24) X4 hx hZ H3 (own_idx hN q).1 (own_idx hN q).2.1 rfl (hb hby d12_23) rfl ?_
    refine i_iloadN (v := q) (pc' := 25) X4 hx (hb hby d12_24) rfl rfl ?_
    by_cases hc5 : (fe (own_k q N)) = q
    · skip
      refine i_icF (pc' := 28) X4 hx (hb hby d12_25) rfl (XT.ii_ne_f hc5) ?_
      refine i_aloadN (v := (.ref o)) (pc' := 29) X4 hx (hb hby d12_28) rfl rfl rfl ?_
      refine gf (pc' := 32) (host := "") X4 hx hZ hown (Or.inl (hw _ (List.mem_of_getElem? (i := 38) rfl))) Via.refl H2 (hb hby d12_29) rfl fun T6 X6 => ?_
      refine i_iloadN (v := q) (pc' := 33) X6 hx (hb hby d12_32) rfl rfl ?_
      refine i_aloadN (v := (.ref o)) (pc' := 34) X6 hx (hb hby d12_33) rfl rfl rfl ?_
      refine gf (pc' := 37) (host := "") X6 hx hZ hown (Or.inl (hw _ (List.mem_of_getElem? (i := 35) rfl))) Via.refl H1 (hb hby d12_34) rfl fun T7 X7 => ?_
      refine len (pc' := 38) (Nat.toInt32 N) X7 hx hZ H3 rfl (hb hby d12_37) rfl ?_
      refine i_iconst (pc' := 39) (1 : Int32) X7 hx (hb hby d12_38) rfl (by decide) ?_
      refine i_isub (pc' := 40) X7 hx (hb hby d12_39) rfl ?_
      refine i_iand (pc' := 41) X7 hx (hb hby d12_40) rfl ?_
      refine ldI (v := (.int (fl (own_k q N)))) (pc' := 42) X7 hx hZ H4 (own_idx hN q).1 (own_idx hN q).2.1 rfl (hb hby d12_41) rfl ?_
      refine i_istoreN (L' := #[.val (.ref o), .val (.int q), .val (.int (fl (own_k q N)))]) (pc' := 43) X7 hx (hb hby d12_42) rfl rfl ?_
      refine i_iloadN (v := (fl (own_k q N))) (pc' := 44) X7 hx (hb hby d12_43) rfl rfl ?_
      refine rI X7 hx hlk hret (hb hby d12_44) (by decide) (by decide) ?_
      exact ⟨(by simp [own_lea, hc2, hc5]), rfl⟩
    · skip
      refine i_icT (pc' := 43) X4 hx (hb hby d12_25) (XT.ii_ne_t hc5) (by decide) (by decide) ?_
      refine i_iloadN (v := (0 : Int32)) (pc' := 44) X4 hx (hb hby d12_43) rfl rfl ?_
      refine rI X4 hx hlk hret (hb hby d12_44) (by decide) (by decide) ?_
      exact ⟨(by simp [own_lea, hc2, hc5]), rfl⟩
theorem d14_0 : decode prog_18_method_7_code 0 = .ok (.iload_n 2, 1) := by decide +kernel
theorem d14_1 : decode prog_18_method_7_code 1 = .ok (.ifCond .le 35, 3) := by decide +kernel
theorem d14_4 : decode prog_18_method_7_code 4 = .ok (.iload_n 1, 1) := by decide +kernel
theorem d14_5 : decode prog_18_method_7_code 5 = .ok (.iload_n 3, 1) := by decide +kernel
theorem d14_6 : decode prog_18_method_7_code 6 = .ok (.if_icmp .lt 30, 3) := by decide +kernel
theorem d14_9 : decode prog_18_method_7_code 9 = .ok (.aload_n 0, 1) := by decide +kernel
theorem d14_10 : decode prog_18_method_7_code 10 = .ok (.invokevirtual 30, 3) := by decide +kernel
theorem d14_13 : decode prog_18_method_7_code 13 = .ok (.aload_n 0, 1) := by decide +kernel
theorem d14_14 : decode prog_18_method_7_code 14 = .ok (.iload_n 1, 1) := by decide +kernel
theorem d14_15 : decode prog_18_method_7_code 15 = .ok (.iload_n 2, 1) := by decide +kernel
theorem d14_16 : decode prog_18_method_7_code 16 = .ok (.iload_n 2, 1) := by decide +kernel
theorem d14_17 : decode prog_18_method_7_code 17 = .ok (.aload_n 0, 1) := by decide +kernel
theorem d14_18 : decode prog_18_method_7_code 18 = .ok (.getfield 13, 3) := by decide +kernel
theorem d14_21 : decode prog_18_method_7_code 21 = .ok (.if_icmp .ge 10, 3) := by decide +kernel
theorem d14_24 : decode prog_18_method_7_code 24 = .ok (.aload_n 0, 1) := by decide +kernel
theorem d14_25 : decode prog_18_method_7_code 25 = .ok (.getfield 26, 3) := by decide +kernel
theorem d14_28 : decode prog_18_method_7_code 28 = .ok (.goto 5, 3) := by decide +kernel
theorem d14_31 : decode prog_18_method_7_code 31 = .ok (.bipush (-2), 2) := by decide +kernel
theorem d14_33 : decode prog_18_method_7_code 33 = .ok (.invokevirtual 33, 3) := by decide +kernel
theorem d14_36 : decode prog_18_method_7_code 36 = .ok (.return_, 1) := by decide +kernel
theorem ef_rmR0 (m : MethodId) (o : Addr) (x : Int32) (y : Int32) (z : Int32) : entryFrame m #[(.ref o), (.int x), (.int y), (.int z)] 4 = mkF m 0 #[.val (.ref o), .val (.int x), .val (.int y), .val (.int z)] [] := by first | (simp [entryFrame, mkF, argsToLocals, Value.category, maxLocals]; done) | rfl
def QrmR0 (Z : State) (o : Addr) (x : Int32) (y : Int32) (z : Int32) (n0 : Nat) (h0 : Heap) (rv : Option Value) (h : Heap) : Prop := rv = none ∧ h0 = h
abbrev RrmR0 : Room := { frames := 0, cells := 0, slots := 0, locals := 0 }
set_option maxRecDepth 65536 in
set_option maxHeartbeats 40000000 in
theorem rmR0 (l : Launch) (Z : State) (a0 : Array Value) (hw : ∀ d ∈ tables_1, d.before a0 Z = true) (ws : List Jvm.Cond) (o : Addr) (x : Int32) (y : Int32) (z : Int32) (n0 : Nat) (h0 : Heap) (hn : n0 ≤ h0.size)  (hk : ¬ ((0 : Int32) < y ∧ ¬ x < z)) :
    Con l Z (⟨"com/example/shoal_creek/shoalcreek/MatchedSuffixes", "remember", "(III)V"⟩ : MethodName) prog_18_method_7_code 4 none ws RrmR0 #[(.ref o), (.int x), (.int y), (.int z)] h0 n0 (QrmR0 Z o x y z n0 h0) := by
  refine body (y := (⟨"com/example/shoal_creek/shoalcreek/MatchedSuffixes", "remember", "(III)V"⟩ : MethodName)) (Ls := #[.val (.ref o), .val (.int x), .val (.int y), .val (.int z)]) (plainFor_of_name pn0) hn (fun m => ef_rmR0 m o x y z) ?_
  intro p e s m below meth c T0 hx hby hml hown hnm hret hlk hZ X0
  refine i_iloadN (v := y) (pc' := 1) X0 hx (hb hby d14_0) rfl rfl ?_
  by_cases hc1 : 0 < y
  · skip
    refine i_ifF (pc' := 4) X0 hx (hb hby d14_1) rfl (XT.i0_le_f hc1) ?_
    refine i_iloadN (v := x) (pc' := 5) X0 hx (hb hby d14_4) rfl rfl ?_
    refine i_iloadN (v := z) (pc' := 6) X0 hx (hb hby d14_5) rfl rfl ?_
    refine i_icT (pc' := 36) X0 hx (hb hby d14_6) (XT.ii_lt_t (Classical.byContradiction fun q => hk ⟨hc1, q⟩)) (by decide) (by decide) ?_
    refine rV X0 hx hlk hret (hb hby d14_36) (by decide) (by decide) ?_
    exact ⟨rfl, rfl⟩
  · skip
    refine i_ifT (pc' := 36) X0 hx (hb hby d14_1) (XT.i0_le_t hc1) (by decide) (by decide) ?_
    refine rV X0 hx hlk hret (hb hby d14_36) (by decide) (by decide) ?_
    exact ⟨rfl, rfl⟩
theorem ef_rmR1 (m : MethodId) (o : Addr) (x : Int32) (y : Int32) (z : Int32) : entryFrame m #[(.ref o), (.int x), (.int y), (.int z)] 4 = mkF m 0 #[.val (.ref o), .val (.int x), .val (.int y), .val (.int z)] [] := by first | (simp [entryFrame, mkF, argsToLocals, Value.category, maxLocals]; done) | rfl
def QrmR1 (Z : State) (o : Addr) (x : Int32) (y : Int32) (z : Int32) (pl : Int32) (w : Int32) (df : Int32) (n0 : Nat) (h0 : Heap) (rv : Option Value) (h : Heap) : Prop := ∃ aE : Addr, ∃ aL : Addr, ∃ aD : Addr, rv = none ∧ Keep h0 h [o] ∧ Fld Z h o "com/example/shoal_creek/shoalcreek/MatchedSuffixes" "ends" "[I" (.ref aE) ∧ Fld Z h o "com/example/shoal_creek/shoalcreek/MatchedSuffixes" "lengths" "[I" (.ref aL) ∧ Fld Z h o "com/example/shoal_creek/shoalcreek/MatchedSuffixes" "differings" "[I" (.ref aD) ∧ Fld Z h o "com/example/shoal_creek/shoalcreek/MatchedSuffixes" "newestEnd" "I" (.int (own_max w x)) ∧ Fld Z h o "com/example/shoal_creek/shoalcreek/MatchedSuffixes" "patternLength" "I" (.int pl) ∧ Fld Z h o "com/example/shoal_creek/shoalcreek/MatchedSuffixes" "differing" "C" (.int df) ∧ Av Z h aE .int (own_N pl) (fun i => .int ((own_up own_zero (own_k x (own_N pl)) x) i)) ∧ Av Z h aL .int (own_N pl) (fun i => .int ((own_up own_zero (own_k x (own_N pl)) y) i)) ∧ Av Z h aD .int (own_N pl) (fun i => .int ((own_up own_zero (own_k x (own_N pl)) (if y < pl then df else (-2 : Int32))) i)) ∧ h0.size ≤ aE ∧ h0.size ≤ aL ∧ h0.size ≤ aD ∧ aE ≠ aL ∧ aE ≠ aD ∧ aL ≠ aD
theorem pd1 : parseMethodDescriptor "()V" = some ⟨[], none⟩ := by decide +kernel
theorem pd2 : parseMethodDescriptor "(III)V" = some ⟨[.int, .int, .int], none⟩ := by decide +kernel
abbrev RrmR1 : Room := { frames := 2, cells := 3, slots := 24, locals := 30 }
set_option maxRecDepth 65536 in
set_option maxHeartbeats 40000000 in
theorem rmR1 (l : Launch) (Z : State) (a0 : Array Value) (hw : ∀ d ∈ tables_1, d.before a0 Z = true) (ws : List Jvm.Cond) (o : Addr) (x : Int32) (y : Int32) (z : Int32) (pl : Int32) (w : Int32) (df : Int32) (n0 : Nat) (h0 : Heap) (hn : n0 ≤ h0.size) (H0 : Exa Z h0 o "com/example/shoal_creek/shoalcreek/MatchedSuffixes") (H1 : Fld Z h0 o "com/example/shoal_creek/shoalcreek/MatchedSuffixes" "ends" "[I" .null) (H2 : Fld Z h0 o "com/example/shoal_creek/shoalcreek/MatchedSuffixes" "lengths" "[I" .null) (H3 : Fld Z h0 o "com/example/shoal_creek/shoalcreek/MatchedSuffixes" "differings" "[I" .null) (H4 : Fld Z h0 o "com/example/shoal_creek/shoalcreek/MatchedSuffixes" "newestEnd" "I" (.int w)) (H5 : Fld Z h0 o "com/example/shoal_creek/shoalcreek/MatchedSuffixes" "patternLength" "I" (.int pl)) (H6 : Fld Z h0 o "com/example/shoal_creek/shoalcreek/MatchedSuffixes" "differing" "C" (.int df)) (H7 : n0 ≤ o) (hp64 : ¬ (8 : Int32) < pl) (hy : (0 : Int32) < y) (hz : ¬ x < z) :
    Con l Z (⟨"com/example/shoal_creek/shoalcreek/MatchedSuffixes", "remember", "(III)V"⟩ : MethodName) prog_18_method_7_code 4 none ws RrmR1 #[(.ref o), (.int x), (.int y), (.int z)] h0 n0 (QrmR1 Z o x y z pl w df n0 h0) := by
  refine body (y := (⟨"com/example/shoal_creek/shoalcreek/MatchedSuffixes", "remember", "(III)V"⟩ : MethodName)) (Ls := #[.val (.ref o), .val (.int x), .val (.int y), .val (.int z)]) (plainFor_of_name pn0) hn (fun m => ef_rmR1 m o x y z) ?_
  intro p e s m below meth c T0 hx hby hml hown hnm hret hlk hZ X0
  refine i_iloadN (v := y) (pc' := 1) X0 hx (hb hby d14_0) rfl rfl ?_
  refine i_ifF (pc' := 4) X0 hx (hb hby d14_1) rfl (XT.i0_le_f hy) ?_
  refine i_iloadN (v := x) (pc' := 5) X0 hx (hb hby d14_4) rfl rfl ?_
  refine i_iloadN (v := z) (pc' := 6) X0 hx (hb hby d14_5) rfl rfl ?_
  refine i_icF (pc' := 9) X0 hx (hb hby d14_6) rfl (XT.ii_lt_f hz) ?_
  refine i_aloadN (v := (.ref o)) (pc' := 10) X0 hx (hb hby d14_9) rfl rfl rfl ?_
  refine cP (y := (⟨"com/example/shoal_creek/shoalcreek/MatchedSuffixes", "allocate", "()V"⟩ : MethodName)) (C := "com/example/shoal_creek/shoalcreek/MatchedSuffixes") (rest := []) (pc' := 13) 0 [] X0 hx hZ hown (hw _ (List.mem_of_getElem? (i := 31) rfl)) (hw _ (List.mem_of_getElem? (i := 32) rfl)) (hw _ (List.mem_of_getElem? (i := 33) rfl)) (hw _ (List.mem_of_getElem? (i := 3) rfl)) (hw _ (List.mem_of_getElem? (i := 4) rfl)) (hw _ (List.mem_of_getElem? (i := 34) rfl)) (by decide) H0 (rmAl l Z a0 hw [] o pl w df n0 h0 X0.le H0 H1 H2 H3 H4 H5 H6 H7 hp64) (by decide) (by decide) (by rw [hml]; rfl) rfl (lenOf pd1 rfl) rfl (Nat.le_of_eq rfl) (hb hby d14_10) rfl (by decide) (by decide) ?_
  intro r1 T1 h1 X1 q1
  obtain ⟨aE1, aL1, aD1, rfl, K1c, P1_0, P1_1, P1_2, P1_3, P1_4, P1_5, P1_6, P1_7, P1_8, fz1_aE, fz1_aL, fz1_aD, fn1_aE_aL, fn1_aE_aD, fn1_aL_aD⟩ := q1
  have ge_aE1 : n0 ≤ aE1 := Nat.le_trans X0.le fz1_aE
  have sz_aE1 : h0.size ≤ aE1 := Nat.le_trans ((Keep.refl h0 _) : Keep h0 h0 [o]).1 fz1_aE
  have ne_o_aE1 : o ≠ aE1 := Nat.ne_of_lt (Nat.lt_of_lt_of_le H0.lt fz1_aE)
  have ge_aL1 : n0 ≤ aL1 := Nat.le_trans X0.le fz1_aL
  have sz_aL1 : h0.size ≤ aL1 := Nat.le_trans ((Keep.refl h0 _) : Keep h0 h0 [o]).1 fz1_aL
  have ne_o_aL1 : o ≠ aL1 := Nat.ne_of_lt (Nat.lt_of_lt_of_le H0.lt fz1_aL)
  have ge_aD1 : n0 ≤ aD1 := Nat.le_trans X0.le fz1_aD
  have sz_aD1 : h0.size ≤ aD1 := Nat.le_trans ((Keep.refl h0 _) : Keep h0 h0 [o]).1 fz1_aD
  have ne_o_aD1 : o ≠ aD1 := Nat.ne_of_lt (Nat.lt_of_lt_of_le H0.lt fz1_aD)
  show Go _ _ _ _ _ _ _ T1 (mkF m 13 #[.val (.ref o), .val (.int x), .val (.int y), .val (.int z)] [])
  refine i_aloadN (v := (.ref o)) (pc' := 14) X1 hx (hb hby d14_13) rfl rfl rfl ?_
  refine i_iloadN (v := x) (pc' := 15) X1 hx (hb hby d14_14) rfl rfl ?_
  refine i_iloadN (v := y) (pc' := 16) X1 hx (hb hby d14_15) rfl rfl ?_
  refine i_iloadN (v := y) (pc' := 17) X1 hx (hb hby d14_16) rfl rfl ?_
  refine i_aloadN (v := (.ref o)) (pc' := 18) X1 hx (hb hby d14_17) rfl rfl rfl ?_
  refine gf (pc' := 21) (host := "") X1 hx hZ hown (Or.inl (hw _ (List.mem_of_getElem? (i := 13) rfl))) Via.refl P1_4 (hb hby d14_18) rfl fun T2 X2 => ?_
  by_cases hc3 : y < pl
  · skip
    refine i_icF (pc' := 24) X2 hx (hb hby d14_21) rfl (XT.ii_ge_f hc3) ?_
    refine i_aloadN (v := (.ref o)) (pc' := 25) X2 hx (hb hby d14_24) rfl rfl rfl ?_
    refine gf (pc' := 28) (host := "") X2 hx hZ hown (Or.inl (hw _ (List.mem_of_getElem? (i := 20) rfl))) Via.refl P1_5 (hb hby d14_25) rfl fun T4 X4 => ?_
    refine i_goto (pc' := 33) X4 hx (hb hby d14_28) (by decide) (by decide) ?_
    have F5 : Exa Z h1 o "com/example/shoal_creek/shoalcreek/MatchedSuffixes" := (H0.keep K1c)
    refine cV (y := (⟨"com/example/shoal_creek/shoalcreek/MatchedSuffixes", "keep", "(III)V"⟩ : MethodName)) (C := "com/example/shoal_creek/shoalcreek/MatchedSuffixes") (rest := []) (pc' := 36) 0 [(.int x), (.int y), (.int df)] X4 hx hZ hown (hw _ (List.mem_of_getElem? (i := 42) rfl)) (hw _ (List.mem_of_getElem? (i := 43) rfl)) (hw _ (List.mem_of_getElem? (i := 45) rfl)) (hw _ (List.mem_of_getElem? (i := 44) rfl)) (hw _ (List.mem_of_getElem? (i := 4) rfl)) (hw _ (List.mem_of_getElem? (i := 46) rfl)) (by decide) F5 (rmKeep l Z a0 hw [] o x y df w pl df aE1 aL1 aD1 (own_N pl) own_zero own_zero own_zero n0 h1 X4.le F5 P1_0 P1_1 P1_2 P1_3 P1_4 P1_5 P1_6 P1_7 P1_8 H7 ge_aE1 ge_aL1 ge_aD1 ne_o_aE1 ne_o_aL1 ne_o_aD1 fn1_aE_aL fn1_aE_aD fn1_aL_aD (own_Np pl)) (by decide) (by decide) (by rw [hml]; rfl) rfl (lenOf pd2 rfl) rfl (Nat.le_of_eq rfl) (hb hby d14_33) rfl (by decide) (by decide) ?_
    intro r6 T6 h6 X6 q6
    obtain ⟨rfl, K6c, P6_0, P6_1, P6_2, P6_3, P6_4, P6_5, P6_6, P6_7, P6_8⟩ := q6
    show Go _ _ _ _ _ _ _ T6 (mkF m 36 #[.val (.ref o), .val (.int x), .val (.int y), .val (.int z)] [])
    refine rV X6 hx hlk hret (hb hby d14_36) (by decide) (by decide) ?_
    exact ⟨aE1, aL1, aD1, rfl, (((((Keep.refl h0 _) : Keep h0 h0 [o]).trans K1c (allS (Or.inl (List.mem_of_getElem? (i := 0) rfl)) all0)) : Keep h0 h1 [o]).trans K6c (allS (Or.inl (List.mem_of_getElem? (i := 0) rfl)) (allS (Or.inr sz_aE1) (allS (Or.inr sz_aL1) (allS (Or.inr sz_aD1) all0))))), P6_0, P6_1, P6_2, P6_3, P6_4, P6_5, P6_6, P6_7, (by rw [if_pos hc3]; exact P6_8), sz_aE1, sz_aL1, sz_aD1, fn1_aE_aL, fn1_aE_aD, fn1_aL_aD⟩
  · skip
    refine i_icT (pc' := 31) X2 hx (hb hby d14_21) (XT.ii_ge_t hc3) (by decide) (by decide) ?_
    refine i_bipush (pc' := 33) (-2 : Int32) X2 hx (hb hby d14_31) rfl (by decide) ?_
    have F7 : Exa Z h1 o "com/example/shoal_creek/shoalcreek/MatchedSuffixes" := (H0.keep K1c)
    refine cV (y := (⟨"com/example/shoal_creek/shoalcreek/MatchedSuffixes", "keep", "(III)V"⟩ : MethodName)) (C := "com/example/shoal_creek/shoalcreek/MatchedSuffixes") (rest := []) (pc' := 36) 0 [(.int x), (.int y), (.int (-2 : Int32))] X2 hx hZ hown (hw _ (List.mem_of_getElem? (i := 42) rfl)) (hw _ (List.mem_of_getElem? (i := 43) rfl)) (hw _ (List.mem_of_getElem? (i := 45) rfl)) (hw _ (List.mem_of_getElem? (i := 44) rfl)) (hw _ (List.mem_of_getElem? (i := 4) rfl)) (hw _ (List.mem_of_getElem? (i := 46) rfl)) (by decide) F7 (rmKeep l Z a0 hw [] o x y (-2 : Int32) w pl df aE1 aL1 aD1 (own_N pl) own_zero own_zero own_zero n0 h1 X2.le F7 P1_0 P1_1 P1_2 P1_3 P1_4 P1_5 P1_6 P1_7 P1_8 H7 ge_aE1 ge_aL1 ge_aD1 ne_o_aE1 ne_o_aL1 ne_o_aD1 fn1_aE_aL fn1_aE_aD fn1_aL_aD (own_Np pl)) (by decide) (by decide) (by rw [hml]; rfl) rfl (lenOf pd2 rfl) rfl (Nat.le_of_eq rfl) (hb hby d14_33) rfl (by decide) (by decide) ?_
    intro r8 T8 h8 X8 q8
    obtain ⟨rfl, K8c, P8_0, P8_1, P8_2, P8_3, P8_4, P8_5, P8_6, P8_7, P8_8⟩ := q8
    show Go _ _ _ _ _ _ _ T8 (mkF m 36 #[.val (.ref o), .val (.int x), .val (.int y), .val (.int z)] [])
    refine rV X8 hx hlk hret (hb hby d14_36) (by decide) (by decide) ?_
    exact ⟨aE1, aL1, aD1, rfl, (((((Keep.refl h0 _) : Keep h0 h0 [o]).trans K1c (allS (Or.inl (List.mem_of_getElem? (i := 0) rfl)) all0)) : Keep h0 h1 [o]).trans K8c (allS (Or.inl (List.mem_of_getElem? (i := 0) rfl)) (allS (Or.inr sz_aE1) (allS (Or.inr sz_aL1) (allS (Or.inr sz_aD1) all0))))), P8_0, P8_1, P8_2, P8_3, P8_4, P8_5, P8_6, P8_7, (by rw [if_neg hc3]; exact P8_8), sz_aE1, sz_aL1, sz_aD1, fn1_aE_aL, fn1_aE_aD, fn1_aL_aD⟩
theorem ef_rmR2 (m : MethodId) (o : Addr) (x : Int32) (y : Int32) (z : Int32) : entryFrame m #[(.ref o), (.int x), (.int y), (.int z)] 4 = mkF m 0 #[.val (.ref o), .val (.int x), .val (.int y), .val (.int z)] [] := by first | (simp [entryFrame, mkF, argsToLocals, Value.category, maxLocals]; done) | rfl
def QrmR2 (Z : State) (o : Addr) (x : Int32) (y : Int32) (z : Int32) (pl : Int32) (w : Int32) (df : Int32) (aE : Addr) (aL : Addr) (aD : Addr) (N : Nat) (fe : Nat → Int32) (fl : Nat → Int32) (fd : Nat → Int32) (n0 : Nat) (h0 : Heap) (rv : Option Value) (h : Heap) : Prop := rv = none ∧ Keep h0 h [o, aE, aL, aD] ∧ Fld Z h o "com/example/shoal_creek/shoalcreek/MatchedSuffixes" "ends" "[I" (.ref aE) ∧ Fld Z h o "com/example/shoal_creek/shoalcreek/MatchedSuffixes" "lengths" "[I" (.ref aL) ∧ Fld Z h o "com/example/shoal_creek/shoalcreek/MatchedSuffixes" "differings" "[I" (.ref aD) ∧ Fld Z h o "com/example/shoal_creek/shoalcreek/MatchedSuffixes" "newestEnd" "I" (.int (own_max w x)) ∧ Fld Z h o "com/example/shoal_creek/shoalcreek/MatchedSuffixes" "patternLength" "I" (.int pl) ∧ Fld Z h o "com/example/shoal_creek/shoalcreek/MatchedSuffixes" "differing" "C" (.int df) ∧ Av Z h aE .int N (fun i => .int ((own_up fe (own_k x N) x) i)) ∧ Av Z h aL .int N (fun i => .int ((own_up fl (own_k x N) y) i)) ∧ Av Z h aD .int N (fun i => .int ((own_up fd (own_k x N) (if y < pl then df else (-2 : Int32))) i))
abbrev RrmR2 : Room := { frames := 2, cells := 0, slots := 0, locals := 30 }
set_option maxRecDepth 65536 in
set_option maxHeartbeats 40000000 in
theorem rmR2 (l : Launch) (Z : State) (a0 : Array Value) (hw : ∀ d ∈ tables_1, d.before a0 Z = true) (ws : List Jvm.Cond) (o : Addr) (x : Int32) (y : Int32) (z : Int32) (pl : Int32) (w : Int32) (df : Int32) (aE : Addr) (aL : Addr) (aD : Addr) (N : Nat) (fe : Nat → Int32) (fl : Nat → Int32) (fd : Nat → Int32) (n0 : Nat) (h0 : Heap) (hn : n0 ≤ h0.size) (H0 : Exa Z h0 o "com/example/shoal_creek/shoalcreek/MatchedSuffixes") (H1 : Fld Z h0 o "com/example/shoal_creek/shoalcreek/MatchedSuffixes" "ends" "[I" (.ref aE)) (H2 : Fld Z h0 o "com/example/shoal_creek/shoalcreek/MatchedSuffixes" "lengths" "[I" (.ref aL)) (H3 : Fld Z h0 o "com/example/shoal_creek/shoalcreek/MatchedSuffixes" "differings" "[I" (.ref aD)) (H4 : Fld Z h0 o "com/example/shoal_creek/shoalcreek/MatchedSuffixes" "newestEnd" "I" (.int w)) (H5 : Fld Z h0 o "com/example/shoal_creek/shoalcreek/MatchedSuffixes" "patternLength" "I" (.int pl)) (H6 : Fld Z h0 o "com/example/shoal_creek/shoalcreek/MatchedSuffixes" "differing" "C" (.int df)) (H7 : Av Z h0 aE .int N (fun i => .int (fe i))) (H8 : Av Z h0 aL .int N (fun i => .int (fl i))) (H9 : Av Z h0 aD .int N (fun i => .int (fd i))) (H10 : n0 ≤ o) (H11 : n0 ≤ aE) (H12 : n0 ≤ aL) (H13 : n0 ≤ aD) (H14 : o ≠ aE) (H15 : o ≠ aL) (H16 : o ≠ aD) (H17 : aE ≠ aL) (H18 : aE ≠ aD) (H19 : aL ≠ aD) (hN : own_p2 N) (hy : (0 : Int32) < y) (hz : ¬ x < z) :
    Con l Z (⟨"com/example/shoal_creek/shoalcreek/MatchedSuffixes", "remember", "(III)V"⟩ : MethodName) prog_18_method_7_code 4 none ws RrmR2 #[(.ref o), (.int x), (.int y), (.int z)] h0 n0 (QrmR2 Z o x y z pl w df aE aL aD N fe fl fd n0 h0) := by
  refine body (y := (⟨"com/example/shoal_creek/shoalcreek/MatchedSuffixes", "remember", "(III)V"⟩ : MethodName)) (Ls := #[.val (.ref o), .val (.int x), .val (.int y), .val (.int z)]) (plainFor_of_name pn0) hn (fun m => ef_rmR2 m o x y z) ?_
  intro p e s m below meth c T0 hx hby hml hown hnm hret hlk hZ X0
  refine i_iloadN (v := y) (pc' := 1) X0 hx (hb hby d14_0) rfl rfl ?_
  refine i_ifF (pc' := 4) X0 hx (hb hby d14_1) rfl (XT.i0_le_f hy) ?_
  refine i_iloadN (v := x) (pc' := 5) X0 hx (hb hby d14_4) rfl rfl ?_
  refine i_iloadN (v := z) (pc' := 6) X0 hx (hb hby d14_5) rfl rfl ?_
  refine i_icF (pc' := 9) X0 hx (hb hby d14_6) rfl (XT.ii_lt_f hz) ?_
  refine i_aloadN (v := (.ref o)) (pc' := 10) X0 hx (hb hby d14_9) rfl rfl rfl ?_
  refine cP (y := (⟨"com/example/shoal_creek/shoalcreek/MatchedSuffixes", "allocate", "()V"⟩ : MethodName)) (C := "com/example/shoal_creek/shoalcreek/MatchedSuffixes") (rest := []) (pc' := 13) 0 [] X0 hx hZ hown (hw _ (List.mem_of_getElem? (i := 31) rfl)) (hw _ (List.mem_of_getElem? (i := 32) rfl)) (hw _ (List.mem_of_getElem? (i := 33) rfl)) (hw _ (List.mem_of_getElem? (i := 3) rfl)) (hw _ (List.mem_of_getElem? (i := 4) rfl)) (hw _ (List.mem_of_getElem? (i := 34) rfl)) (by decide) H0 (rmAl2 l Z a0 hw [] o aE n0 h0 X0.le H1) (by decide) (by decide) (by rw [hml]; rfl) rfl (lenOf pd1 rfl) rfl (Nat.le_of_eq rfl) (hb hby d14_10) rfl (by decide) (by decide) ?_
  intro r1 T1 h1 X1 q1
  obtain ⟨rfl, eh1⟩ := q1
  subst eh1
  show Go _ _ _ _ _ _ _ T1 (mkF m 13 #[.val (.ref o), .val (.int x), .val (.int y), .val (.int z)] [])
  refine i_aloadN (v := (.ref o)) (pc' := 14) X1 hx (hb hby d14_13) rfl rfl rfl ?_
  refine i_iloadN (v := x) (pc' := 15) X1 hx (hb hby d14_14) rfl rfl ?_
  refine i_iloadN (v := y) (pc' := 16) X1 hx (hb hby d14_15) rfl rfl ?_
  refine i_iloadN (v := y) (pc' := 17) X1 hx (hb hby d14_16) rfl rfl ?_
  refine i_aloadN (v := (.ref o)) (pc' := 18) X1 hx (hb hby d14_17) rfl rfl rfl ?_
  refine gf (pc' := 21) (host := "") X1 hx hZ hown (Or.inl (hw _ (List.mem_of_getElem? (i := 13) rfl))) Via.refl H5 (hb hby d14_18) rfl fun T2 X2 => ?_
  by_cases hc3 : y < pl
  · skip
    refine i_icF (pc' := 24) X2 hx (hb hby d14_21) rfl (XT.ii_ge_f hc3) ?_
    refine i_aloadN (v := (.ref o)) (pc' := 25) X2 hx (hb hby d14_24) rfl rfl rfl ?_
    refine gf (pc' := 28) (host := "") X2 hx hZ hown (Or.inl (hw _ (List.mem_of_getElem? (i := 20) rfl))) Via.refl H6 (hb hby d14_25) rfl fun T4 X4 => ?_
    refine i_goto (pc' := 33) X4 hx (hb hby d14_28) (by decide) (by decide) ?_
    refine cV (y := (⟨"com/example/shoal_creek/shoalcreek/MatchedSuffixes", "keep", "(III)V"⟩ : MethodName)) (C := "com/example/shoal_creek/shoalcreek/MatchedSuffixes") (rest := []) (pc' := 36) 0 [(.int x), (.int y), (.int df)] X4 hx hZ hown (hw _ (List.mem_of_getElem? (i := 42) rfl)) (hw _ (List.mem_of_getElem? (i := 43) rfl)) (hw _ (List.mem_of_getElem? (i := 45) rfl)) (hw _ (List.mem_of_getElem? (i := 44) rfl)) (hw _ (List.mem_of_getElem? (i := 4) rfl)) (hw _ (List.mem_of_getElem? (i := 46) rfl)) (by decide) H0 (rmKeep l Z a0 hw [] o x y df w pl df aE aL aD N fe fl fd n0 h0 X4.le H0 H1 H2 H3 H4 H5 H6 H7 H8 H9 H10 H11 H12 H13 H14 H15 H16 H17 H18 H19 hN) (by decide) (by decide) (by rw [hml]; rfl) rfl (lenOf pd2 rfl) rfl (Nat.le_of_eq rfl) (hb hby d14_33) rfl (by decide) (by decide) ?_
    intro r5 T5 h5 X5 q5
    obtain ⟨rfl, K5c, P5_0, P5_1, P5_2, P5_3, P5_4, P5_5, P5_6, P5_7, P5_8⟩ := q5
    show Go _ _ _ _ _ _ _ T5 (mkF m 36 #[.val (.ref o), .val (.int x), .val (.int y), .val (.int z)] [])
    refine rV X5 hx hlk hret (hb hby d14_36) (by decide) (by decide) ?_
    exact ⟨rfl, (((Keep.refl h0 _) : Keep h0 h0 [o, aE, aL, aD]).trans K5c (allS (Or.inl (List.mem_of_getElem? (i := 0) rfl)) (allS (Or.inl (List.mem_of_getElem? (i := 1) rfl)) (allS (Or.inl (List.mem_of_getElem? (i := 2) rfl)) (allS (Or.inl (List.mem_of_getElem? (i := 3) rfl)) all0))))), P5_0, P5_1, P5_2, P5_3, P5_4, P5_5, P5_6, P5_7, (by rw [if_pos hc3]; exact P5_8)⟩
  · skip
    refine i_icT (pc' := 31) X2 hx (hb hby d14_21) (XT.ii_ge_t hc3) (by decide) (by decide) ?_
    refine i_bipush (pc' := 33) (-2 : Int32) X2 hx (hb hby d14_31) rfl (by decide) ?_
    refine cV (y := (⟨"com/example/shoal_creek/shoalcreek/MatchedSuffixes", "keep", "(III)V"⟩ : MethodName)) (C := "com/example/shoal_creek/shoalcreek/MatchedSuffixes") (rest := []) (pc' := 36) 0 [(.int x), (.int y), (.int (-2 : Int32))] X2 hx hZ hown (hw _ (List.mem_of_getElem? (i := 42) rfl)) (hw _ (List.mem_of_getElem? (i := 43) rfl)) (hw _ (List.mem_of_getElem? (i := 45) rfl)) (hw _ (List.mem_of_getElem? (i := 44) rfl)) (hw _ (List.mem_of_getElem? (i := 4) rfl)) (hw _ (List.mem_of_getElem? (i := 46) rfl)) (by decide) H0 (rmKeep l Z a0 hw [] o x y (-2 : Int32) w pl df aE aL aD N fe fl fd n0 h0 X2.le H0 H1 H2 H3 H4 H5 H6 H7 H8 H9 H10 H11 H12 H13 H14 H15 H16 H17 H18 H19 hN) (by decide) (by decide) (by rw [hml]; rfl) rfl (lenOf pd2 rfl) rfl (Nat.le_of_eq rfl) (hb hby d14_33) rfl (by decide) (by decide) ?_
    intro r6 T6 h6 X6 q6
    obtain ⟨rfl, K6c, P6_0, P6_1, P6_2, P6_3, P6_4, P6_5, P6_6, P6_7, P6_8⟩ := q6
    show Go _ _ _ _ _ _ _ T6 (mkF m 36 #[.val (.ref o), .val (.int x), .val (.int y), .val (.int z)] [])
    refine rV X6 hx hlk hret (hb hby d14_36) (by decide) (by decide) ?_
    exact ⟨rfl, (((Keep.refl h0 _) : Keep h0 h0 [o, aE, aL, aD]).trans K6c (allS (Or.inl (List.mem_of_getElem? (i := 0) rfl)) (allS (Or.inl (List.mem_of_getElem? (i := 1) rfl)) (allS (Or.inl (List.mem_of_getElem? (i := 2) rfl)) (allS (Or.inl (List.mem_of_getElem? (i := 3) rfl)) all0))))), P6_0, P6_1, P6_2, P6_3, P6_4, P6_5, P6_6, P6_7, (by rw [if_neg hc3]; exact P6_8)⟩
theorem own_m1 {q : Int32} (h : 0 ≤ q.toInt) : (-1 : Int32) < q := by
  have c : (-1 : Int32).toInt = -1 := by decide
  rw [own_lt]; omega
theorem own_w1 {e : Int32} (h : 0 ≤ e.toInt) : own_max (-1 : Int32) e = e := by unfold own_max; rw [if_pos (own_m1 h)]
theorem own_irr32 (x : Int32) : ¬ x < x := by rw [own_lt]; omega
theorem own_lea1 {x y w q : Int32} {N : Nat} (hw : w = x) : own_lea (own_up own_zero (own_k x N) x) (own_up own_zero (own_k x N) y) N w q = if q = x then y else 0 := by
  subst hw
  unfold own_lea own_up own_zero
  by_cases a : q = w
  · subst a
    rw [if_neg (own_irr32 q), if_pos rfl, if_pos rfl, if_pos rfl, if_pos rfl]
  · rw [if_neg a]
    by_cases c : w < q
    · rw [if_pos c]
    · rw [if_neg c]
      by_cases b : own_k q N = own_k w N
      · rw [if_pos b, if_neg (Ne.symm a)]
      · rw [if_neg b, if_neg b]; split <;> rfl
theorem own_pl8 (x : Int32) : ¬ (8 : Int32) < ((x &&& (7 : Int32)) + (1 : Int32)) := by
  have a := c_and x 7 (by decide)
  have c1 : (7 : Int32).toInt = 7 := by decide
  have c2 : (1 : Int32).toInt = 1 := by decide
  have c3 : (8 : Int32).toInt = 8 := by decide
  rw [own_lt, XT.add32 (by unfold XT.fits32; omega)]; omega
theorem own_vn (x : Int32) : 0 ≤ (x &&& (2147483647 : Int32)).toInt := (c_and x 2147483647 (by decide)).1
theorem own_l16 (x : Int32) : (0 : Int32) < ((x &&& (15 : Int32)) + (1 : Int32)) := by
  have a := c_and x 15 (by decide)
  have c1 : (15 : Int32).toInt = 15 := by decide
  have c2 : (1 : Int32).toInt = 1 := by decide
  rw [own_lt, own_z, XT.add32 (by unfold XT.fits32; omega)]; omega
theorem own_ch (x : Int32) : narrow .char (.int x.toUInt32.toUInt16.toUInt32.toInt32) = .int x.toUInt32.toUInt16.toUInt32.toInt32 ∧ fits .char (.int x.toUInt32.toUInt16.toUInt32.toInt32) = true := ⟨XT.narrow_c x, fits_nar_char x⟩
theorem own_nch {x : Int32} (h : narrow .char (.int x) = .int x) : nar .char x = x := by
  have : narrow .char (.int x) = .int (nar .char x) := rfl
  rw [this] at h; injection h
theorem d3_0 : decode prog_18_method_5_code 0 = .ok (.aload_n 0, 1) := by decide +kernel
theorem d3_1 : decode prog_18_method_5_code 1 = .ok (.iload_n 1, 1) := by decide +kernel
theorem d3_2 : decode prog_18_method_5_code 2 = .ok (.putfield 26, 3) := by decide +kernel
theorem d3_5 : decode prog_18_method_5_code 5 = .ok (.return_, 1) := by decide +kernel
theorem ef_rmNote (m : MethodId) (o : Addr) (c0 : Int32) : entryFrame m #[(.ref o), (.int c0)] 2 = mkF m 0 #[.val (.ref o), .val (.int c0)] [] := by first | (simp [entryFrame, mkF, argsToLocals, Value.category, maxLocals]; done) | rfl
def QrmNote (Z : State) (o : Addr) (c0 : Int32) (pl : Int32) (w : Int32) (df : Int32) (n0 : Nat) (h0 : Heap) (rv : Option Value) (h : Heap) : Prop := rv = none ∧ Keep h0 h [o] ∧ Fld Z h o "com/example/shoal_creek/shoalcreek/MatchedSuffixes" "ends" "[I" .null ∧ Fld Z h o "com/example/shoal_creek/shoalcreek/MatchedSuffixes" "lengths" "[I" .null ∧ Fld Z h o "com/example/shoal_creek/shoalcreek/MatchedSuffixes" "differings" "[I" .null ∧ Fld Z h o "com/example/shoal_creek/shoalcreek/MatchedSuffixes" "newestEnd" "I" (.int w) ∧ Fld Z h o "com/example/shoal_creek/shoalcreek/MatchedSuffixes" "patternLength" "I" (.int pl) ∧ Fld Z h o "com/example/shoal_creek/shoalcreek/MatchedSuffixes" "differing" "C" (.int c0)
abbrev RrmNote : Room := { frames := 0, cells := 0, slots := 0, locals := 0 }
set_option maxRecDepth 65536 in
set_option maxHeartbeats 40000000 in
theorem rmNote (l : Launch) (Z : State) (a0 : Array Value) (hw : ∀ d ∈ tables_1, d.before a0 Z = true) (ws : List Jvm.Cond) (o : Addr) (c0 : Int32) (pl : Int32) (w : Int32) (df : Int32) (n0 : Nat) (h0 : Heap) (hn : n0 ≤ h0.size) (H0 : Exa Z h0 o "com/example/shoal_creek/shoalcreek/MatchedSuffixes") (H1 : Fld Z h0 o "com/example/shoal_creek/shoalcreek/MatchedSuffixes" "ends" "[I" .null) (H2 : Fld Z h0 o "com/example/shoal_creek/shoalcreek/MatchedSuffixes" "lengths" "[I" .null) (H3 : Fld Z h0 o "com/example/shoal_creek/shoalcreek/MatchedSuffixes" "differings" "[I" .null) (H4 : Fld Z h0 o "com/example/shoal_creek/shoalcreek/MatchedSuffixes" "newestEnd" "I" (.int w)) (H5 : Fld Z h0 o "com/example/shoal_creek/shoalcreek/MatchedSuffixes" "patternLength" "I" (.int pl)) (H6 : Fld Z h0 o "com/example/shoal_creek/shoalcreek/MatchedSuffixes" "differing" "C" (.int df)) (H7 : n0 ≤ o) (hch : narrow .char (.int c0) = .int c0 ∧ fits .char (.int c0) = true) :
    Con l Z (⟨"com/example/shoal_creek/shoalcreek/MatchedSuffixes", "noteDiffering", "(C)V"⟩ : MethodName) prog_18_method_5_code 2 none ws RrmNote #[(.ref o), (.int c0)] h0 n0 (QrmNote Z o c0 pl w df n0 h0) := by
  refine body (y := (⟨"com/example/shoal_creek/shoalcreek/MatchedSuffixes", "noteDiffering", "(C)V"⟩ : MethodName)) (Ls := #[.val (.ref o), .val (.int c0)]) (plainFor_of_name pn0) hn (fun m => ef_rmNote m o c0) ?_
  intro p e s m below meth c T0 hx hby hml hown hnm hret hlk hZ X0
  refine i_aloadN (v := (.ref o)) (pc' := 1) X0 hx (hb hby d3_0) rfl rfl rfl ?_
  refine i_iloadN (v := c0) (pc' := 2) X0 hx (hb hby d3_1) rfl rfl ?_
  refine pf (pc' := 5) (host := "") (ty := .char) X0 hx hZ hown (Or.inl (hw _ (List.mem_of_getElem? (i := 20) rfl))) Via.refl H6 H0 (Or.inl (hw _ (List.mem_of_getElem? (i := 21) rfl))) (hw _ (List.mem_of_getElem? (i := 3) rfl)) (by decide) hch.1 hch.2 H7 (hb hby d3_2) rfl fun T1 h1 X1 W1 => ?_
  refine rV X1 hx hlk hret (hb hby d3_5) (by decide) (by decide) ?_
  have F2 : Fld Z h1 o "com/example/shoal_creek/shoalcreek/MatchedSuffixes" "ends" "[I" .null := (Jvm.RoadKit.Fld.other W1 H1 (Or.inr (slot_ne (a0 := a0) (Or.inl (hw _ (List.mem_of_getElem? (i := 36) rfl))) (Or.inl (hw _ (List.mem_of_getElem? (i := 21) rfl))) (by decide) (t := (.array .int)) (t' := .char) (by decide) (by decide))))
  have F3 : Fld Z h1 o "com/example/shoal_creek/shoalcreek/MatchedSuffixes" "lengths" "[I" .null := (Jvm.RoadKit.Fld.other W1 H2 (Or.inr (slot_ne (a0 := a0) (Or.inl (hw _ (List.mem_of_getElem? (i := 39) rfl))) (Or.inl (hw _ (List.mem_of_getElem? (i := 21) rfl))) (by decide) (t := (.array .int)) (t' := .char) (by decide) (by decide))))
  have F4 : Fld Z h1 o "com/example/shoal_creek/shoalcreek/MatchedSuffixes" "differings" "[I" .null := (Jvm.RoadKit.Fld.other W1 H3 (Or.inr (slot_ne (a0 := a0) (Or.inl (hw _ (List.mem_of_getElem? (i := 41) rfl))) (Or.inl (hw _ (List.mem_of_getElem? (i := 21) rfl))) (by decide) (t := (.array .int)) (t' := .char) (by decide) (by decide))))
  have F5 : Fld Z h1 o "com/example/shoal_creek/shoalcreek/MatchedSuffixes" "newestEnd" "I" (.int w) := (Jvm.RoadKit.Fld.other W1 H4 (Or.inr (slot_ne (a0 := a0) (Or.inl (hw _ (List.mem_of_getElem? (i := 12) rfl))) (Or.inl (hw _ (List.mem_of_getElem? (i := 21) rfl))) (by decide) (t := .int) (t' := .char) (by decide) (by decide))))
  have F6 : Fld Z h1 o "com/example/shoal_creek/shoalcreek/MatchedSuffixes" "patternLength" "I" (.int pl) := (Jvm.RoadKit.Fld.other W1 H5 (Or.inr (slot_ne (a0 := a0) (Or.inr (hw _ (List.mem_of_getElem? (i := 14) rfl))) (Or.inl (hw _ (List.mem_of_getElem? (i := 21) rfl))) (by decide) (t := .int) (t' := .char) (by decide) (by decide))))
  have F7 : Fld Z h1 o "com/example/shoal_creek/shoalcreek/MatchedSuffixes" "differing" "C" (.int c0) := (Jvm.RoadKit.Fld.same W1 H6)
  exact ⟨rfl, ((Keep.refl h0 _).wr W1 (Or.inl (List.mem_of_getElem? (i := 0) rfl))), F2, F3, F4, F5, F6, F7⟩
theorem d15_0 : decode prog_18_method_6_code 0 = .ok (.aload_n 0, 1) := by decide +kernel
theorem d15_1 : decode prog_18_method_6_code 1 = .ok (.getfield 26, 3) := by decide +kernel
theorem d15_4 : decode prog_18_method_6_code 4 = .ok (.ireturn, 1) := by decide +kernel
theorem ef_rmDf (m : MethodId) (o : Addr) : entryFrame m #[(.ref o)] 1 = mkF m 0 #[.val (.ref o)] [] := by first | (simp [entryFrame, mkF, argsToLocals, Value.category, maxLocals]; done) | rfl
def QrmDf (Z : State) (o : Addr) (df : Int32) (n0 : Nat) (h0 : Heap) (rv : Option Value) (h : Heap) : Prop := rv = some (.int df) ∧ h0 = h
abbrev RrmDf : Room := { frames := 0, cells := 0, slots := 0, locals := 0 }
set_option maxRecDepth 65536 in
set_option maxHeartbeats 40000000 in
theorem rmDf (l : Launch) (Z : State) (a0 : Array Value) (hw : ∀ d ∈ tables_1, d.before a0 Z = true) (ws : List Jvm.Cond) (o : Addr) (df : Int32) (n0 : Nat) (h0 : Heap) (hn : n0 ≤ h0.size) (H0 : Fld Z h0 o "com/example/shoal_creek/shoalcreek/MatchedSuffixes" "differing" "C" (.int df)) (hdf : nar .char df = df) :
    Con l Z (⟨"com/example/shoal_creek/shoalcreek/MatchedSuffixes", "differing", "()C"⟩ : MethodName) prog_18_method_6_code 1 (some .char) ws RrmDf #[(.ref o)] h0 n0 (QrmDf Z o df n0 h0) := by
  refine body (y := (⟨"com/example/shoal_creek/shoalcreek/MatchedSuffixes", "differing", "()C"⟩ : MethodName)) (Ls := #[.val (.ref o)]) (plainFor_of_name pn0) hn (fun m => ef_rmDf m o) ?_
  intro p e s m below meth c T0 hx hby hml hown hnm hret hlk hZ X0
  refine i_aloadN (v := (.ref o)) (pc' := 1) X0 hx (hb hby d15_0) rfl rfl rfl ?_
  refine gf (pc' := 4) (host := "") X0 hx hZ hown (Or.inl (hw _ (List.mem_of_getElem? (i := 20) rfl))) Via.refl H0 (hb hby d15_1) rfl fun T1 X1 => ?_
  refine rN X1 hx hlk hret (by simp) (hb hby d15_4) (by decide) (by decide) ?_
  exact ⟨(by rw [hdf]), rfl⟩
theorem d11_0 : decode prog_18_method_13_code 0 = .ok (.aload_n 0, 1) := by decide +kernel
theorem d11_1 : decode prog_18_method_13_code 1 = .ok (.getfield 7, 3) := by decide +kernel
theorem d11_4 : decode prog_18_method_13_code 4 = .ok (.ireturn, 1) := by decide +kernel
theorem ef_rmNE (m : MethodId) (o : Addr) : entryFrame m #[(.ref o)] 1 = mkF m 0 #[.val (.ref o)] [] := by first | (simp [entryFrame, mkF, argsToLocals, Value.category, maxLocals]; done) | rfl
def QrmNE (Z : State) (o : Addr) (w : Int32) (n0 : Nat) (h0 : Heap) (rv : Option Value) (h : Heap) : Prop := rv = some (.int w) ∧ h0 = h
abbrev RrmNE : Room := { frames := 0, cells := 0, slots := 0, locals := 0 }
set_option maxRecDepth 65536 in
set_option maxHeartbeats 40000000 in
theorem rmNE (l : Launch) (Z : State) (a0 : Array Value) (hw : ∀ d ∈ tables_1, d.before a0 Z = true) (ws : List Jvm.Cond) (o : Addr) (w : Int32) (n0 : Nat) (h0 : Heap) (hn : n0 ≤ h0.size) (H0 : Fld Z h0 o "com/example/shoal_creek/shoalcreek/MatchedSuffixes" "newestEnd" "I" (.int w))  :
    Con l Z (⟨"com/example/shoal_creek/shoalcreek/MatchedSuffixes", "newestEnd", "()I"⟩ : MethodName) prog_18_method_13_code 1 (some .int) ws RrmNE #[(.ref o)] h0 n0 (QrmNE Z o w n0 h0) := by
  refine body (y := (⟨"com/example/shoal_creek/shoalcreek/MatchedSuffixes", "newestEnd", "()I"⟩ : MethodName)) (Ls := #[.val (.ref o)]) (plainFor_of_name pn0) hn (fun m => ef_rmNE m o) ?_
  intro p e s m below meth c T0 hx hby hml hown hnm hret hlk hZ X0
  refine i_aloadN (v := (.ref o)) (pc' := 1) X0 hx (hb hby d11_0) rfl rfl rfl ?_
  refine gf (pc' := 4) (host := "") X0 hx hZ hown (Or.inl (hw _ (List.mem_of_getElem? (i := 11) rfl))) Via.refl H0 (hb hby d11_1) rfl fun T1 X1 => ?_
  refine rI X1 hx hlk hret (hb hby d11_4) (by decide) (by decide) ?_
  exact ⟨rfl, rfl⟩
theorem d13_0 : decode prog_18_method_3_code 0 = .ok (.aload_n 0, 1) := by decide +kernel
theorem d13_1 : decode prog_18_method_3_code 1 = .ok (.getfield 23, 3) := by decide +kernel
theorem d13_4 : decode prog_18_method_3_code 4 = .ok (.iload_n 1, 1) := by decide +kernel
theorem d13_5 : decode prog_18_method_3_code 5 = .ok (.aload_n 0, 1) := by decide +kernel
theorem d13_6 : decode prog_18_method_3_code 6 = .ok (.getfield 16, 3) := by decide +kernel
theorem d13_9 : decode prog_18_method_3_code 9 = .ok (.arraylength, 1) := by decide +kernel
theorem d13_10 : decode prog_18_method_3_code 10 = .ok (.iconst 1, 1) := by decide +kernel
theorem d13_11 : decode prog_18_method_3_code 11 = .ok (.isub, 1) := by decide +kernel
theorem d13_12 : decode prog_18_method_3_code 12 = .ok (.iand, 1) := by decide +kernel
theorem d13_13 : decode prog_18_method_3_code 13 = .ok (.iaload, 1) := by decide +kernel
theorem d13_14 : decode prog_18_method_3_code 14 = .ok (.ireturn, 1) := by decide +kernel
theorem ef_rmDB (m : MethodId) (o : Addr) (q : Int32) : entryFrame m #[(.ref o), (.int q)] 2 = mkF m 0 #[.val (.ref o), .val (.int q)] [] := by first | (simp [entryFrame, mkF, argsToLocals, Value.category, maxLocals]; done) | rfl
def QrmDB (Z : State) (o : Addr) (q : Int32) (aE : Addr) (aD : Addr) (N : Nat) (fe : Nat → Int32) (fd : Nat → Int32) (n0 : Nat) (h0 : Heap) (rv : Option Value) (h : Heap) : Prop := rv = some (.int (fd (own_k q N))) ∧ h0 = h
abbrev RrmDB : Room := { frames := 0, cells := 0, slots := 0, locals := 0 }
set_option maxRecDepth 65536 in
set_option maxHeartbeats 40000000 in
theorem rmDB (l : Launch) (Z : State) (a0 : Array Value) (hw : ∀ d ∈ tables_1, d.before a0 Z = true) (ws : List Jvm.Cond) (o : Addr) (q : Int32) (aE : Addr) (aD : Addr) (N : Nat) (fe : Nat → Int32) (fd : Nat → Int32) (n0 : Nat) (h0 : Heap) (hn : n0 ≤ h0.size) (H0 : Fld Z h0 o "com/example/shoal_creek/shoalcreek/MatchedSuffixes" "ends" "[I" (.ref aE)) (H1 : Fld Z h0 o "com/example/shoal_creek/shoalcreek/MatchedSuffixes" "differings" "[I" (.ref aD)) (H2 : Av Z h0 aE .int N (fun i => .int (fe i))) (H3 : Av Z h0 aD .int N (fun i => .int (fd i))) (hN : own_p2 N) :
    Con l Z (⟨"com/example/shoal_creek/shoalcreek/MatchedSuffixes", "differingBefore", "(I)I"⟩ : MethodName) prog_18_method_3_code 2 (some .int) ws RrmDB #[(.ref o), (.int q)] h0 n0 (QrmDB Z o q aE aD N fe fd n0 h0) := by
  refine body (y := (⟨"com/example/shoal_creek/shoalcreek/MatchedSuffixes", "differingBefore", "(I)I"⟩ : MethodName)) (Ls := #[.val (.ref o), .val (.int q)]) (plainFor_of_name pn0) hn (fun m => ef_rmDB m o q) ?_
  intro p e s m below meth c T0 hx hby hml hown hnm hret hlk hZ X0
  refine i_aloadN (v := (.ref o)) (pc' := 1) X0 hx (hb hby d13_0) rfl rfl rfl ?_
  refine gf (pc' := 4) (host := "") X0 hx hZ hown (Or.inl (hw _ (List.mem_of_getElem? (i := 40) rfl))) Via.refl H1 (hb hby d13_1) rfl fun T1 X1 => ?_
  refine i_iloadN (v := q) (pc' := 5) X1 hx (hb hby d13_4) rfl rfl ?_
  refine i_aloadN (v := (.ref o)) (pc' := 6) X1 hx (hb hby d13_5) rfl rfl rfl ?_
  refine gf (pc' := 9) (host := "") X1 hx hZ hown (Or.inl (hw _ (List.mem_of_getElem? (i := 35) rfl))) Via.refl H0 (hb hby d13_6) rfl fun T2 X2 => ?_
  refine len (pc' := 10) (Nat.toInt32 N) X2 hx hZ H2 rfl (hb hby d13_9) rfl ?_
  refine i_iconst (pc' := 11) (1 : Int32) X2 hx (hb hby d13_10) rfl (by decide) ?_
  refine i_isub (pc' := 12) X2 hx (hb hby d13_11) rfl ?_
  refine i_iand (pc' := 13) X2 hx (hb hby d13_12) rfl ?_
  refine ldI (v := (.int (fd (own_k q N)))) (pc' := 14) X2 hx hZ H3 (own_idx hN q).1 (own_idx hN q).2.1 rfl (hb hby d13_13) rfl ?_
  refine rI X2 hx hlk hret (hb hby d13_14) (by decide) (by decide) ?_
  exact ⟨rfl, rfl⟩
theorem d5_0 : decode prog_18_method_8_code 0 = .ok (.iload_n 1, 1) := by decide +kernel
theorem d5_1 : decode prog_18_method_8_code 1 = .ok (.iload_n 3, 1) := by decide +kernel
theorem d5_2 : decode prog_18_method_8_code 2 = .ok (.if_icmp .lt 14, 3) := by decide +kernel
theorem d5_5 : decode prog_18_method_8_code 5 = .ok (.aload_n 0, 1) := by decide +kernel
theorem d5_6 : decode prog_18_method_8_code 6 = .ok (.invokevirtual 30, 3) := by decide +kernel
theorem d5_9 : decode prog_18_method_8_code 9 = .ok (.aload_n 0, 1) := by decide +kernel
theorem d5_10 : decode prog_18_method_8_code 10 = .ok (.iload_n 1, 1) := by decide +kernel
theorem d5_11 : decode prog_18_method_8_code 11 = .ok (.iload_n 2, 1) := by decide +kernel
theorem d5_12 : decode prog_18_method_8_code 12 = .ok (.iconst (-1), 1) := by decide +kernel
theorem d5_13 : decode prog_18_method_8_code 13 = .ok (.invokevirtual 33, 3) := by decide +kernel
theorem d5_16 : decode prog_18_method_8_code 16 = .ok (.return_, 1) := by decide +kernel
theorem ef_rmRP (m : MethodId) (o : Addr) (x : Int32) (y : Int32) (z : Int32) : entryFrame m #[(.ref o), (.int x), (.int y), (.int z)] 4 = mkF m 0 #[.val (.ref o), .val (.int x), .val (.int y), .val (.int z)] [] := by first | (simp [entryFrame, mkF, argsToLocals, Value.category, maxLocals]; done) | rfl
def QrmRP (Z : State) (o : Addr) (x : Int32) (y : Int32) (z : Int32) (pl : Int32) (w : Int32) (df : Int32) (n0 : Nat) (h0 : Heap) (rv : Option Value) (h : Heap) : Prop := ∃ aE : Addr, ∃ aL : Addr, ∃ aD : Addr, rv = none ∧ Keep h0 h [o] ∧ Fld Z h o "com/example/shoal_creek/shoalcreek/MatchedSuffixes" "ends" "[I" (.ref aE) ∧ Fld Z h o "com/example/shoal_creek/shoalcreek/MatchedSuffixes" "lengths" "[I" (.ref aL) ∧ Fld Z h o "com/example/shoal_creek/shoalcreek/MatchedSuffixes" "differings" "[I" (.ref aD) ∧ Fld Z h o "com/example/shoal_creek/shoalcreek/MatchedSuffixes" "newestEnd" "I" (.int (own_max w x)) ∧ Fld Z h o "com/example/shoal_creek/shoalcreek/MatchedSuffixes" "patternLength" "I" (.int pl) ∧ Fld Z h o "com/example/shoal_creek/shoalcreek/MatchedSuffixes" "differing" "C" (.int df) ∧ Av Z h aE .int (own_N pl) (fun i => .int ((own_up own_zero (own_k x (own_N pl)) x) i)) ∧ Av Z h aL .int (own_N pl) (fun i => .int ((own_up own_zero (own_k x (own_N pl)) y) i)) ∧ Av Z h aD .int (own_N pl) (fun i => .int ((own_up own_zero (own_k x (own_N pl)) (-1 : Int32)) i)) ∧ h0.size ≤ aE ∧ h0.size ≤ aL ∧ h0.size ≤ aD ∧ aE ≠ aL ∧ aE ≠ aD ∧ aL ≠ aD
abbrev RrmRP : Room := { frames := 2, cells := 3, slots := 24, locals := 30 }
set_option maxRecDepth 65536 in
set_option maxHeartbeats 40000000 in
theorem rmRP (l : Launch) (Z : State) (a0 : Array Value) (hw : ∀ d ∈ tables_1, d.before a0 Z = true) (ws : List Jvm.Cond) (o : Addr) (x : Int32) (y : Int32) (z : Int32) (pl : Int32) (w : Int32) (df : Int32) (n0 : Nat) (h0 : Heap) (hn : n0 ≤ h0.size) (H0 : Exa Z h0 o "com/example/shoal_creek/shoalcreek/MatchedSuffixes") (H1 : Fld Z h0 o "com/example/shoal_creek/shoalcreek/MatchedSuffixes" "ends" "[I" .null) (H2 : Fld Z h0 o "com/example/shoal_creek/shoalcreek/MatchedSuffixes" "lengths" "[I" .null) (H3 : Fld Z h0 o "com/example/shoal_creek/shoalcreek/MatchedSuffixes" "differings" "[I" .null) (H4 : Fld Z h0 o "com/example/shoal_creek/shoalcreek/MatchedSuffixes" "newestEnd" "I" (.int w)) (H5 : Fld Z h0 o "com/example/shoal_creek/shoalcreek/MatchedSuffixes" "patternLength" "I" (.int pl)) (H6 : Fld Z h0 o "com/example/shoal_creek/shoalcreek/MatchedSuffixes" "differing" "C" (.int df)) (H7 : n0 ≤ o) (hp64 : ¬ (8 : Int32) < pl) (hz : ¬ x < z) :
    Con l Z (⟨"com/example/shoal_creek/shoalcreek/MatchedSuffixes", "rememberPassed", "(III)V"⟩ : MethodName) prog_18_method_8_code 4 none ws RrmRP #[(.ref o), (.int x), (.int y), (.int z)] h0 n0 (QrmRP Z o x y z pl w df n0 h0) := by
  refine body (y := (⟨"com/example/shoal_creek/shoalcreek/MatchedSuffixes", "rememberPassed", "(III)V"⟩ : MethodName)) (Ls := #[.val (.ref o), .val (.int x), .val (.int y), .val (.int z)]) (plainFor_of_name pn0) hn (fun m => ef_rmRP m o x y z) ?_
  intro p e s m below meth c T0 hx hby hml hown hnm hret hlk hZ X0
  refine i_iloadN (v := x) (pc' := 1) X0 hx (hb hby d5_0) rfl rfl ?_
  refine i_iloadN (v := z) (pc' := 2) X0 hx (hb hby d5_1) rfl rfl ?_
  refine i_icF (pc' := 5) X0 hx (hb hby d5_2) rfl (XT.ii_lt_f hz) ?_
  refine i_aloadN (v := (.ref o)) (pc' := 6) X0 hx (hb hby d5_5) rfl rfl rfl ?_
  refine cP (y := (⟨"com/example/shoal_creek/shoalcreek/MatchedSuffixes", "allocate", "()V"⟩ : MethodName)) (C := "com/example/shoal_creek/shoalcreek/MatchedSuffixes") (rest := []) (pc' := 9) 0 [] X0 hx hZ hown (hw _ (List.mem_of_getElem? (i := 31) rfl)) (hw _ (List.mem_of_getElem? (i := 32) rfl)) (hw _ (List.mem_of_getElem? (i := 33) rfl)) (hw _ (List.mem_of_getElem? (i := 3) rfl)) (hw _ (List.mem_of_getElem? (i := 4) rfl)) (hw _ (List.mem_of_getElem? (i := 34) rfl)) (by decide) H0 (rmAl l Z a0 hw [] o pl w df n0 h0 X0.le H0 H1 H2 H3 H4 H5 H6 H7 hp64) (by decide) (by decide) (by rw [hml]; rfl) rfl (lenOf pd1 rfl) rfl (Nat.le_of_eq rfl) (hb hby d5_6) rfl (by decide) (by decide) ?_
  intro r1 T1 h1 X1 q1
  obtain ⟨aE1, aL1, aD1, rfl, K1c, P1_0, P1_1, P1_2, P1_3, P1_4, P1_5, P1_6, P1_7, P1_8, fz1_aE, fz1_aL, fz1_aD, fn1_aE_aL, fn1_aE_aD, fn1_aL_aD⟩ := q1
  have ge_aE1 : n0 ≤ aE1 := Nat.le_trans X0.le fz1_aE
  have sz_aE1 : h0.size ≤ aE1 := Nat.le_trans ((Keep.refl h0 _) : Keep h0 h0 [o]).1 fz1_aE
  have ne_o_aE1 : o ≠ aE1 := Nat.ne_of_lt (Nat.lt_of_lt_of_le H0.lt fz1_aE)
  have ge_aL1 : n0 ≤ aL1 := Nat.le_trans X0.le fz1_aL
  have sz_aL1 : h0.size ≤ aL1 := Nat.le_trans ((Keep.refl h0 _) : Keep h0 h0 [o]).1 fz1_aL
  have ne_o_aL1 : o ≠ aL1 := Nat.ne_of_lt (Nat.lt_of_lt_of_le H0.lt fz1_aL)
  have ge_aD1 : n0 ≤ aD1 := Nat.le_trans X0.le fz1_aD
  have sz_aD1 : h0.size ≤ aD1 := Nat.le_trans ((Keep.refl h0 _) : Keep h0 h0 [o]).1 fz1_aD
  have ne_o_aD1 : o ≠ aD1 := Nat.ne_of_lt (Nat.lt_of_lt_of_le H0.lt fz1_aD)
  show Go _ _ _ _ _ _ _ T1 (mkF m 9 #[.val (.ref o), .val (.int x), .val (.int y), .val (.int z)] [])
  refine i_aloadN (v := (.ref o)) (pc' := 10) X1 hx (hb hby d5_9) rfl rfl rfl ?_
  refine i_iloadN (v := x) (pc' := 11) X1 hx (hb hby d5_10) rfl rfl ?_
  refine i_iloadN (v := y) (pc' := 12) X1 hx (hb hby d5_11) rfl rfl ?_
  refine i_iconst (pc' := 13) (-1 : Int32) X1 hx (hb hby d5_12) rfl (by decide) ?_
  have F2 : Exa Z h1 o "com/example/shoal_creek/shoalcreek/MatchedSuffixes" := (H0.keep K1c)
  refine cV (y := (⟨"com/example/shoal_creek/shoalcreek/MatchedSuffixes", "keep", "(III)V"⟩ : MethodName)) (C := "com/example/shoal_creek/shoalcreek/MatchedSuffixes") (rest := []) (pc' := 16) 0 [(.int x), (.int y), (.int (-1 : Int32))] X1 hx hZ hown (hw _ (List.mem_of_getElem? (i := 42) rfl)) (hw _ (List.mem_of_getElem? (i := 43) rfl)) (hw _ (List.mem_of_getElem? (i := 45) rfl)) (hw _ (List.mem_of_getElem? (i := 44) rfl)) (hw _ (List.mem_of_getElem? (i := 4) rfl)) (hw _ (List.mem_of_getElem? (i := 46) rfl)) (by decide) F2 (rmKeep l Z a0 hw [] o x y (-1 : Int32) w pl df aE1 aL1 aD1 (own_N pl) own_zero own_zero own_zero n0 h1 X1.le F2 P1_0 P1_1 P1_2 P1_3 P1_4 P1_5 P1_6 P1_7 P1_8 H7 ge_aE1 ge_aL1 ge_aD1 ne_o_aE1 ne_o_aL1 ne_o_aD1 fn1_aE_aL fn1_aE_aD fn1_aL_aD (own_Np pl)) (by decide) (by decide) (by rw [hml]; rfl) rfl (lenOf pd2 rfl) rfl (Nat.le_of_eq rfl) (hb hby d5_13) rfl (by decide) (by decide) ?_
  intro r3 T3 h3 X3 q3
  obtain ⟨rfl, K3c, P3_0, P3_1, P3_2, P3_3, P3_4, P3_5, P3_6, P3_7, P3_8⟩ := q3
  show Go _ _ _ _ _ _ _ T3 (mkF m 16 #[.val (.ref o), .val (.int x), .val (.int y), .val (.int z)] [])
  refine rV X3 hx hlk hret (hb hby d5_16) (by decide) (by decide) ?_
  exact ⟨aE1, aL1, aD1, rfl, (((((Keep.refl h0 _) : Keep h0 h0 [o]).trans K1c (allS (Or.inl (List.mem_of_getElem? (i := 0) rfl)) all0)) : Keep h0 h1 [o]).trans K3c (allS (Or.inl (List.mem_of_getElem? (i := 0) rfl)) (allS (Or.inr sz_aE1) (allS (Or.inr sz_aL1) (allS (Or.inr sz_aD1) all0))))), P3_0, P3_1, P3_2, P3_3, P3_4, P3_5, P3_6, P3_7, P3_8, sz_aE1, sz_aL1, sz_aD1, fn1_aE_aL, fn1_aE_aD, fn1_aL_aD⟩
theorem d4_0 : decode method_2_code 0 = .ok (.iload_n 1, 1) := by decide +kernel
theorem d4_1 : decode method_2_code 1 = .ok (.ifCond .ne 5, 3) := by decide +kernel
theorem d4_4 : decode method_2_code 4 = .ok (.iconst 0, 1) := by decide +kernel
theorem d4_5 : decode method_2_code 5 = .ok (.ireturn, 1) := by decide +kernel
theorem d4_6 : decode method_2_code 6 = .ok (.iload_n 2, 1) := by decide +kernel
theorem d4_7 : decode method_2_code 7 = .ok (.ifCond .eq 13, 3) := by decide +kernel
theorem d4_10 : decode method_2_code 10 = .ok (.aload_n 0, 1) := by decide +kernel
theorem d4_11 : decode method_2_code 11 = .ok (.iload_n 3, 1) := by decide +kernel
theorem d4_12 : decode method_2_code 12 = .ok (.iload 4, 2) := by decide +kernel
theorem d4_14 : decode method_2_code 14 = .ok (.iload_n 3, 1) := by decide +kernel
theorem d4_15 : decode method_2_code 15 = .ok (.invokevirtual 7, 3) := by decide +kernel
theorem d4_18 : decode method_2_code 18 = .ok (.iconst (-1), 1) := by decide +kernel
theorem d4_19 : decode method_2_code 19 = .ok (.ireturn, 1) := by decide +kernel
theorem d4_20 : decode method_2_code 20 = .ok (.aload_n 0, 1) := by decide +kernel
theorem d4_21 : decode method_2_code 21 = .ok (.iload_n 3, 1) := by decide +kernel
theorem d4_22 : decode method_2_code 22 = .ok (.iload 4, 2) := by decide +kernel
theorem d4_24 : decode method_2_code 24 = .ok (.iload_n 3, 1) := by decide +kernel
theorem d4_25 : decode method_2_code 25 = .ok (.invokevirtual 13, 3) := by decide +kernel
theorem d4_28 : decode method_2_code 28 = .ok (.iload 4, 2) := by decide +kernel
theorem d4_30 : decode method_2_code 30 = .ok (.iload 5, 2) := by decide +kernel
theorem d4_32 : decode method_2_code 32 = .ok (.if_icmp .ge 10, 3) := by decide +kernel
theorem d4_35 : decode method_2_code 35 = .ok (.aload_n 0, 1) := by decide +kernel
theorem d4_36 : decode method_2_code 36 = .ok (.invokevirtual 16, 3) := by decide +kernel
theorem d4_39 : decode method_2_code 39 = .ok (.goto 5, 3) := by decide +kernel
theorem d4_42 : decode method_2_code 42 = .ok (.bipush (-2), 2) := by decide +kernel
theorem d4_44 : decode method_2_code 44 = .ok (.ireturn, 1) := by decide +kernel
theorem pn1 : plainName "com/example/shoal_creek/shoalcreek/MatchedSuffixesSwapPinLaw" = true := by first | (simp [plainName, overriddenIn]; done) | decide +kernel
theorem ef_rmF0 (m : MethodId) (o : Addr) (kp : Int32) (ps : Int32) (x : Int32) (y : Int32) (pl : Int32) : entryFrame m #[(.ref o), (.int kp), (.int ps), (.int x), (.int y), (.int pl)] 6 = mkF m 0 #[.val (.ref o), .val (.int kp), .val (.int ps), .val (.int x), .val (.int y), .val (.int pl)] [] := by first | (simp [entryFrame, mkF, argsToLocals, Value.category, maxLocals]; done) | rfl
def QrmF0 (Z : State) (o : Addr) (kp : Int32) (ps : Int32) (x : Int32) (y : Int32) (pl : Int32) (n0 : Nat) (h0 : Heap) (rv : Option Value) (h : Heap) : Prop := rv = some (.int (0 : Int32)) ∧ h0 = h
abbrev RrmF0 : Room := { frames := 0, cells := 0, slots := 0, locals := 0 }
set_option maxRecDepth 65536 in
set_option maxHeartbeats 40000000 in
theorem rmF0 (l : Launch) (Z : State) (a0 : Array Value) (hw : ∀ d ∈ tables_1, d.before a0 Z = true) (ws : List Jvm.Cond) (o : Addr) (kp : Int32) (ps : Int32) (x : Int32) (y : Int32) (pl : Int32) (n0 : Nat) (h0 : Heap) (hn : n0 ≤ h0.size)  (hkp : kp = 0) :
    Con l Z (⟨"com/example/shoal_creek/shoalcreek/MatchedSuffixesSwapPinLaw", "fill", "(Lcom/example/shoal_creek/shoalcreek/MatchedSuffixes;ZZIII)I"⟩ : MethodName) method_2_code 6 (some .int) ws RrmF0 #[(.ref o), (.int kp), (.int ps), (.int x), (.int y), (.int pl)] h0 n0 (QrmF0 Z o kp ps x y pl n0 h0) := by
  refine body (y := (⟨"com/example/shoal_creek/shoalcreek/MatchedSuffixesSwapPinLaw", "fill", "(Lcom/example/shoal_creek/shoalcreek/MatchedSuffixes;ZZIII)I"⟩ : MethodName)) (Ls := #[.val (.ref o), .val (.int kp), .val (.int ps), .val (.int x), .val (.int y), .val (.int pl)]) (plainFor_of_name pn1) hn (fun m => ef_rmF0 m o kp ps x y pl) ?_
  intro p e s m below meth c T0 hx hby hml hown hnm hret hlk hZ X0
  refine i_iloadN (v := kp) (pc' := 1) X0 hx (hb hby d4_0) rfl rfl ?_
  refine i_ifF (pc' := 4) X0 hx (hb hby d4_1) rfl (XT.i0_ne_f hkp) ?_
  refine i_iconst (pc' := 5) (0 : Int32) X0 hx (hb hby d4_4) rfl (by decide) ?_
  refine rI X0 hx hlk hret (hb hby d4_5) (by decide) (by decide) ?_
  exact ⟨rfl, rfl⟩
theorem ef_rmF1 (m : MethodId) (o : Addr) (kp : Int32) (ps : Int32) (x : Int32) (y : Int32) (pl : Int32) : entryFrame m #[(.ref o), (.int kp), (.int ps), (.int x), (.int y), (.int pl)] 6 = mkF m 0 #[.val (.ref o), .val (.int kp), .val (.int ps), .val (.int x), .val (.int y), .val (.int pl)] [] := by first | (simp [entryFrame, mkF, argsToLocals, Value.category, maxLocals]; done) | rfl
def QrmF1 (Z : State) (o : Addr) (kp : Int32) (ps : Int32) (x : Int32) (y : Int32) (pl : Int32) (w : Int32) (df : Int32) (n0 : Nat) (h0 : Heap) (rv : Option Value) (h : Heap) : Prop := ∃ aE : Addr, ∃ aL : Addr, ∃ aD : Addr, rv = some (.int (if ps = 0 then (if y < pl then df else (-2 : Int32)) else (-1 : Int32))) ∧ Keep h0 h [o] ∧ Fld Z h o "com/example/shoal_creek/shoalcreek/MatchedSuffixes" "ends" "[I" (.ref aE) ∧ Fld Z h o "com/example/shoal_creek/shoalcreek/MatchedSuffixes" "lengths" "[I" (.ref aL) ∧ Fld Z h o "com/example/shoal_creek/shoalcreek/MatchedSuffixes" "differings" "[I" (.ref aD) ∧ Fld Z h o "com/example/shoal_creek/shoalcreek/MatchedSuffixes" "newestEnd" "I" (.int (own_max w x)) ∧ Fld Z h o "com/example/shoal_creek/shoalcreek/MatchedSuffixes" "patternLength" "I" (.int pl) ∧ Fld Z h o "com/example/shoal_creek/shoalcreek/MatchedSuffixes" "differing" "C" (.int df) ∧ Av Z h aE .int (own_N pl) (fun i => .int ((own_up own_zero (own_k x (own_N pl)) x) i)) ∧ Av Z h aL .int (own_N pl) (fun i => .int ((own_up own_zero (own_k x (own_N pl)) y) i)) ∧ Av Z h aD .int (own_N pl) (fun i => .int ((own_up own_zero (own_k x (own_N pl)) (if ps = 0 then (if y < pl then df else (-2 : Int32)) else (-1 : Int32))) i)) ∧ h0.size ≤ aE ∧ h0.size ≤ aL ∧ h0.size ≤ aD ∧ aE ≠ aL ∧ aE ≠ aD ∧ aL ≠ aD
theorem pd3 : parseMethodDescriptor "()C" = some ⟨[], some .char⟩ := by decide +kernel
abbrev RrmF1 : Room := { frames := 3, cells := 3, slots := 24, locals := 45 }
set_option maxRecDepth 65536 in
set_option maxHeartbeats 40000000 in
theorem rmF1 (l : Launch) (Z : State) (a0 : Array Value) (hw : ∀ d ∈ tables_1, d.before a0 Z = true) (ws : List Jvm.Cond) (o : Addr) (kp : Int32) (ps : Int32) (x : Int32) (y : Int32) (pl : Int32) (w : Int32) (df : Int32) (n0 : Nat) (h0 : Heap) (hn : n0 ≤ h0.size) (H0 : Exa Z h0 o "com/example/shoal_creek/shoalcreek/MatchedSuffixes") (H1 : Fld Z h0 o "com/example/shoal_creek/shoalcreek/MatchedSuffixes" "ends" "[I" .null) (H2 : Fld Z h0 o "com/example/shoal_creek/shoalcreek/MatchedSuffixes" "lengths" "[I" .null) (H3 : Fld Z h0 o "com/example/shoal_creek/shoalcreek/MatchedSuffixes" "differings" "[I" .null) (H4 : Fld Z h0 o "com/example/shoal_creek/shoalcreek/MatchedSuffixes" "newestEnd" "I" (.int w)) (H5 : Fld Z h0 o "com/example/shoal_creek/shoalcreek/MatchedSuffixes" "patternLength" "I" (.int pl)) (H6 : Fld Z h0 o "com/example/shoal_creek/shoalcreek/MatchedSuffixes" "differing" "C" (.int df)) (H7 : n0 ≤ o) (hkp : ¬ kp = 0) (hp64 : ¬ (8 : Int32) < pl) (hy : (0 : Int32) < y) (hdf : nar .char df = df) :
    Con l Z (⟨"com/example/shoal_creek/shoalcreek/MatchedSuffixesSwapPinLaw", "fill", "(Lcom/example/shoal_creek/shoalcreek/MatchedSuffixes;ZZIII)I"⟩ : MethodName) method_2_code 6 (some .int) ws RrmF1 #[(.ref o), (.int kp), (.int ps), (.int x), (.int y), (.int pl)] h0 n0 (QrmF1 Z o kp ps x y pl w df n0 h0) := by
  refine body (y := (⟨"com/example/shoal_creek/shoalcreek/MatchedSuffixesSwapPinLaw", "fill", "(Lcom/example/shoal_creek/shoalcreek/MatchedSuffixes;ZZIII)I"⟩ : MethodName)) (Ls := #[.val (.ref o), .val (.int kp), .val (.int ps), .val (.int x), .val (.int y), .val (.int pl)]) (plainFor_of_name pn1) hn (fun m => ef_rmF1 m o kp ps x y pl) ?_
  intro p e s m below meth c T0 hx hby hml hown hnm hret hlk hZ X0
  refine i_iloadN (v := kp) (pc' := 1) X0 hx (hb hby d4_0) rfl rfl ?_
  refine i_ifT (pc' := 6) X0 hx (hb hby d4_1) (XT.i0_ne_t hkp) (by decide) (by decide) ?_
  refine i_iloadN (v := ps) (pc' := 7) X0 hx (hb hby d4_6) rfl rfl ?_
  by_cases hc1 : ps = 0
  · skip
    refine i_ifT (pc' := 20) X0 hx (hb hby d4_7) (XT.i0_eq_t hc1) (by decide) (by decide) ?_
    refine i_aloadN (v := (.ref o)) (pc' := 21) X0 hx (hb hby d4_20) rfl rfl rfl ?_
    refine i_iloadN (v := x) (pc' := 22) X0 hx (hb hby d4_21) rfl rfl ?_
    refine i_iload (v := y) (pc' := 24) X0 hx (hb hby d4_22) rfl rfl ?_
    refine i_iloadN (v := x) (pc' := 25) X0 hx (hb hby d4_24) rfl rfl ?_
    refine cV (y := (⟨"com/example/shoal_creek/shoalcreek/MatchedSuffixes", "remember", "(III)V"⟩ : MethodName)) (C := "com/example/shoal_creek/shoalcreek/MatchedSuffixes") (rest := []) (pc' := 28) 0 [(.int x), (.int y), (.int x)] X0 hx hZ hown (hw _ (List.mem_of_getElem? (i := 74) rfl)) (hw _ (List.mem_of_getElem? (i := 75) rfl)) (hw _ (List.mem_of_getElem? (i := 77) rfl)) (hw _ (List.mem_of_getElem? (i := 76) rfl)) (hw _ (List.mem_of_getElem? (i := 4) rfl)) (hw _ (List.mem_of_getElem? (i := 78) rfl)) (by decide) H0 (rmR1 l Z a0 hw [] o x y x pl w df n0 h0 X0.le H0 H1 H2 H3 H4 H5 H6 H7 hp64 hy (own_irr32 _)) (by decide) (by decide) (by rw [hml]; rfl) rfl (lenOf pd2 rfl) rfl (Nat.le_of_eq rfl) (hb hby d4_25) rfl (by decide) (by decide) ?_
    intro r2 T2 h2 X2 q2
    obtain ⟨aE2, aL2, aD2, rfl, K2c, P2_0, P2_1, P2_2, P2_3, P2_4, P2_5, P2_6, P2_7, P2_8, fz2_aE, fz2_aL, fz2_aD, fn2_aE_aL, fn2_aE_aD, fn2_aL_aD⟩ := q2
    have ge_aE2 : n0 ≤ aE2 := Nat.le_trans X0.le fz2_aE
    have sz_aE2 : h0.size ≤ aE2 := Nat.le_trans ((Keep.refl h0 _) : Keep h0 h0 [o]).1 fz2_aE
    have ne_o_aE2 : o ≠ aE2 := Nat.ne_of_lt (Nat.lt_of_lt_of_le H0.lt fz2_aE)
    have ge_aL2 : n0 ≤ aL2 := Nat.le_trans X0.le fz2_aL
    have sz_aL2 : h0.size ≤ aL2 := Nat.le_trans ((Keep.refl h0 _) : Keep h0 h0 [o]).1 fz2_aL
    have ne_o_aL2 : o ≠ aL2 := Nat.ne_of_lt (Nat.lt_of_lt_of_le H0.lt fz2_aL)
    have ge_aD2 : n0 ≤ aD2 := Nat.le_trans X0.le fz2_aD
    have sz_aD2 : h0.size ≤ aD2 := Nat.le_trans ((Keep.refl h0 _) : Keep h0 h0 [o]).1 fz2_aD
    have ne_o_aD2 : o ≠ aD2 := Nat.ne_of_lt (Nat.lt_of_lt_of_le H0.lt fz2_aD)
    show Go _ _ _ _ _ _ _ T2 (mkF m 28 #[.val (.ref o), .val (.int kp), .val (.int ps), .val (.int x), .val (.int y), .val (.int pl)] [])
    refine i_iload (v := y) (pc' := 30) X2 hx (hb hby d4_28) rfl rfl ?_
    refine i_iload (v := pl) (pc' := 32) X2 hx (hb hby d4_30) rfl rfl ?_
    by_cases hc3 : y < pl
    · skip
      refine i_icF (pc' := 35) X2 hx (hb hby d4_32) rfl (XT.ii_ge_f hc3) ?_
      refine i_aloadN (v := (.ref o)) (pc' := 36) X2 hx (hb hby d4_35) rfl rfl rfl ?_
      have F5 : Exa Z h2 o "com/example/shoal_creek/shoalcreek/MatchedSuffixes" := (H0.keep K2c)
      refine cV (y := (⟨"com/example/shoal_creek/shoalcreek/MatchedSuffixes", "differing", "()C"⟩ : MethodName)) (C := "com/example/shoal_creek/shoalcreek/MatchedSuffixes") (rest := []) (pc' := 39) 0 [] X2 hx hZ hown (hw _ (List.mem_of_getElem? (i := 80) rfl)) (hw _ (List.mem_of_getElem? (i := 81) rfl)) (hw _ (List.mem_of_getElem? (i := 83) rfl)) (hw _ (List.mem_of_getElem? (i := 82) rfl)) (hw _ (List.mem_of_getElem? (i := 4) rfl)) (hw _ (List.mem_of_getElem? (i := 84) rfl)) (by decide) F5 (rmDf l Z a0 hw [] o df n0 h2 X2.le P2_5 hdf) (by decide) (by decide) (by rw [hml]; rfl) rfl (lenOf pd3 rfl) rfl (Nat.le_of_eq rfl) (hb hby d4_36) rfl (by decide) (by decide) ?_
      intro r4 T4 h4 X4 q4
      obtain ⟨rfl, eh4⟩ := q4
      subst eh4
      show Go _ _ _ _ _ _ _ T4 (mkF m 39 #[.val (.ref o), .val (.int kp), .val (.int ps), .val (.int x), .val (.int y), .val (.int pl)] [(.int df)])
      refine i_goto (pc' := 44) X4 hx (hb hby d4_39) (by decide) (by decide) ?_
      refine rI X4 hx hlk hret (hb hby d4_44) (by decide) (by decide) ?_
      exact ⟨aE2, aL2, aD2, (by rw [if_pos hc1, if_pos hc3]), (((Keep.refl h0 _) : Keep h0 h0 [o]).trans K2c (allS (Or.inl (List.mem_of_getElem? (i := 0) rfl)) all0)), P2_0, P2_1, P2_2, P2_3, P2_4, P2_5, P2_6, P2_7, (by rw [if_pos hc1]; exact P2_8), sz_aE2, sz_aL2, sz_aD2, fn2_aE_aL, fn2_aE_aD, fn2_aL_aD⟩
    · skip
      refine i_icT (pc' := 42) X2 hx (hb hby d4_32) (XT.ii_ge_t hc3) (by decide) (by decide) ?_
      refine i_bipush (pc' := 44) (-2 : Int32) X2 hx (hb hby d4_42) rfl (by decide) ?_
      refine rI X2 hx hlk hret (hb hby d4_44) (by decide) (by decide) ?_
      exact ⟨aE2, aL2, aD2, (by rw [if_pos hc1, if_neg hc3]), (((Keep.refl h0 _) : Keep h0 h0 [o]).trans K2c (allS (Or.inl (List.mem_of_getElem? (i := 0) rfl)) all0)), P2_0, P2_1, P2_2, P2_3, P2_4, P2_5, P2_6, P2_7, (by rw [if_pos hc1]; exact P2_8), sz_aE2, sz_aL2, sz_aD2, fn2_aE_aL, fn2_aE_aD, fn2_aL_aD⟩
  · skip
    refine i_ifF (pc' := 10) X0 hx (hb hby d4_7) rfl (XT.i0_eq_f hc1) ?_
    refine i_aloadN (v := (.ref o)) (pc' := 11) X0 hx (hb hby d4_10) rfl rfl rfl ?_
    refine i_iloadN (v := x) (pc' := 12) X0 hx (hb hby d4_11) rfl rfl ?_
    refine i_iload (v := y) (pc' := 14) X0 hx (hb hby d4_12) rfl rfl ?_
    refine i_iloadN (v := x) (pc' := 15) X0 hx (hb hby d4_14) rfl rfl ?_
    refine cV (y := (⟨"com/example/shoal_creek/shoalcreek/MatchedSuffixes", "rememberPassed", "(III)V"⟩ : MethodName)) (C := "com/example/shoal_creek/shoalcreek/MatchedSuffixes") (rest := []) (pc' := 18) 0 [(.int x), (.int y), (.int x)] X0 hx hZ hown (hw _ (List.mem_of_getElem? (i := 26) rfl)) (hw _ (List.mem_of_getElem? (i := 27) rfl)) (hw _ (List.mem_of_getElem? (i := 29) rfl)) (hw _ (List.mem_of_getElem? (i := 28) rfl)) (hw _ (List.mem_of_getElem? (i := 4) rfl)) (hw _ (List.mem_of_getElem? (i := 30) rfl)) (by decide) H0 (rmRP l Z a0 hw [] o x y x pl w df n0 h0 X0.le H0 H1 H2 H3 H4 H5 H6 H7 hp64 (own_irr32 _)) (by decide) (by decide) (by rw [hml]; rfl) rfl (lenOf pd2 rfl) rfl (Nat.le_of_eq rfl) (hb hby d4_15) rfl (by decide) (by decide) ?_
    intro r6 T6 h6 X6 q6
    obtain ⟨aE6, aL6, aD6, rfl, K6c, P6_0, P6_1, P6_2, P6_3, P6_4, P6_5, P6_6, P6_7, P6_8, fz6_aE, fz6_aL, fz6_aD, fn6_aE_aL, fn6_aE_aD, fn6_aL_aD⟩ := q6
    have ge_aE6 : n0 ≤ aE6 := Nat.le_trans X0.le fz6_aE
    have sz_aE6 : h0.size ≤ aE6 := Nat.le_trans ((Keep.refl h0 _) : Keep h0 h0 [o]).1 fz6_aE
    have ne_o_aE6 : o ≠ aE6 := Nat.ne_of_lt (Nat.lt_of_lt_of_le H0.lt fz6_aE)
    have ge_aL6 : n0 ≤ aL6 := Nat.le_trans X0.le fz6_aL
    have sz_aL6 : h0.size ≤ aL6 := Nat.le_trans ((Keep.refl h0 _) : Keep h0 h0 [o]).1 fz6_aL
    have ne_o_aL6 : o ≠ aL6 := Nat.ne_of_lt (Nat.lt_of_lt_of_le H0.lt fz6_aL)
    have ge_aD6 : n0 ≤ aD6 := Nat.le_trans X0.le fz6_aD
    have sz_aD6 : h0.size ≤ aD6 := Nat.le_trans ((Keep.refl h0 _) : Keep h0 h0 [o]).1 fz6_aD
    have ne_o_aD6 : o ≠ aD6 := Nat.ne_of_lt (Nat.lt_of_lt_of_le H0.lt fz6_aD)
    show Go _ _ _ _ _ _ _ T6 (mkF m 18 #[.val (.ref o), .val (.int kp), .val (.int ps), .val (.int x), .val (.int y), .val (.int pl)] [])
    refine i_iconst (pc' := 19) (-1 : Int32) X6 hx (hb hby d4_18) rfl (by decide) ?_
    refine rI X6 hx hlk hret (hb hby d4_19) (by decide) (by decide) ?_
    exact ⟨aE6, aL6, aD6, (by rw [if_neg hc1]), (((Keep.refl h0 _) : Keep h0 h0 [o]).trans K6c (allS (Or.inl (List.mem_of_getElem? (i := 0) rfl)) all0)), P6_0, P6_1, P6_2, P6_3, P6_4, P6_5, P6_6, P6_7, (by rw [if_neg hc1]; exact P6_8), sz_aE6, sz_aL6, sz_aD6, fn6_aE_aL, fn6_aE_aD, fn6_aL_aD⟩
theorem d9_0 : decode prog_18_method_15_code 0 = .ok (.aload_n 1, 1) := by decide +kernel
theorem d9_1 : decode prog_18_method_15_code 1 = .ok (.getfield 16, 3) := by decide +kernel
theorem d9_4 : decode prog_18_method_15_code 4 = .ok (.astore_n 2, 1) := by decide +kernel
theorem d9_5 : decode prog_18_method_15_code 5 = .ok (.aload_n 1, 1) := by decide +kernel
theorem d9_6 : decode prog_18_method_15_code 6 = .ok (.getfield 20, 3) := by decide +kernel
theorem d9_9 : decode prog_18_method_15_code 9 = .ok (.astore_n 3, 1) := by decide +kernel
theorem d9_10 : decode prog_18_method_15_code 10 = .ok (.aload_n 1, 1) := by decide +kernel
theorem d9_11 : decode prog_18_method_15_code 11 = .ok (.getfield 23, 3) := by decide +kernel
theorem d9_14 : decode prog_18_method_15_code 14 = .ok (.astore 4, 2) := by decide +kernel
theorem d9_16 : decode prog_18_method_15_code 16 = .ok (.aload_n 1, 1) := by decide +kernel
theorem d9_17 : decode prog_18_method_15_code 17 = .ok (.getfield 7, 3) := by decide +kernel
theorem d9_20 : decode prog_18_method_15_code 20 = .ok (.istore 5, 2) := by decide +kernel
theorem d9_22 : decode prog_18_method_15_code 22 = .ok (.aload_n 1, 1) := by decide +kernel
theorem d9_23 : decode prog_18_method_15_code 23 = .ok (.aload_n 0, 1) := by decide +kernel
theorem d9_24 : decode prog_18_method_15_code 24 = .ok (.getfield 16, 3) := by decide +kernel
theorem d9_27 : decode prog_18_method_15_code 27 = .ok (.putfield 16, 3) := by decide +kernel
theorem d9_30 : decode prog_18_method_15_code 30 = .ok (.aload_n 1, 1) := by decide +kernel
theorem d9_31 : decode prog_18_method_15_code 31 = .ok (.aload_n 0, 1) := by decide +kernel
theorem d9_32 : decode prog_18_method_15_code 32 = .ok (.getfield 20, 3) := by decide +kernel
theorem d9_35 : decode prog_18_method_15_code 35 = .ok (.putfield 20, 3) := by decide +kernel
theorem d9_38 : decode prog_18_method_15_code 38 = .ok (.aload_n 1, 1) := by decide +kernel
theorem d9_39 : decode prog_18_method_15_code 39 = .ok (.aload_n 0, 1) := by decide +kernel
theorem d9_40 : decode prog_18_method_15_code 40 = .ok (.getfield 23, 3) := by decide +kernel
theorem d9_43 : decode prog_18_method_15_code 43 = .ok (.putfield 23, 3) := by decide +kernel
theorem d9_46 : decode prog_18_method_15_code 46 = .ok (.aload_n 1, 1) := by decide +kernel
theorem d9_47 : decode prog_18_method_15_code 47 = .ok (.aload_n 0, 1) := by decide +kernel
theorem d9_48 : decode prog_18_method_15_code 48 = .ok (.getfield 7, 3) := by decide +kernel
theorem d9_51 : decode prog_18_method_15_code 51 = .ok (.putfield 7, 3) := by decide +kernel
theorem d9_54 : decode prog_18_method_15_code 54 = .ok (.aload_n 0, 1) := by decide +kernel
theorem d9_55 : decode prog_18_method_15_code 55 = .ok (.aload_n 2, 1) := by decide +kernel
theorem d9_56 : decode prog_18_method_15_code 56 = .ok (.putfield 16, 3) := by decide +kernel
theorem d9_59 : decode prog_18_method_15_code 59 = .ok (.aload_n 0, 1) := by decide +kernel
theorem d9_60 : decode prog_18_method_15_code 60 = .ok (.aload_n 3, 1) := by decide +kernel
theorem d9_61 : decode prog_18_method_15_code 61 = .ok (.putfield 20, 3) := by decide +kernel
theorem d9_64 : decode prog_18_method_15_code 64 = .ok (.aload_n 0, 1) := by decide +kernel
theorem d9_65 : decode prog_18_method_15_code 65 = .ok (.aload 4, 2) := by decide +kernel
theorem d9_67 : decode prog_18_method_15_code 67 = .ok (.putfield 23, 3) := by decide +kernel
theorem d9_70 : decode prog_18_method_15_code 70 = .ok (.aload_n 0, 1) := by decide +kernel
theorem d9_71 : decode prog_18_method_15_code 71 = .ok (.iload 5, 2) := by decide +kernel
theorem d9_73 : decode prog_18_method_15_code 73 = .ok (.putfield 7, 3) := by decide +kernel
theorem d9_76 : decode prog_18_method_15_code 76 = .ok (.return_, 1) := by decide +kernel
theorem ef_rmSw (m : MethodId) (o : Addr) (q : Addr) : entryFrame m #[(.ref o), (.ref q)] 6 = mkF m 0 #[.val (.ref o), .val (.ref q), .unset, .unset, .unset, .unset] [] := by first | (simp [entryFrame, mkF, argsToLocals, Value.category, maxLocals]; done) | rfl
def QrmSw (Z : State) (o : Addr) (q : Addr) (va : Value) (vb : Value) (vc : Value) (wa : Value) (wb : Value) (wc : Value) (w : Int32) (u : Int32) (n0 : Nat) (h0 : Heap) (rv : Option Value) (h : Heap) : Prop := rv = none ∧ Keep h0 h [o, q] ∧ Fld Z h o "com/example/shoal_creek/shoalcreek/MatchedSuffixes" "ends" "[I" wa ∧ Fld Z h o "com/example/shoal_creek/shoalcreek/MatchedSuffixes" "lengths" "[I" wb ∧ Fld Z h o "com/example/shoal_creek/shoalcreek/MatchedSuffixes" "differings" "[I" wc ∧ Fld Z h o "com/example/shoal_creek/shoalcreek/MatchedSuffixes" "newestEnd" "I" (.int u) ∧ Fld Z h q "com/example/shoal_creek/shoalcreek/MatchedSuffixes" "ends" "[I" va ∧ Fld Z h q "com/example/shoal_creek/shoalcreek/MatchedSuffixes" "lengths" "[I" vb ∧ Fld Z h q "com/example/shoal_creek/shoalcreek/MatchedSuffixes" "differings" "[I" vc ∧ Fld Z h q "com/example/shoal_creek/shoalcreek/MatchedSuffixes" "newestEnd" "I" (.int w)
abbrev RrmSw : Room := { frames := 0, cells := 0, slots := 0, locals := 0 }
set_option maxRecDepth 65536 in
set_option maxHeartbeats 40000000 in
theorem rmSw (l : Launch) (Z : State) (a0 : Array Value) (hw : ∀ d ∈ tables_1, d.before a0 Z = true) (ws : List Jvm.Cond) (o : Addr) (q : Addr) (va : Value) (vb : Value) (vc : Value) (wa : Value) (wb : Value) (wc : Value) (w : Int32) (u : Int32) (n0 : Nat) (h0 : Heap) (hn : n0 ≤ h0.size) (H0 : Exa Z h0 o "com/example/shoal_creek/shoalcreek/MatchedSuffixes") (H1 : Exa Z h0 q "com/example/shoal_creek/shoalcreek/MatchedSuffixes") (H2 : Fld Z h0 o "com/example/shoal_creek/shoalcreek/MatchedSuffixes" "ends" "[I" va) (H3 : Fld Z h0 o "com/example/shoal_creek/shoalcreek/MatchedSuffixes" "lengths" "[I" vb) (H4 : Fld Z h0 o "com/example/shoal_creek/shoalcreek/MatchedSuffixes" "differings" "[I" vc) (H5 : Fld Z h0 o "com/example/shoal_creek/shoalcreek/MatchedSuffixes" "newestEnd" "I" (.int w)) (H6 : Fld Z h0 q "com/example/shoal_creek/shoalcreek/MatchedSuffixes" "ends" "[I" wa) (H7 : Fld Z h0 q "com/example/shoal_creek/shoalcreek/MatchedSuffixes" "lengths" "[I" wb) (H8 : Fld Z h0 q "com/example/shoal_creek/shoalcreek/MatchedSuffixes" "differings" "[I" wc) (H9 : Fld Z h0 q "com/example/shoal_creek/shoalcreek/MatchedSuffixes" "newestEnd" "I" (.int u)) (H10 : n0 ≤ o) (H11 : n0 ≤ q) (H12 : o ≠ q) (hr_va : va.isRef = true) (hr_vb : vb.isRef = true) (hr_vc : vc.isRef = true) (hr_wa : wa.isRef = true) (hr_wb : wb.isRef = true) (hr_wc : wc.isRef = true) :
    Con l Z (⟨"com/example/shoal_creek/shoalcreek/MatchedSuffixes", "swap", "(Lcom/example/shoal_creek/shoalcreek/MatchedSuffixes;)V"⟩ : MethodName) prog_18_method_15_code 6 none ws RrmSw #[(.ref o), (.ref q)] h0 n0 (QrmSw Z o q va vb vc wa wb wc w u n0 h0) := by
  refine body (y := (⟨"com/example/shoal_creek/shoalcreek/MatchedSuffixes", "swap", "(Lcom/example/shoal_creek/shoalcreek/MatchedSuffixes;)V"⟩ : MethodName)) (Ls := #[.val (.ref o), .val (.ref q), .unset, .unset, .unset, .unset]) (plainFor_of_name pn0) hn (fun m => ef_rmSw m o q) ?_
  intro p e s m below meth c T0 hx hby hml hown hnm hret hlk hZ X0
  refine i_aloadN (v := (.ref q)) (pc' := 1) X0 hx (hb hby d9_0) rfl rfl rfl ?_
  refine gf (pc' := 4) (host := "") X0 hx hZ hown (Or.inl (hw _ (List.mem_of_getElem? (i := 35) rfl))) Via.refl H6 (hb hby d9_1) rfl fun T1 X1 => ?_
  refine i_astoreN (L' := #[.val (.ref o), .val (.ref q), .val wa, .unset, .unset, .unset]) (pc' := 5) X1 hx (hb hby d9_4) rfl hr_wa (XS.store1 (o := .unset) rfl One.u (XT.cat1 hr_wa)) ?_
  refine i_aloadN (v := (.ref q)) (pc' := 6) X1 hx (hb hby d9_5) rfl rfl rfl ?_
  refine gf (pc' := 9) (host := "") X1 hx hZ hown (Or.inl (hw _ (List.mem_of_getElem? (i := 38) rfl))) Via.refl H7 (hb hby d9_6) rfl fun T2 X2 => ?_
  refine i_astoreN (L' := #[.val (.ref o), .val (.ref q), .val wa, .val wb, .unset, .unset]) (pc' := 10) X2 hx (hb hby d9_9) rfl hr_wb (XS.store1 (o := .unset) rfl One.u (XT.cat1 hr_wb)) ?_
  refine i_aloadN (v := (.ref q)) (pc' := 11) X2 hx (hb hby d9_10) rfl rfl rfl ?_
  refine gf (pc' := 14) (host := "") X2 hx hZ hown (Or.inl (hw _ (List.mem_of_getElem? (i := 40) rfl))) Via.refl H8 (hb hby d9_11) rfl fun T3 X3 => ?_
  refine i_astore (L' := #[.val (.ref o), .val (.ref q), .val wa, .val wb, .val wc, .unset]) (pc' := 16) X3 hx (hb hby d9_14) rfl hr_wc (XS.store1 (o := .unset) rfl One.u (XT.cat1 hr_wc)) ?_
  refine i_aloadN (v := (.ref q)) (pc' := 17) X3 hx (hb hby d9_16) rfl rfl rfl ?_
  refine gf (pc' := 20) (host := "") X3 hx hZ hown (Or.inl (hw _ (List.mem_of_getElem? (i := 11) rfl))) Via.refl H9 (hb hby d9_17) rfl fun T4 X4 => ?_
  refine i_istore (L' := #[.val (.ref o), .val (.ref q), .val wa, .val wb, .val wc, .val (.int u)]) (pc' := 22) X4 hx (hb hby d9_20) rfl rfl ?_
  refine i_aloadN (v := (.ref q)) (pc' := 23) X4 hx (hb hby d9_22) rfl rfl rfl ?_
  refine i_aloadN (v := (.ref o)) (pc' := 24) X4 hx (hb hby d9_23) rfl rfl rfl ?_
  refine gf (pc' := 27) (host := "") X4 hx hZ hown (Or.inl (hw _ (List.mem_of_getElem? (i := 35) rfl))) Via.refl H2 (hb hby d9_24) rfl fun T5 X5 => ?_
  refine pf (pc' := 30) (host := "") (ty := (.array .int)) X5 hx hZ hown (Or.inl (hw _ (List.mem_of_getElem? (i := 35) rfl))) Via.refl H6 H1 (Or.inl (hw _ (List.mem_of_getElem? (i := 36) rfl))) (hw _ (List.mem_of_getElem? (i := 3) rfl)) (by decide) (own_nar hr_va) (own_fitA hr_va) H11 (hb hby d9_27) rfl fun T6 h6 X6 W6 => ?_
  refine i_aloadN (v := (.ref q)) (pc' := 31) X6 hx (hb hby d9_30) rfl rfl rfl ?_
  refine i_aloadN (v := (.ref o)) (pc' := 32) X6 hx (hb hby d9_31) rfl rfl rfl ?_
  have F7 : Fld Z h6 o "com/example/shoal_creek/shoalcreek/MatchedSuffixes" "lengths" "[I" vb := (Jvm.RoadKit.Fld.other W6 H3 (Or.inl H12))
  refine gf (pc' := 35) (host := "") X6 hx hZ hown (Or.inl (hw _ (List.mem_of_getElem? (i := 38) rfl))) Via.refl F7 (hb hby d9_32) rfl fun T8 X8 => ?_
  have F9 : Fld Z h6 q "com/example/shoal_creek/shoalcreek/MatchedSuffixes" "lengths" "[I" wb := (Jvm.RoadKit.Fld.other W6 H7 (Or.inr (slot_ne (a0 := a0) (Or.inl (hw _ (List.mem_of_getElem? (i := 39) rfl))) (Or.inl (hw _ (List.mem_of_getElem? (i := 36) rfl))) (by decide) (t := (.array .int)) (t' := (.array .int)) (by decide) (by decide))))
  have F10 : Exa Z h6 q "com/example/shoal_creek/shoalcreek/MatchedSuffixes" := (Jvm.RoadKit.Exa.wr W6 H1)
  refine pf (pc' := 38) (host := "") (ty := (.array .int)) X8 hx hZ hown (Or.inl (hw _ (List.mem_of_getElem? (i := 38) rfl))) Via.refl F9 F10 (Or.inl (hw _ (List.mem_of_getElem? (i := 39) rfl))) (hw _ (List.mem_of_getElem? (i := 3) rfl)) (by decide) (own_nar hr_vb) (own_fitA hr_vb) H11 (hb hby d9_35) rfl fun T11 h11 X11 W11 => ?_
  refine i_aloadN (v := (.ref q)) (pc' := 39) X11 hx (hb hby d9_38) rfl rfl rfl ?_
  refine i_aloadN (v := (.ref o)) (pc' := 40) X11 hx (hb hby d9_39) rfl rfl rfl ?_
  have F12 : Fld Z h11 o "com/example/shoal_creek/shoalcreek/MatchedSuffixes" "differings" "[I" vc := (Jvm.RoadKit.Fld.other W11 (Jvm.RoadKit.Fld.other W6 H4 (Or.inl H12)) (Or.inl H12))
  refine gf (pc' := 43) (host := "") X11 hx hZ hown (Or.inl (hw _ (List.mem_of_getElem? (i := 40) rfl))) Via.refl F12 (hb hby d9_40) rfl fun T13 X13 => ?_
  have F14 : Fld Z h11 q "com/example/shoal_creek/shoalcreek/MatchedSuffixes" "differings" "[I" wc := (Jvm.RoadKit.Fld.other W11 (Jvm.RoadKit.Fld.other W6 H8 (Or.inr (slot_ne (a0 := a0) (Or.inl (hw _ (List.mem_of_getElem? (i := 41) rfl))) (Or.inl (hw _ (List.mem_of_getElem? (i := 36) rfl))) (by decide) (t := (.array .int)) (t' := (.array .int)) (by decide) (by decide)))) (Or.inr (slot_ne (a0 := a0) (Or.inl (hw _ (List.mem_of_getElem? (i := 41) rfl))) (Or.inl (hw _ (List.mem_of_getElem? (i := 39) rfl))) (by decide) (t := (.array .int)) (t' := (.array .int)) (by decide) (by decide))))
  have F15 : Exa Z h11 q "com/example/shoal_creek/shoalcreek/MatchedSuffixes" := (Jvm.RoadKit.Exa.wr W11 F10)
  refine pf (pc' := 46) (host := "") (ty := (.array .int)) X13 hx hZ hown (Or.inl (hw _ (List.mem_of_getElem? (i := 40) rfl))) Via.refl F14 F15 (Or.inl (hw _ (List.mem_of_getElem? (i := 41) rfl))) (hw _ (List.mem_of_getElem? (i := 3) rfl)) (by decide) (own_nar hr_vc) (own_fitA hr_vc) H11 (hb hby d9_43) rfl fun T16 h16 X16 W16 => ?_
  refine i_aloadN (v := (.ref q)) (pc' := 47) X16 hx (hb hby d9_46) rfl rfl rfl ?_
  refine i_aloadN (v := (.ref o)) (pc' := 48) X16 hx (hb hby d9_47) rfl rfl rfl ?_
  have F17 : Fld Z h16 o "com/example/shoal_creek/shoalcreek/MatchedSuffixes" "newestEnd" "I" (.int w) := (Jvm.RoadKit.Fld.other W16 (Jvm.RoadKit.Fld.other W11 (Jvm.RoadKit.Fld.other W6 H5 (Or.inl H12)) (Or.inl H12)) (Or.inl H12))
  refine gf (pc' := 51) (host := "") X16 hx hZ hown (Or.inl (hw _ (List.mem_of_getElem? (i := 11) rfl))) Via.refl F17 (hb hby d9_48) rfl fun T18 X18 => ?_
  have F19 : Fld Z h16 q "com/example/shoal_creek/shoalcreek/MatchedSuffixes" "newestEnd" "I" (.int u) := (Jvm.RoadKit.Fld.other W16 (Jvm.RoadKit.Fld.other W11 (Jvm.RoadKit.Fld.other W6 H9 (Or.inr (slot_ne (a0 := a0) (Or.inl (hw _ (List.mem_of_getElem? (i := 12) rfl))) (Or.inl (hw _ (List.mem_of_getElem? (i := 36) rfl))) (by decide) (t := .int) (t' := (.array .int)) (by decide) (by decide)))) (Or.inr (slot_ne (a0 := a0) (Or.inl (hw _ (List.mem_of_getElem? (i := 12) rfl))) (Or.inl (hw _ (List.mem_of_getElem? (i := 39) rfl))) (by decide) (t := .int) (t' := (.array .int)) (by decide) (by decide)))) (Or.inr (slot_ne (a0 := a0) (Or.inl (hw _ (List.mem_of_getElem? (i := 12) rfl))) (Or.inl (hw _ (List.mem_of_getElem? (i := 41) rfl))) (by decide) (t := .int) (t' := (.array .int)) (by decide) (by decide))))
  have F20 : Exa Z h16 q "com/example/shoal_creek/shoalcreek/MatchedSuffixes" := (Jvm.RoadKit.Exa.wr W16 F15)
  refine pf (pc' := 54) (host := "") (ty := .int) X18 hx hZ hown (Or.inl (hw _ (List.mem_of_getElem? (i := 11) rfl))) Via.refl F19 F20 (Or.inl (hw _ (List.mem_of_getElem? (i := 12) rfl))) (hw _ (List.mem_of_getElem? (i := 3) rfl)) (by decide) rfl rfl H11 (hb hby d9_51) rfl fun T21 h21 X21 W21 => ?_
  refine i_aloadN (v := (.ref o)) (pc' := 55) X21 hx (hb hby d9_54) rfl rfl rfl ?_
  refine i_aloadN (v := wa) (pc' := 56) X21 hx (hb hby d9_55) rfl rfl hr_wa ?_
  have F22 : Fld Z h21 o "com/example/shoal_creek/shoalcreek/MatchedSuffixes" "ends" "[I" va := (Jvm.RoadKit.Fld.other W21 (Jvm.RoadKit.Fld.other W16 (Jvm.RoadKit.Fld.other W11 (Jvm.RoadKit.Fld.other W6 H2 (Or.inl H12)) (Or.inl H12)) (Or.inl H12)) (Or.inl H12))
  have F23 : Exa Z h21 o "com/example/shoal_creek/shoalcreek/MatchedSuffixes" := (Jvm.RoadKit.Exa.wr W21 (Jvm.RoadKit.Exa.wr W16 (Jvm.RoadKit.Exa.wr W11 (Jvm.RoadKit.Exa.wr W6 H0))))
  refine pf (pc' := 59) (host := "") (ty := (.array .int)) X21 hx hZ hown (Or.inl (hw _ (List.mem_of_getElem? (i := 35) rfl))) Via.refl F22 F23 (Or.inl (hw _ (List.mem_of_getElem? (i := 36) rfl))) (hw _ (List.mem_of_getElem? (i := 3) rfl)) (by decide) (own_nar hr_wa) (own_fitA hr_wa) H10 (hb hby d9_56) rfl fun T24 h24 X24 W24 => ?_
  refine i_aloadN (v := (.ref o)) (pc' := 60) X24 hx (hb hby d9_59) rfl rfl rfl ?_
  refine i_aloadN (v := wb) (pc' := 61) X24 hx (hb hby d9_60) rfl rfl hr_wb ?_
  have F25 : Fld Z h24 o "com/example/shoal_creek/shoalcreek/MatchedSuffixes" "lengths" "[I" vb := (Jvm.RoadKit.Fld.other W24 (Jvm.RoadKit.Fld.other W21 (Jvm.RoadKit.Fld.other W16 (Jvm.RoadKit.Fld.other W11 F7 (Or.inl H12)) (Or.inl H12)) (Or.inl H12)) (Or.inr (slot_ne (a0 := a0) (Or.inl (hw _ (List.mem_of_getElem? (i := 39) rfl))) (Or.inl (hw _ (List.mem_of_getElem? (i := 36) rfl))) (by decide) (t := (.array .int)) (t' := (.array .int)) (by decide) (by decide))))
  have F26 : Exa Z h24 o "com/example/shoal_creek/shoalcreek/MatchedSuffixes" := (Jvm.RoadKit.Exa.wr W24 F23)
  refine pf (pc' := 64) (host := "") (ty := (.array .int)) X24 hx hZ hown (Or.inl (hw _ (List.mem_of_getElem? (i := 38) rfl))) Via.refl F25 F26 (Or.inl (hw _ (List.mem_of_getElem? (i := 39) rfl))) (hw _ (List.mem_of_getElem? (i := 3) rfl)) (by decide) (own_nar hr_wb) (own_fitA hr_wb) H10 (hb hby d9_61) rfl fun T27 h27 X27 W27 => ?_
  refine i_aloadN (v := (.ref o)) (pc' := 65) X27 hx (hb hby d9_64) rfl rfl rfl ?_
  refine i_aload (v := wc) (pc' := 67) X27 hx (hb hby d9_65) rfl rfl hr_wc ?_
  have F28 : Fld Z h27 o "com/example/shoal_creek/shoalcreek/MatchedSuffixes" "differings" "[I" vc := (Jvm.RoadKit.Fld.other W27 (Jvm.RoadKit.Fld.other W24 (Jvm.RoadKit.Fld.other W21 (Jvm.RoadKit.Fld.other W16 F12 (Or.inl H12)) (Or.inl H12)) (Or.inr (slot_ne (a0 := a0) (Or.inl (hw _ (List.mem_of_getElem? (i := 41) rfl))) (Or.inl (hw _ (List.mem_of_getElem? (i := 36) rfl))) (by decide) (t := (.array .int)) (t' := (.array .int)) (by decide) (by decide)))) (Or.inr (slot_ne (a0 := a0) (Or.inl (hw _ (List.mem_of_getElem? (i := 41) rfl))) (Or.inl (hw _ (List.mem_of_getElem? (i := 39) rfl))) (by decide) (t := (.array .int)) (t' := (.array .int)) (by decide) (by decide))))
  have F29 : Exa Z h27 o "com/example/shoal_creek/shoalcreek/MatchedSuffixes" := (Jvm.RoadKit.Exa.wr W27 F26)
  refine pf (pc' := 70) (host := "") (ty := (.array .int)) X27 hx hZ hown (Or.inl (hw _ (List.mem_of_getElem? (i := 40) rfl))) Via.refl F28 F29 (Or.inl (hw _ (List.mem_of_getElem? (i := 41) rfl))) (hw _ (List.mem_of_getElem? (i := 3) rfl)) (by decide) (own_nar hr_wc) (own_fitA hr_wc) H10 (hb hby d9_67) rfl fun T30 h30 X30 W30 => ?_
  refine i_aloadN (v := (.ref o)) (pc' := 71) X30 hx (hb hby d9_70) rfl rfl rfl ?_
  refine i_iload (v := u) (pc' := 73) X30 hx (hb hby d9_71) rfl rfl ?_
  have F31 : Fld Z h30 o "com/example/shoal_creek/shoalcreek/MatchedSuffixes" "newestEnd" "I" (.int w) := (Jvm.RoadKit.Fld.other W30 (Jvm.RoadKit.Fld.other W27 (Jvm.RoadKit.Fld.other W24 (Jvm.RoadKit.Fld.other W21 F17 (Or.inl H12)) (Or.inr (slot_ne (a0 := a0) (Or.inl (hw _ (List.mem_of_getElem? (i := 12) rfl))) (Or.inl (hw _ (List.mem_of_getElem? (i := 36) rfl))) (by decide) (t := .int) (t' := (.array .int)) (by decide) (by decide)))) (Or.inr (slot_ne (a0 := a0) (Or.inl (hw _ (List.mem_of_getElem? (i := 12) rfl))) (Or.inl (hw _ (List.mem_of_getElem? (i := 39) rfl))) (by decide) (t := .int) (t' := (.array .int)) (by decide) (by decide)))) (Or.inr (slot_ne (a0 := a0) (Or.inl (hw _ (List.mem_of_getElem? (i := 12) rfl))) (Or.inl (hw _ (List.mem_of_getElem? (i := 41) rfl))) (by decide) (t := .int) (t' := (.array .int)) (by decide) (by decide))))
  have F32 : Exa Z h30 o "com/example/shoal_creek/shoalcreek/MatchedSuffixes" := (Jvm.RoadKit.Exa.wr W30 F29)
  refine pf (pc' := 76) (host := "") (ty := .int) X30 hx hZ hown (Or.inl (hw _ (List.mem_of_getElem? (i := 11) rfl))) Via.refl F31 F32 (Or.inl (hw _ (List.mem_of_getElem? (i := 12) rfl))) (hw _ (List.mem_of_getElem? (i := 3) rfl)) (by decide) rfl rfl H10 (hb hby d9_73) rfl fun T33 h33 X33 W33 => ?_
  refine rV X33 hx hlk hret (hb hby d9_76) (by decide) (by decide) ?_
  have F34 : Fld Z h33 o "com/example/shoal_creek/shoalcreek/MatchedSuffixes" "ends" "[I" wa := (Jvm.RoadKit.Fld.other W33 (Jvm.RoadKit.Fld.other W30 (Jvm.RoadKit.Fld.other W27 (Jvm.RoadKit.Fld.same W24 F22) (Or.inr (slot_ne (a0 := a0) (Or.inl (hw _ (List.mem_of_getElem? (i := 36) rfl))) (Or.inl (hw _ (List.mem_of_getElem? (i := 39) rfl))) (by decide) (t := (.array .int)) (t' := (.array .int)) (by decide) (by decide)))) (Or.inr (slot_ne (a0 := a0) (Or.inl (hw _ (List.mem_of_getElem? (i := 36) rfl))) (Or.inl (hw _ (List.mem_of_getElem? (i := 41) rfl))) (by decide) (t := (.array .int)) (t' := (.array .int)) (by decide) (by decide)))) (Or.inr (slot_ne (a0 := a0) (Or.inl (hw _ (List.mem_of_getElem? (i := 36) rfl))) (Or.inl (hw _ (List.mem_of_getElem? (i := 12) rfl))) (by decide) (t := (.array .int)) (t' := .int) (by decide) (by decide))))
  have F35 : Fld Z h33 o "com/example/shoal_creek/shoalcreek/MatchedSuffixes" "lengths" "[I" wb := (Jvm.RoadKit.Fld.other W33 (Jvm.RoadKit.Fld.other W30 (Jvm.RoadKit.Fld.same W27 F25) (Or.inr (slot_ne (a0 := a0) (Or.inl (hw _ (List.mem_of_getElem? (i := 39) rfl))) (Or.inl (hw _ (List.mem_of_getElem? (i := 41) rfl))) (by decide) (t := (.array .int)) (t' := (.array .int)) (by decide) (by decide)))) (Or.inr (slot_ne (a0 := a0) (Or.inl (hw _ (List.mem_of_getElem? (i := 39) rfl))) (Or.inl (hw _ (List.mem_of_getElem? (i := 12) rfl))) (by decide) (t := (.array .int)) (t' := .int) (by decide) (by decide))))
  have F36 : Fld Z h33 o "com/example/shoal_creek/shoalcreek/MatchedSuffixes" "differings" "[I" wc := (Jvm.RoadKit.Fld.other W33 (Jvm.RoadKit.Fld.same W30 F28) (Or.inr (slot_ne (a0 := a0) (Or.inl (hw _ (List.mem_of_getElem? (i := 41) rfl))) (Or.inl (hw _ (List.mem_of_getElem? (i := 12) rfl))) (by decide) (t := (.array .int)) (t' := .int) (by decide) (by decide))))
  have F37 : Fld Z h33 o "com/example/shoal_creek/shoalcreek/MatchedSuffixes" "newestEnd" "I" (.int u) := (Jvm.RoadKit.Fld.same W33 F31)
  have F38 : Fld Z h33 q "com/example/shoal_creek/shoalcreek/MatchedSuffixes" "ends" "[I" va := (Jvm.RoadKit.Fld.other W33 (Jvm.RoadKit.Fld.other W30 (Jvm.RoadKit.Fld.other W27 (Jvm.RoadKit.Fld.other W24 (Jvm.RoadKit.Fld.other W21 (Jvm.RoadKit.Fld.other W16 (Jvm.RoadKit.Fld.other W11 (Jvm.RoadKit.Fld.same W6 H6) (Or.inr (slot_ne (a0 := a0) (Or.inl (hw _ (List.mem_of_getElem? (i := 36) rfl))) (Or.inl (hw _ (List.mem_of_getElem? (i := 39) rfl))) (by decide) (t := (.array .int)) (t' := (.array .int)) (by decide) (by decide)))) (Or.inr (slot_ne (a0 := a0) (Or.inl (hw _ (List.mem_of_getElem? (i := 36) rfl))) (Or.inl (hw _ (List.mem_of_getElem? (i := 41) rfl))) (by decide) (t := (.array .int)) (t' := (.array .int)) (by decide) (by decide)))) (Or.inr (slot_ne (a0 := a0) (Or.inl (hw _ (List.mem_of_getElem? (i := 36) rfl))) (Or.inl (hw _ (List.mem_of_getElem? (i := 12) rfl))) (by decide) (t := (.array .int)) (t' := .int) (by decide) (by decide)))) (Or.inl (Ne.symm H12))) (Or.inl (Ne.symm H12))) (Or.inl (Ne.symm H12))) (Or.inl (Ne.symm H12)))
  have F39 : Fld Z h33 q "com/example/shoal_creek/shoalcreek/MatchedSuffixes" "lengths" "[I" vb := (Jvm.RoadKit.Fld.other W33 (Jvm.RoadKit.Fld.other W30 (Jvm.RoadKit.Fld.other W27 (Jvm.RoadKit.Fld.other W24 (Jvm.RoadKit.Fld.other W21 (Jvm.RoadKit.Fld.other W16 (Jvm.RoadKit.Fld.same W11 F9) (Or.inr (slot_ne (a0 := a0) (Or.inl (hw _ (List.mem_of_getElem? (i := 39) rfl))) (Or.inl (hw _ (List.mem_of_getElem? (i := 41) rfl))) (by decide) (t := (.array .int)) (t' := (.array .int)) (by decide) (by decide)))) (Or.inr (slot_ne (a0 := a0) (Or.inl (hw _ (List.mem_of_getElem? (i := 39) rfl))) (Or.inl (hw _ (List.mem_of_getElem? (i := 12) rfl))) (by decide) (t := (.array .int)) (t' := .int) (by decide) (by decide)))) (Or.inl (Ne.symm H12))) (Or.inl (Ne.symm H12))) (Or.inl (Ne.symm H12))) (Or.inl (Ne.symm H12)))
  have F40 : Fld Z h33 q "com/example/shoal_creek/shoalcreek/MatchedSuffixes" "differings" "[I" vc := (Jvm.RoadKit.Fld.other W33 (Jvm.RoadKit.Fld.other W30 (Jvm.RoadKit.Fld.other W27 (Jvm.RoadKit.Fld.other W24 (Jvm.RoadKit.Fld.other W21 (Jvm.RoadKit.Fld.same W16 F14) (Or.inr (slot_ne (a0 := a0) (Or.inl (hw _ (List.mem_of_getElem? (i := 41) rfl))) (Or.inl (hw _ (List.mem_of_getElem? (i := 12) rfl))) (by decide) (t := (.array .int)) (t' := .int) (by decide) (by decide)))) (Or.inl (Ne.symm H12))) (Or.inl (Ne.symm H12))) (Or.inl (Ne.symm H12))) (Or.inl (Ne.symm H12)))
  have F41 : Fld Z h33 q "com/example/shoal_creek/shoalcreek/MatchedSuffixes" "newestEnd" "I" (.int w) := (Jvm.RoadKit.Fld.other W33 (Jvm.RoadKit.Fld.other W30 (Jvm.RoadKit.Fld.other W27 (Jvm.RoadKit.Fld.other W24 (Jvm.RoadKit.Fld.same W21 F19) (Or.inl (Ne.symm H12))) (Or.inl (Ne.symm H12))) (Or.inl (Ne.symm H12))) (Or.inl (Ne.symm H12)))
  exact ⟨rfl, (((((((((Keep.refl h0 _).wr W6 (Or.inl (List.mem_of_getElem? (i := 1) rfl))).wr W11 (Or.inl (List.mem_of_getElem? (i := 1) rfl))).wr W16 (Or.inl (List.mem_of_getElem? (i := 1) rfl))).wr W21 (Or.inl (List.mem_of_getElem? (i := 1) rfl))).wr W24 (Or.inl (List.mem_of_getElem? (i := 0) rfl))).wr W27 (Or.inl (List.mem_of_getElem? (i := 0) rfl))).wr W30 (Or.inl (List.mem_of_getElem? (i := 0) rfl))).wr W33 (Or.inl (List.mem_of_getElem? (i := 0) rfl))), F34, F35, F36, F37, F38, F39, F40, F41⟩
theorem d10_0 : decode method_3_code 0 = .ok (.aload_n 0, 1) := by decide +kernel
theorem d10_1 : decode method_3_code 1 = .ok (.invokevirtual 20, 3) := by decide +kernel
theorem d10_4 : decode method_3_code 4 = .ok (.iload_n 1, 1) := by decide +kernel
theorem d10_5 : decode method_3_code 5 = .ok (.ifCond .eq 7, 3) := by decide +kernel
theorem d10_8 : decode method_3_code 8 = .ok (.iload_n 2, 1) := by decide +kernel
theorem d10_9 : decode method_3_code 9 = .ok (.goto 4, 3) := by decide +kernel
theorem d10_12 : decode method_3_code 12 = .ok (.iconst (-1), 1) := by decide +kernel
theorem d10_13 : decode method_3_code 13 = .ok (.if_icmp .eq 5, 3) := by decide +kernel
theorem d10_16 : decode method_3_code 16 = .ok (.iconst 0, 1) := by decide +kernel
theorem d10_17 : decode method_3_code 17 = .ok (.ireturn, 1) := by decide +kernel
theorem d10_18 : decode method_3_code 18 = .ok (.aload_n 0, 1) := by decide +kernel
theorem d10_19 : decode method_3_code 19 = .ok (.iload_n 2, 1) := by decide +kernel
theorem d10_20 : decode method_3_code 20 = .ok (.invokevirtual 24, 3) := by decide +kernel
theorem d10_23 : decode method_3_code 23 = .ok (.iload_n 1, 1) := by decide +kernel
theorem d10_24 : decode method_3_code 24 = .ok (.ifCond .eq 7, 3) := by decide +kernel
theorem d10_27 : decode method_3_code 27 = .ok (.iload_n 3, 1) := by decide +kernel
theorem d10_28 : decode method_3_code 28 = .ok (.goto 4, 3) := by decide +kernel
theorem d10_31 : decode method_3_code 31 = .ok (.iconst 0, 1) := by decide +kernel
theorem d10_32 : decode method_3_code 32 = .ok (.if_icmp .eq 5, 3) := by decide +kernel
theorem d10_35 : decode method_3_code 35 = .ok (.iconst 0, 1) := by decide +kernel
theorem d10_36 : decode method_3_code 36 = .ok (.ireturn, 1) := by decide +kernel
theorem d10_37 : decode method_3_code 37 = .ok (.iload_n 1, 1) := by decide +kernel
theorem d10_38 : decode method_3_code 38 = .ok (.ifCond .eq 15, 3) := by decide +kernel
theorem d10_41 : decode method_3_code 41 = .ok (.aload_n 0, 1) := by decide +kernel
theorem d10_42 : decode method_3_code 42 = .ok (.iload_n 2, 1) := by decide +kernel
theorem d10_43 : decode method_3_code 43 = .ok (.invokevirtual 28, 3) := by decide +kernel
theorem d10_46 : decode method_3_code 46 = .ok (.iload 4, 2) := by decide +kernel
theorem d10_48 : decode method_3_code 48 = .ok (.if_icmp .eq 5, 3) := by decide +kernel
theorem d10_51 : decode method_3_code 51 = .ok (.iconst 0, 1) := by decide +kernel
theorem d10_52 : decode method_3_code 52 = .ok (.ireturn, 1) := by decide +kernel
theorem d10_53 : decode method_3_code 53 = .ok (.iload_n 1, 1) := by decide +kernel
theorem d10_54 : decode method_3_code 54 = .ok (.ifCond .eq 13, 3) := by decide +kernel
theorem d10_57 : decode method_3_code 57 = .ok (.iload 5, 2) := by decide +kernel
theorem d10_59 : decode method_3_code 59 = .ok (.iload_n 2, 1) := by decide +kernel
theorem d10_60 : decode method_3_code 60 = .ok (.if_icmp .ne 7, 3) := by decide +kernel
theorem d10_63 : decode method_3_code 63 = .ok (.iload_n 3, 1) := by decide +kernel
theorem d10_64 : decode method_3_code 64 = .ok (.goto 4, 3) := by decide +kernel
theorem d10_67 : decode method_3_code 67 = .ok (.iconst 0, 1) := by decide +kernel
theorem d10_68 : decode method_3_code 68 = .ok (.istore 6, 2) := by decide +kernel
theorem d10_70 : decode method_3_code 70 = .ok (.aload_n 0, 1) := by decide +kernel
theorem d10_71 : decode method_3_code 71 = .ok (.iload 5, 2) := by decide +kernel
theorem d10_73 : decode method_3_code 73 = .ok (.invokevirtual 24, 3) := by decide +kernel
theorem d10_76 : decode method_3_code 76 = .ok (.iload 6, 2) := by decide +kernel
theorem d10_78 : decode method_3_code 78 = .ok (.if_icmp .ne 7, 3) := by decide +kernel
theorem d10_81 : decode method_3_code 81 = .ok (.iconst 1, 1) := by decide +kernel
theorem d10_82 : decode method_3_code 82 = .ok (.goto 4, 3) := by decide +kernel
theorem d10_85 : decode method_3_code 85 = .ok (.iconst 0, 1) := by decide +kernel
theorem d10_86 : decode method_3_code 86 = .ok (.ireturn, 1) := by decide +kernel
theorem ef_rmC0 (m : MethodId) (o : Addr) (kp : Int32) (x : Int32) (y : Int32) (dd : Int32) (ow : Int32) : entryFrame m #[(.ref o), (.int kp), (.int x), (.int y), (.int dd), (.int ow)] 7 = mkF m 0 #[.val (.ref o), .val (.int kp), .val (.int x), .val (.int y), .val (.int dd), .val (.int ow), .unset] [] := by first | (simp [entryFrame, mkF, argsToLocals, Value.category, maxLocals]; done) | rfl
def QrmC0 (Z : State) (o : Addr) (kp : Int32) (x : Int32) (y : Int32) (dd : Int32) (ow : Int32) (n0 : Nat) (h0 : Heap) (rv : Option Value) (h : Heap) : Prop := rv = some (.int (1 : Int32)) ∧ h0 = h
theorem pd4 : parseMethodDescriptor "()I" = some ⟨[], some .int⟩ := by decide +kernel
theorem pd5 : parseMethodDescriptor "(I)I" = some ⟨[.int], some .int⟩ := by decide +kernel
abbrev RrmC0 : Room := { frames := 1, cells := 0, slots := 0, locals := 14 }
set_option maxRecDepth 65536 in
set_option maxHeartbeats 40000000 in
theorem rmC0 (l : Launch) (Z : State) (a0 : Array Value) (hw : ∀ d ∈ tables_1, d.before a0 Z = true) (ws : List Jvm.Cond) (o : Addr) (kp : Int32) (x : Int32) (y : Int32) (dd : Int32) (ow : Int32) (n0 : Nat) (h0 : Heap) (hn : n0 ≤ h0.size) (H0 : Exa Z h0 o "com/example/shoal_creek/shoalcreek/MatchedSuffixes") (H1 : Fld Z h0 o "com/example/shoal_creek/shoalcreek/MatchedSuffixes" "newestEnd" "I" (.int (-1 : Int32))) (hkp : kp = 0) (hx0 : (-1 : Int32) < x) (ho0 : (-1 : Int32) < ow) :
    Con l Z (⟨"com/example/shoal_creek/shoalcreek/MatchedSuffixesSwapPinLaw", "check", "(Lcom/example/shoal_creek/shoalcreek/MatchedSuffixes;ZIIII)Z"⟩ : MethodName) method_3_code 7 (some .boolean) ws RrmC0 #[(.ref o), (.int kp), (.int x), (.int y), (.int dd), (.int ow)] h0 n0 (QrmC0 Z o kp x y dd ow n0 h0) := by
  refine body (y := (⟨"com/example/shoal_creek/shoalcreek/MatchedSuffixesSwapPinLaw", "check", "(Lcom/example/shoal_creek/shoalcreek/MatchedSuffixes;ZIIII)Z"⟩ : MethodName)) (Ls := #[.val (.ref o), .val (.int kp), .val (.int x), .val (.int y), .val (.int dd), .val (.int ow), .unset]) (plainFor_of_name pn1) hn (fun m => ef_rmC0 m o kp x y dd ow) ?_
  intro p e s m below meth c T0 hx hby hml hown hnm hret hlk hZ X0
  refine i_aloadN (v := (.ref o)) (pc' := 1) X0 hx (hb hby d10_0) rfl rfl rfl ?_
  refine cV (y := (⟨"com/example/shoal_creek/shoalcreek/MatchedSuffixes", "newestEnd", "()I"⟩ : MethodName)) (C := "com/example/shoal_creek/shoalcreek/MatchedSuffixes") (rest := []) (pc' := 4) 0 [] X0 hx hZ hown (hw _ (List.mem_of_getElem? (i := 59) rfl)) (hw _ (List.mem_of_getElem? (i := 60) rfl)) (hw _ (List.mem_of_getElem? (i := 62) rfl)) (hw _ (List.mem_of_getElem? (i := 61) rfl)) (hw _ (List.mem_of_getElem? (i := 4) rfl)) (hw _ (List.mem_of_getElem? (i := 63) rfl)) (by decide) H0 (rmNE l Z a0 hw [] o (-1 : Int32) n0 h0 X0.le H1) (by decide) (by decide) (by rw [hml]; rfl) rfl (lenOf pd4 rfl) rfl (Nat.le_of_eq rfl) (hb hby d10_1) rfl (by decide) (by decide) ?_
  intro r1 T1 h1 X1 q1
  obtain ⟨rfl, eh1⟩ := q1
  subst eh1
  show Go _ _ _ _ _ _ _ T1 (mkF m 4 #[.val (.ref o), .val (.int kp), .val (.int x), .val (.int y), .val (.int dd), .val (.int ow), .unset] [(.int (-1 : Int32))])
  refine i_iloadN (v := kp) (pc' := 5) X1 hx (hb hby d10_4) rfl rfl ?_
  refine i_ifT (pc' := 12) X1 hx (hb hby d10_5) (XT.i0_eq_t hkp) (by decide) (by decide) ?_
  refine i_iconst (pc' := 13) (-1 : Int32) X1 hx (hb hby d10_12) rfl (by decide) ?_
  refine i_icT (pc' := 18) X1 hx (hb hby d10_13) (XT.ii_eq_t (by decide)) (by decide) (by decide) ?_
  refine i_aloadN (v := (.ref o)) (pc' := 19) X1 hx (hb hby d10_18) rfl rfl rfl ?_
  refine i_iloadN (v := x) (pc' := 20) X1 hx (hb hby d10_19) rfl rfl ?_
  refine cV (y := (⟨"com/example/shoal_creek/shoalcreek/MatchedSuffixes", "lengthEndingAt", "(I)I"⟩ : MethodName)) (C := "com/example/shoal_creek/shoalcreek/MatchedSuffixes") (rest := []) (pc' := 23) 0 [(.int x)] X1 hx hZ hown (hw _ (List.mem_of_getElem? (i := 64) rfl)) (hw _ (List.mem_of_getElem? (i := 65) rfl)) (hw _ (List.mem_of_getElem? (i := 67) rfl)) (hw _ (List.mem_of_getElem? (i := 66) rfl)) (hw _ (List.mem_of_getElem? (i := 4) rfl)) (hw _ (List.mem_of_getElem? (i := 68) rfl)) (by decide) H0 (rmL0 l Z a0 hw [] o x (-1 : Int32) n0 h0 X1.le H1 hx0) (by decide) (by decide) (by rw [hml]; rfl) rfl (lenOf pd5 rfl) rfl (Nat.le_of_eq rfl) (hb hby d10_20) rfl (by decide) (by decide) ?_
  intro r2 T2 h2 X2 q2
  obtain ⟨rfl, eh2⟩ := q2
  subst eh2
  show Go _ _ _ _ _ _ _ T2 (mkF m 23 #[.val (.ref o), .val (.int kp), .val (.int x), .val (.int y), .val (.int dd), .val (.int ow), .unset] [(.int (0 : Int32))])
  refine i_iloadN (v := kp) (pc' := 24) X2 hx (hb hby d10_23) rfl rfl ?_
  refine i_ifT (pc' := 31) X2 hx (hb hby d10_24) (XT.i0_eq_t hkp) (by decide) (by decide) ?_
  refine i_iconst (pc' := 32) (0 : Int32) X2 hx (hb hby d10_31) rfl (by decide) ?_
  refine i_icT (pc' := 37) X2 hx (hb hby d10_32) (XT.ii_eq_t (by decide)) (by decide) (by decide) ?_
  refine i_iloadN (v := kp) (pc' := 38) X2 hx (hb hby d10_37) rfl rfl ?_
  refine i_ifT (pc' := 53) X2 hx (hb hby d10_38) (XT.i0_eq_t hkp) (by decide) (by decide) ?_
  refine i_iloadN (v := kp) (pc' := 54) X2 hx (hb hby d10_53) rfl rfl ?_
  refine i_ifT (pc' := 67) X2 hx (hb hby d10_54) (XT.i0_eq_t hkp) (by decide) (by decide) ?_
  refine i_iconst (pc' := 68) (0 : Int32) X2 hx (hb hby d10_67) rfl (by decide) ?_
  refine i_istore (L' := #[.val (.ref o), .val (.int kp), .val (.int x), .val (.int y), .val (.int dd), .val (.int ow), .val (.int (0 : Int32))]) (pc' := 70) X2 hx (hb hby d10_68) rfl rfl ?_
  refine i_aloadN (v := (.ref o)) (pc' := 71) X2 hx (hb hby d10_70) rfl rfl rfl ?_
  refine i_iload (v := ow) (pc' := 73) X2 hx (hb hby d10_71) rfl rfl ?_
  refine cV (y := (⟨"com/example/shoal_creek/shoalcreek/MatchedSuffixes", "lengthEndingAt", "(I)I"⟩ : MethodName)) (C := "com/example/shoal_creek/shoalcreek/MatchedSuffixes") (rest := []) (pc' := 76) 0 [(.int ow)] X2 hx hZ hown (hw _ (List.mem_of_getElem? (i := 64) rfl)) (hw _ (List.mem_of_getElem? (i := 65) rfl)) (hw _ (List.mem_of_getElem? (i := 67) rfl)) (hw _ (List.mem_of_getElem? (i := 66) rfl)) (hw _ (List.mem_of_getElem? (i := 4) rfl)) (hw _ (List.mem_of_getElem? (i := 68) rfl)) (by decide) H0 (rmL0 l Z a0 hw [] o ow (-1 : Int32) n0 h0 X2.le H1 ho0) (by decide) (by decide) (by rw [hml]; rfl) rfl (lenOf pd5 rfl) rfl (Nat.le_of_eq rfl) (hb hby d10_73) rfl (by decide) (by decide) ?_
  intro r3 T3 h3 X3 q3
  obtain ⟨rfl, eh3⟩ := q3
  subst eh3
  show Go _ _ _ _ _ _ _ T3 (mkF m 76 #[.val (.ref o), .val (.int kp), .val (.int x), .val (.int y), .val (.int dd), .val (.int ow), .val (.int (0 : Int32))] [(.int (0 : Int32))])
  refine i_iload (v := (0 : Int32)) (pc' := 78) X3 hx (hb hby d10_76) rfl rfl ?_
  refine i_icF (pc' := 81) X3 hx (hb hby d10_78) rfl (XT.ii_ne_f (by decide)) ?_
  refine i_iconst (pc' := 82) (1 : Int32) X3 hx (hb hby d10_81) rfl (by decide) ?_
  refine i_goto (pc' := 86) X3 hx (hb hby d10_82) (by decide) (by decide) ?_
  refine rN X3 hx hlk hret (by simp) (hb hby d10_86) (by decide) (by decide) ?_
  exact ⟨(by decide), rfl⟩
theorem ef_rmC1 (m : MethodId) (o : Addr) (kp : Int32) (x : Int32) (y : Int32) (dd : Int32) (ow : Int32) : entryFrame m #[(.ref o), (.int kp), (.int x), (.int y), (.int dd), (.int ow)] 7 = mkF m 0 #[.val (.ref o), .val (.int kp), .val (.int x), .val (.int y), .val (.int dd), .val (.int ow), .unset] [] := by first | (simp [entryFrame, mkF, argsToLocals, Value.category, maxLocals]; done) | rfl
def QrmC1 (Z : State) (o : Addr) (kp : Int32) (x : Int32) (y : Int32) (dd : Int32) (ow : Int32) (w : Int32) (aE : Addr) (aL : Addr) (aD : Addr) (N : Nat) (n0 : Nat) (h0 : Heap) (rv : Option Value) (h : Heap) : Prop := rv = some (.int (1 : Int32)) ∧ h0 = h
abbrev RrmC1 : Room := { frames := 1, cells := 0, slots := 0, locals := 14 }
set_option maxRecDepth 65536 in
set_option maxHeartbeats 40000000 in
theorem rmC1 (l : Launch) (Z : State) (a0 : Array Value) (hw : ∀ d ∈ tables_1, d.before a0 Z = true) (ws : List Jvm.Cond) (o : Addr) (kp : Int32) (x : Int32) (y : Int32) (dd : Int32) (ow : Int32) (w : Int32) (aE : Addr) (aL : Addr) (aD : Addr) (N : Nat) (n0 : Nat) (h0 : Heap) (hn : n0 ≤ h0.size) (H0 : Exa Z h0 o "com/example/shoal_creek/shoalcreek/MatchedSuffixes") (H1 : Fld Z h0 o "com/example/shoal_creek/shoalcreek/MatchedSuffixes" "newestEnd" "I" (.int w)) (H2 : Fld Z h0 o "com/example/shoal_creek/shoalcreek/MatchedSuffixes" "ends" "[I" (.ref aE)) (H3 : Fld Z h0 o "com/example/shoal_creek/shoalcreek/MatchedSuffixes" "lengths" "[I" (.ref aL)) (H4 : Fld Z h0 o "com/example/shoal_creek/shoalcreek/MatchedSuffixes" "differings" "[I" (.ref aD)) (H5 : Av Z h0 aE .int N (fun i => .int ((own_up own_zero (own_k x N) x) i))) (H6 : Av Z h0 aL .int N (fun i => .int ((own_up own_zero (own_k x N) y) i))) (H7 : Av Z h0 aD .int N (fun i => .int ((own_up own_zero (own_k x N) dd) i))) (hkp : ¬ kp = 0) (hwx : w = x) (hN : own_p2 N) :
    Con l Z (⟨"com/example/shoal_creek/shoalcreek/MatchedSuffixesSwapPinLaw", "check", "(Lcom/example/shoal_creek/shoalcreek/MatchedSuffixes;ZIIII)Z"⟩ : MethodName) method_3_code 7 (some .boolean) ws RrmC1 #[(.ref o), (.int kp), (.int x), (.int y), (.int dd), (.int ow)] h0 n0 (QrmC1 Z o kp x y dd ow w aE aL aD N n0 h0) := by
  refine body (y := (⟨"com/example/shoal_creek/shoalcreek/MatchedSuffixesSwapPinLaw", "check", "(Lcom/example/shoal_creek/shoalcreek/MatchedSuffixes;ZIIII)Z"⟩ : MethodName)) (Ls := #[.val (.ref o), .val (.int kp), .val (.int x), .val (.int y), .val (.int dd), .val (.int ow), .unset]) (plainFor_of_name pn1) hn (fun m => ef_rmC1 m o kp x y dd ow) ?_
  intro p e s m below meth c T0 hx hby hml hown hnm hret hlk hZ X0
  refine i_aloadN (v := (.ref o)) (pc' := 1) X0 hx (hb hby d10_0) rfl rfl rfl ?_
  refine cV (y := (⟨"com/example/shoal_creek/shoalcreek/MatchedSuffixes", "newestEnd", "()I"⟩ : MethodName)) (C := "com/example/shoal_creek/shoalcreek/MatchedSuffixes") (rest := []) (pc' := 4) 0 [] X0 hx hZ hown (hw _ (List.mem_of_getElem? (i := 59) rfl)) (hw _ (List.mem_of_getElem? (i := 60) rfl)) (hw _ (List.mem_of_getElem? (i := 62) rfl)) (hw _ (List.mem_of_getElem? (i := 61) rfl)) (hw _ (List.mem_of_getElem? (i := 4) rfl)) (hw _ (List.mem_of_getElem? (i := 63) rfl)) (by decide) H0 (rmNE l Z a0 hw [] o w n0 h0 X0.le H1) (by decide) (by decide) (by rw [hml]; rfl) rfl (lenOf pd4 rfl) rfl (Nat.le_of_eq rfl) (hb hby d10_1) rfl (by decide) (by decide) ?_
  intro r1 T1 h1 X1 q1
  obtain ⟨rfl, eh1⟩ := q1
  subst eh1
  show Go _ _ _ _ _ _ _ T1 (mkF m 4 #[.val (.ref o), .val (.int kp), .val (.int x), .val (.int y), .val (.int dd), .val (.int ow), .unset] [(.int w)])
  refine i_iloadN (v := kp) (pc' := 5) X1 hx (hb hby d10_4) rfl rfl ?_
  refine i_ifF (pc' := 8) X1 hx (hb hby d10_5) rfl (XT.i0_eq_f hkp) ?_
  refine i_iloadN (v := x) (pc' := 9) X1 hx (hb hby d10_8) rfl rfl ?_
  refine i_goto (pc' := 13) X1 hx (hb hby d10_9) (by decide) (by decide) ?_
  refine i_icT (pc' := 18) X1 hx (hb hby d10_13) (XT.ii_eq_t hwx) (by decide) (by decide) ?_
  refine i_aloadN (v := (.ref o)) (pc' := 19) X1 hx (hb hby d10_18) rfl rfl rfl ?_
  refine i_iloadN (v := x) (pc' := 20) X1 hx (hb hby d10_19) rfl rfl ?_
  refine cV (y := (⟨"com/example/shoal_creek/shoalcreek/MatchedSuffixes", "lengthEndingAt", "(I)I"⟩ : MethodName)) (C := "com/example/shoal_creek/shoalcreek/MatchedSuffixes") (rest := []) (pc' := 23) 0 [(.int x)] X1 hx hZ hown (hw _ (List.mem_of_getElem? (i := 64) rfl)) (hw _ (List.mem_of_getElem? (i := 65) rfl)) (hw _ (List.mem_of_getElem? (i := 67) rfl)) (hw _ (List.mem_of_getElem? (i := 66) rfl)) (hw _ (List.mem_of_getElem? (i := 4) rfl)) (hw _ (List.mem_of_getElem? (i := 68) rfl)) (by decide) H0 (rmL1 l Z a0 hw [] o x w aE aL N (own_up own_zero (own_k x N) x) (own_up own_zero (own_k x N) y) n0 h0 X1.le H1 H2 H3 H5 H6 hN) (by decide) (by decide) (by rw [hml]; rfl) rfl (lenOf pd5 rfl) rfl (Nat.le_of_eq rfl) (hb hby d10_20) rfl (by decide) (by decide) ?_
  intro r2 T2 h2 X2 q2
  obtain ⟨rfl, eh2⟩ := q2
  subst eh2
  show Go _ _ _ _ _ _ _ T2 (mkF m 23 #[.val (.ref o), .val (.int kp), .val (.int x), .val (.int y), .val (.int dd), .val (.int ow), .unset] [(.int (own_lea (own_up own_zero (own_k x N) x) (own_up own_zero (own_k x N) y) N w x))])
  refine i_iloadN (v := kp) (pc' := 24) X2 hx (hb hby d10_23) rfl rfl ?_
  refine i_ifF (pc' := 27) X2 hx (hb hby d10_24) rfl (XT.i0_eq_f hkp) ?_
  refine i_iloadN (v := y) (pc' := 28) X2 hx (hb hby d10_27) rfl rfl ?_
  refine i_goto (pc' := 32) X2 hx (hb hby d10_28) (by decide) (by decide) ?_
  refine i_icT (pc' := 37) X2 hx (hb hby d10_32) (XT.ii_eq_t ((own_lea1 hwx).trans (if_pos rfl))) (by decide) (by decide) ?_
  refine i_iloadN (v := kp) (pc' := 38) X2 hx (hb hby d10_37) rfl rfl ?_
  refine i_ifF (pc' := 41) X2 hx (hb hby d10_38) rfl (XT.i0_eq_f hkp) ?_
  refine i_aloadN (v := (.ref o)) (pc' := 42) X2 hx (hb hby d10_41) rfl rfl rfl ?_
  refine i_iloadN (v := x) (pc' := 43) X2 hx (hb hby d10_42) rfl rfl ?_
  refine cV (y := (⟨"com/example/shoal_creek/shoalcreek/MatchedSuffixes", "differingBefore", "(I)I"⟩ : MethodName)) (C := "com/example/shoal_creek/shoalcreek/MatchedSuffixes") (rest := []) (pc' := 46) 0 [(.int x)] X2 hx hZ hown (hw _ (List.mem_of_getElem? (i := 69) rfl)) (hw _ (List.mem_of_getElem? (i := 70) rfl)) (hw _ (List.mem_of_getElem? (i := 72) rfl)) (hw _ (List.mem_of_getElem? (i := 71) rfl)) (hw _ (List.mem_of_getElem? (i := 4) rfl)) (hw _ (List.mem_of_getElem? (i := 73) rfl)) (by decide) H0 (rmDB l Z a0 hw [] o x aE aD N (own_up own_zero (own_k x N) x) (own_up own_zero (own_k x N) dd) n0 h0 X2.le H2 H4 H5 H7 hN) (by decide) (by decide) (by rw [hml]; rfl) rfl (lenOf pd5 rfl) rfl (Nat.le_of_eq rfl) (hb hby d10_43) rfl (by decide) (by decide) ?_
  intro r3 T3 h3 X3 q3
  obtain ⟨rfl, eh3⟩ := q3
  subst eh3
  show Go _ _ _ _ _ _ _ T3 (mkF m 46 #[.val (.ref o), .val (.int kp), .val (.int x), .val (.int y), .val (.int dd), .val (.int ow), .unset] [(.int ((own_up own_zero (own_k x N) dd) (own_k x N)))])
  refine i_iload (v := dd) (pc' := 48) X3 hx (hb hby d10_46) rfl rfl ?_
  refine i_icT (pc' := 53) X3 hx (hb hby d10_48) (XT.ii_eq_t (if_pos rfl)) (by decide) (by decide) ?_
  refine i_iloadN (v := kp) (pc' := 54) X3 hx (hb hby d10_53) rfl rfl ?_
  refine i_ifF (pc' := 57) X3 hx (hb hby d10_54) rfl (XT.i0_eq_f hkp) ?_
  refine i_iload (v := ow) (pc' := 59) X3 hx (hb hby d10_57) rfl rfl ?_
  refine i_iloadN (v := x) (pc' := 60) X3 hx (hb hby d10_59) rfl rfl ?_
  by_cases hc4 : ow = x
  · skip
    refine i_icF (pc' := 63) X3 hx (hb hby d10_60) rfl (XT.ii_ne_f hc4) ?_
    refine i_iloadN (v := y) (pc' := 64) X3 hx (hb hby d10_63) rfl rfl ?_
    refine i_goto (pc' := 68) X3 hx (hb hby d10_64) (by decide) (by decide) ?_
    refine i_istore (L' := #[.val (.ref o), .val (.int kp), .val (.int x), .val (.int y), .val (.int dd), .val (.int ow), .val (.int y)]) (pc' := 70) X3 hx (hb hby d10_68) rfl rfl ?_
    refine i_aloadN (v := (.ref o)) (pc' := 71) X3 hx (hb hby d10_70) rfl rfl rfl ?_
    refine i_iload (v := ow) (pc' := 73) X3 hx (hb hby d10_71) rfl rfl ?_
    refine cV (y := (⟨"com/example/shoal_creek/shoalcreek/MatchedSuffixes", "lengthEndingAt", "(I)I"⟩ : MethodName)) (C := "com/example/shoal_creek/shoalcreek/MatchedSuffixes") (rest := []) (pc' := 76) 0 [(.int ow)] X3 hx hZ hown (hw _ (List.mem_of_getElem? (i := 64) rfl)) (hw _ (List.mem_of_getElem? (i := 65) rfl)) (hw _ (List.mem_of_getElem? (i := 67) rfl)) (hw _ (List.mem_of_getElem? (i := 66) rfl)) (hw _ (List.mem_of_getElem? (i := 4) rfl)) (hw _ (List.mem_of_getElem? (i := 68) rfl)) (by decide) H0 (rmL1 l Z a0 hw [] o ow w aE aL N (own_up own_zero (own_k x N) x) (own_up own_zero (own_k x N) y) n0 h0 X3.le H1 H2 H3 H5 H6 hN) (by decide) (by decide) (by rw [hml]; rfl) rfl (lenOf pd5 rfl) rfl (Nat.le_of_eq rfl) (hb hby d10_73) rfl (by decide) (by decide) ?_
    intro r5 T5 h5 X5 q5
    obtain ⟨rfl, eh5⟩ := q5
    subst eh5
    show Go _ _ _ _ _ _ _ T5 (mkF m 76 #[.val (.ref o), .val (.int kp), .val (.int x), .val (.int y), .val (.int dd), .val (.int ow), .val (.int y)] [(.int (own_lea (own_up own_zero (own_k x N) x) (own_up own_zero (own_k x N) y) N w ow))])
    refine i_iload (v := y) (pc' := 78) X5 hx (hb hby d10_76) rfl rfl ?_
    refine i_icF (pc' := 81) X5 hx (hb hby d10_78) rfl (XT.ii_ne_f ((own_lea1 hwx).trans (by simp [hc4]))) ?_
    refine i_iconst (pc' := 82) (1 : Int32) X5 hx (hb hby d10_81) rfl (by decide) ?_
    refine i_goto (pc' := 86) X5 hx (hb hby d10_82) (by decide) (by decide) ?_
    refine rN X5 hx hlk hret (by simp) (hb hby d10_86) (by decide) (by decide) ?_
    exact ⟨(by decide), rfl⟩
  · skip
    refine i_icT (pc' := 67) X3 hx (hb hby d10_60) (XT.ii_ne_t hc4) (by decide) (by decide) ?_
    refine i_iconst (pc' := 68) (0 : Int32) X3 hx (hb hby d10_67) rfl (by decide) ?_
    refine i_istore (L' := #[.val (.ref o), .val (.int kp), .val (.int x), .val (.int y), .val (.int dd), .val (.int ow), .val (.int (0 : Int32))]) (pc' := 70) X3 hx (hb hby d10_68) rfl rfl ?_
    refine i_aloadN (v := (.ref o)) (pc' := 71) X3 hx (hb hby d10_70) rfl rfl rfl ?_
    refine i_iload (v := ow) (pc' := 73) X3 hx (hb hby d10_71) rfl rfl ?_
    refine cV (y := (⟨"com/example/shoal_creek/shoalcreek/MatchedSuffixes", "lengthEndingAt", "(I)I"⟩ : MethodName)) (C := "com/example/shoal_creek/shoalcreek/MatchedSuffixes") (rest := []) (pc' := 76) 0 [(.int ow)] X3 hx hZ hown (hw _ (List.mem_of_getElem? (i := 64) rfl)) (hw _ (List.mem_of_getElem? (i := 65) rfl)) (hw _ (List.mem_of_getElem? (i := 67) rfl)) (hw _ (List.mem_of_getElem? (i := 66) rfl)) (hw _ (List.mem_of_getElem? (i := 4) rfl)) (hw _ (List.mem_of_getElem? (i := 68) rfl)) (by decide) H0 (rmL1 l Z a0 hw [] o ow w aE aL N (own_up own_zero (own_k x N) x) (own_up own_zero (own_k x N) y) n0 h0 X3.le H1 H2 H3 H5 H6 hN) (by decide) (by decide) (by rw [hml]; rfl) rfl (lenOf pd5 rfl) rfl (Nat.le_of_eq rfl) (hb hby d10_73) rfl (by decide) (by decide) ?_
    intro r6 T6 h6 X6 q6
    obtain ⟨rfl, eh6⟩ := q6
    subst eh6
    show Go _ _ _ _ _ _ _ T6 (mkF m 76 #[.val (.ref o), .val (.int kp), .val (.int x), .val (.int y), .val (.int dd), .val (.int ow), .val (.int (0 : Int32))] [(.int (own_lea (own_up own_zero (own_k x N) x) (own_up own_zero (own_k x N) y) N w ow))])
    refine i_iload (v := (0 : Int32)) (pc' := 78) X6 hx (hb hby d10_76) rfl rfl ?_
    refine i_icF (pc' := 81) X6 hx (hb hby d10_78) rfl (XT.ii_ne_f ((own_lea1 hwx).trans (by simp [hc4]))) ?_
    refine i_iconst (pc' := 82) (1 : Int32) X6 hx (hb hby d10_81) rfl (by decide) ?_
    refine i_goto (pc' := 86) X6 hx (hb hby d10_82) (by decide) (by decide) ?_
    refine rN X6 hx hlk hret (by simp) (hb hby d10_86) (by decide) (by decide) ?_
    exact ⟨(by decide), rfl⟩
theorem ef_rm0 (m : MethodId) (p1 : Int32) (p2 : Int32) (p3 : Int32) (p4 : Int32) (p5 : Int32) (p6 : Int32) : entryFrame m #[(.int p1), (.int p2), (.int p3), (.int p4), (.int p5), (.int p6)] maxLocals = mkF m 0 #[.val (.int p1), .val (.int p2), .val (.int p3), .val (.int p4), .val (.int p5), .val (.int p6), .unset, .unset, .unset, .unset, .unset, .unset, .unset, .unset, .unset, .unset, .unset, .unset, .unset, .unset, .unset] [] := by first | (simp [entryFrame, mkF, argsToLocals, Value.category, maxLocals]; done) | rfl
abbrev Q0 : Option Value → Heap → Prop := fun v _ => v = some (.int 1)
theorem pd6 : parseMethodDescriptor "(I)V" = some ⟨[.int], none⟩ := by decide +kernel
theorem pd7 : parseMethodDescriptor "(C)V" = some ⟨[.char], none⟩ := by decide +kernel
theorem pd8 : parseMethodDescriptor "(Lcom/example/shoal_creek/shoalcreek/MatchedSuffixes;ZZIII)I" = some ⟨[(.object "com/example/shoal_creek/shoalcreek/MatchedSuffixes"), .boolean, .boolean, .int, .int, .int], some .int⟩ := by decide +kernel
theorem pd9 : parseMethodDescriptor "(Lcom/example/shoal_creek/shoalcreek/MatchedSuffixes;)V" = some ⟨[(.object "com/example/shoal_creek/shoalcreek/MatchedSuffixes")], none⟩ := by decide +kernel
theorem pd10 : parseMethodDescriptor "(Lcom/example/shoal_creek/shoalcreek/MatchedSuffixes;ZIIII)Z" = some ⟨[(.object "com/example/shoal_creek/shoalcreek/MatchedSuffixes"), .boolean, .int, .int, .int, .int], some .boolean⟩ := by decide +kernel
set_option maxRecDepth 65536 in
set_option maxHeartbeats 40000000 in
theorem rm0 (l : Launch) (Z : State) (a0 : Array Value) (hw : ∀ d ∈ tables_1, d.before a0 Z = true) (ws : List Jvm.Cond) (p1 : Int32) (p2 : Int32) (p3 : Int32) (p4 : Int32) (p5 : Int32) (p6 : Int32) (n0 : Nat) (h0 : Heap) (hn : n0 ≤ h0.size)   :
    Con l Z x code maxLocals ret ws room_1 #[(.int p1), (.int p2), (.int p3), (.int p4), (.int p5), (.int p6)] h0 n0 Q0 := by
  refine body (y := x) (Ls := #[.val (.int p1), .val (.int p2), .val (.int p3), .val (.int p4), .val (.int p5), .val (.int p6), .unset, .unset, .unset, .unset, .unset, .unset, .unset, .unset, .unset, .unset, .unset, .unset, .unset, .unset, .unset]) (plainFor_of_name pn1) hn (fun m => ef_rm0 m p1 p2 p3 p4 p5 p6) ?_
  intro p e s m below meth c T0 hx hby hml hown hnm hret hlk hZ X0
  replace hown : s.vm.findClass "com/example/shoal_creek/shoalcreek/MatchedSuffixesSwapPinLaw" = some m.cls := hown
  replace hml : c.maxLocals = 21 := hml
  replace hret : meth.sig.returnType = (some .boolean) := hret
  refine i_iloadN (v := p1) (pc' := 1) X0 hx (hb hby at_0) rfl rfl ?_
  refine i_bipush (pc' := 3) (7 : Int32) X0 hx (hb hby at_1) rfl (by decide) ?_
  refine i_iand (pc' := 4) X0 hx (hb hby at_3) rfl ?_
  refine i_iconst (pc' := 5) (1 : Int32) X0 hx (hb hby at_4) rfl (by decide) ?_
  refine i_iadd (pc' := 6) X0 hx (hb hby at_5) rfl ?_
  obtain ⟨v1, hv1⟩ : ∃ zz : Int32, zz = ((p1 &&& (7 : Int32)) + (1 : Int32)) := ⟨_, rfl⟩
  rw [← hv1]
  refine i_istore (L' := #[.val (.int p1), .val (.int p2), .val (.int p3), .val (.int p4), .val (.int p5), .val (.int p6), .val (.int v1), .unset, .unset, .unset, .unset, .unset, .unset, .unset, .unset, .unset, .unset, .unset, .unset, .unset, .unset]) (pc' := 8) X0 hx (hb hby at_6) rfl rfl ?_
  refine i_iloadN (v := p2) (pc' := 9) X0 hx (hb hby at_8) rfl rfl ?_
  refine i_ldc (pc' := 11) (2147483647 : Int32) X0 hx hZ hown (hw _ (List.mem_of_getElem? (i := 0) rfl)) (hb hby at_9) rfl ?_
  refine i_iand (pc' := 12) X0 hx (hb hby at_11) rfl ?_
  obtain ⟨v2, hv2⟩ : ∃ zz : Int32, zz = (p2 &&& (2147483647 : Int32)) := ⟨_, rfl⟩
  rw [← hv2]
  refine i_istore (L' := #[.val (.int p1), .val (.int p2), .val (.int p3), .val (.int p4), .val (.int p5), .val (.int p6), .val (.int v1), .val (.int v2), .unset, .unset, .unset, .unset, .unset, .unset, .unset, .unset, .unset, .unset, .unset, .unset, .unset]) (pc' := 14) X0 hx (hb hby at_12) rfl rfl ?_
  refine i_iloadN (v := p3) (pc' := 15) X0 hx (hb hby at_14) rfl rfl ?_
  refine i_ldc (pc' := 17) (2147483647 : Int32) X0 hx hZ hown (hw _ (List.mem_of_getElem? (i := 0) rfl)) (hb hby at_15) rfl ?_
  refine i_iand (pc' := 18) X0 hx (hb hby at_17) rfl ?_
  obtain ⟨v3, hv3⟩ : ∃ zz : Int32, zz = (p3 &&& (2147483647 : Int32)) := ⟨_, rfl⟩
  rw [← hv3]
  refine i_istore (L' := #[.val (.int p1), .val (.int p2), .val (.int p3), .val (.int p4), .val (.int p5), .val (.int p6), .val (.int v1), .val (.int v2), .val (.int v3), .unset, .unset, .unset, .unset, .unset, .unset, .unset, .unset, .unset, .unset, .unset, .unset]) (pc' := 20) X0 hx (hb hby at_18) rfl rfl ?_
  refine i_iloadN (v := p4) (pc' := 21) X0 hx (hb hby at_20) rfl rfl ?_
  refine i_bipush (pc' := 23) (15 : Int32) X0 hx (hb hby at_21) rfl (by decide) ?_
  refine i_iand (pc' := 24) X0 hx (hb hby at_23) rfl ?_
  refine i_iconst (pc' := 25) (1 : Int32) X0 hx (hb hby at_24) rfl (by decide) ?_
  refine i_iadd (pc' := 26) X0 hx (hb hby at_25) rfl ?_
  obtain ⟨v4, hv4⟩ : ∃ zz : Int32, zz = ((p4 &&& (15 : Int32)) + (1 : Int32)) := ⟨_, rfl⟩
  rw [← hv4]
  refine i_istore (L' := #[.val (.int p1), .val (.int p2), .val (.int p3), .val (.int p4), .val (.int p5), .val (.int p6), .val (.int v1), .val (.int v2), .val (.int v3), .val (.int v4), .unset, .unset, .unset, .unset, .unset, .unset, .unset, .unset, .unset, .unset, .unset]) (pc' := 28) X0 hx (hb hby at_26) rfl rfl ?_
  refine i_iloadN (v := p4) (pc' := 29) X0 hx (hb hby at_28) rfl rfl ?_
  refine i_iconst (pc' := 30) (4 : Int32) X0 hx (hb hby at_29) rfl (by decide) ?_
  refine i_iushr (pc' := 31) X0 hx (hb hby at_30) rfl ?_
  refine i_bipush (pc' := 33) (15 : Int32) X0 hx (hb hby at_31) rfl (by decide) ?_
  refine i_iand (pc' := 34) X0 hx (hb hby at_33) rfl ?_
  refine i_iconst (pc' := 35) (1 : Int32) X0 hx (hb hby at_34) rfl (by decide) ?_
  refine i_iadd (pc' := 36) X0 hx (hb hby at_35) rfl ?_
  obtain ⟨v5, hv5⟩ : ∃ zz : Int32, zz = (((XT.ushr p4 (4 : Int32)) &&& (15 : Int32)) + (1 : Int32)) := ⟨_, rfl⟩
  rw [← hv5]
  refine i_istore (L' := #[.val (.int p1), .val (.int p2), .val (.int p3), .val (.int p4), .val (.int p5), .val (.int p6), .val (.int v1), .val (.int v2), .val (.int v3), .val (.int v4), .val (.int v5), .unset, .unset, .unset, .unset, .unset, .unset, .unset, .unset, .unset, .unset]) (pc' := 38) X0 hx (hb hby at_36) rfl rfl ?_
  refine i_iload (v := p5) (pc' := 40) X0 hx (hb hby at_38) rfl rfl ?_
  refine i_ldc (pc' := 42) (65535 : Int32) X0 hx hZ hown (hw _ (List.mem_of_getElem? (i := 1) rfl)) (hb hby at_40) rfl ?_
  refine i_iand (pc' := 43) X0 hx (hb hby at_42) rfl ?_
  refine i_i2c (pc' := 44) X0 hx (hb hby at_43) rfl ?_
  obtain ⟨v6, hv6⟩ : ∃ zz : Int32, zz = ((p5 &&& (65535 : Int32)).toUInt32.toUInt16.toUInt32.toInt32) := ⟨_, rfl⟩
  rw [← hv6]
  refine i_istore (L' := #[.val (.int p1), .val (.int p2), .val (.int p3), .val (.int p4), .val (.int p5), .val (.int p6), .val (.int v1), .val (.int v2), .val (.int v3), .val (.int v4), .val (.int v5), .val (.int v6), .unset, .unset, .unset, .unset, .unset, .unset, .unset, .unset, .unset]) (pc' := 46) X0 hx (hb hby at_44) rfl rfl ?_
  refine i_iload (v := p5) (pc' := 48) X0 hx (hb hby at_46) rfl rfl ?_
  refine i_bipush (pc' := 50) (16 : Int32) X0 hx (hb hby at_48) rfl (by decide) ?_
  refine i_iushr (pc' := 51) X0 hx (hb hby at_50) rfl ?_
  refine i_ldc (pc' := 53) (65535 : Int32) X0 hx hZ hown (hw _ (List.mem_of_getElem? (i := 1) rfl)) (hb hby at_51) rfl ?_
  refine i_iand (pc' := 54) X0 hx (hb hby at_53) rfl ?_
  refine i_i2c (pc' := 55) X0 hx (hb hby at_54) rfl ?_
  obtain ⟨v7, hv7⟩ : ∃ zz : Int32, zz = (((XT.ushr p5 (16 : Int32)) &&& (65535 : Int32)).toUInt32.toUInt16.toUInt32.toInt32) := ⟨_, rfl⟩
  rw [← hv7]
  refine i_istore (L' := #[.val (.int p1), .val (.int p2), .val (.int p3), .val (.int p4), .val (.int p5), .val (.int p6), .val (.int v1), .val (.int v2), .val (.int v3), .val (.int v4), .val (.int v5), .val (.int v6), .val (.int v7), .unset, .unset, .unset, .unset, .unset, .unset, .unset, .unset]) (pc' := 57) X0 hx (hb hby at_55) rfl rfl ?_
  have hpl : ¬ (8 : Int32) < v1 := by rw [hv1]; exact own_pl8 _
  have hea : 0 ≤ v2.toInt := by rw [hv2]; exact own_vn _
  have heb : 0 ≤ v3.toInt := by rw [hv3]; exact own_vn _
  have hla : (0 : Int32) < v4 := by rw [hv4]; exact own_l16 _
  have hlb : (0 : Int32) < v5 := by rw [hv5]; exact own_l16 _
  have hca := own_ch (p5 &&& (65535 : Int32))
  rw [← hv6] at hca
  have hcb := own_ch ((XT.ushr p5 (16 : Int32)) &&& (65535 : Int32))
  rw [← hv7] at hcb
  refine i_iload (v := p6) (pc' := 59) X0 hx (hb hby at_57) rfl rfl ?_
  refine i_iconst (pc' := 60) (1 : Int32) X0 hx (hb hby at_59) rfl (by decide) ?_
  refine i_iand (pc' := 61) X0 hx (hb hby at_60) rfl ?_
  by_cases hc8 : (p6 &&& (1 : Int32)) = 0
  · skip
    refine i_ifT (pc' := 68) X0 hx (hb hby at_61) (XT.i0_eq_t hc8) (by decide) (by decide) ?_
    refine i_iconst (pc' := 69) (0 : Int32) X0 hx (hb hby at_68) rfl (by decide) ?_
    refine i_istore (L' := #[.val (.int p1), .val (.int p2), .val (.int p3), .val (.int p4), .val (.int p5), .val (.int p6), .val (.int v1), .val (.int v2), .val (.int v3), .val (.int v4), .val (.int v5), .val (.int v6), .val (.int v7), .val (.int (0 : Int32)), .unset, .unset, .unset, .unset, .unset, .unset, .unset]) (pc' := 71) X0 hx (hb hby at_69) rfl rfl ?_
    refine i_iload (v := p6) (pc' := 73) X0 hx (hb hby at_71) rfl rfl ?_
    refine i_iconst (pc' := 74) (2 : Int32) X0 hx (hb hby at_73) rfl (by decide) ?_
    refine i_iand (pc' := 75) X0 hx (hb hby at_74) rfl ?_
    obtain ⟨v9, hv9⟩ : ∃ zz : Int32, zz = (if (p6 &&& (2 : Int32)) = 0 then (0 : Int32) else (1 : Int32)) := ⟨_, rfl⟩
    have J10 : ∀ (T : State), Pn p l e room_1 s m #[(.int p1), (.int p2), (.int p3), (.int p4), (.int p5), (.int p6)] below meth c T h0 n0 0 0 → Go p e s below n0 Q0 room_1 T (mkF m 83 #[.val (.int p1), .val (.int p2), .val (.int p3), .val (.int p4), .val (.int p5), .val (.int p6), .val (.int v1), .val (.int v2), .val (.int v3), .val (.int v4), .val (.int v5), .val (.int v6), .val (.int v7), .val (.int (0 : Int32)), .unset, .unset, .unset, .unset, .unset, .unset, .unset] [(.int v9)]) := by
      intro T10 X10
      refine i_istore (L' := #[.val (.int p1), .val (.int p2), .val (.int p3), .val (.int p4), .val (.int p5), .val (.int p6), .val (.int v1), .val (.int v2), .val (.int v3), .val (.int v4), .val (.int v5), .val (.int v6), .val (.int v7), .val (.int (0 : Int32)), .val (.int v9), .unset, .unset, .unset, .unset, .unset, .unset]) (pc' := 85) X10 hx (hb hby at_83) rfl rfl ?_
      refine i_iload (v := p6) (pc' := 87) X10 hx (hb hby at_85) rfl rfl ?_
      refine i_iconst (pc' := 88) (4 : Int32) X10 hx (hb hby at_87) rfl (by decide) ?_
      refine i_iand (pc' := 89) X10 hx (hb hby at_88) rfl ?_
      by_cases hc11 : (p6 &&& (4 : Int32)) = 0
      · skip
        refine i_ifT (pc' := 96) X10 hx (hb hby at_89) (XT.i0_eq_t hc11) (by decide) (by decide) ?_
        refine i_iconst (pc' := 97) (0 : Int32) X10 hx (hb hby at_96) rfl (by decide) ?_
        refine i_istore (L' := #[.val (.int p1), .val (.int p2), .val (.int p3), .val (.int p4), .val (.int p5), .val (.int p6), .val (.int v1), .val (.int v2), .val (.int v3), .val (.int v4), .val (.int v5), .val (.int v6), .val (.int v7), .val (.int (0 : Int32)), .val (.int v9), .val (.int (0 : Int32)), .unset, .unset, .unset, .unset, .unset]) (pc' := 99) X10 hx (hb hby at_97) rfl rfl ?_
        refine i_iload (v := p6) (pc' := 101) X10 hx (hb hby at_99) rfl rfl ?_
        refine i_bipush (pc' := 103) (8 : Int32) X10 hx (hb hby at_101) rfl (by decide) ?_
        refine i_iand (pc' := 104) X10 hx (hb hby at_103) rfl ?_
        obtain ⟨v12, hv12⟩ : ∃ zz : Int32, zz = (if (p6 &&& (8 : Int32)) = 0 then (0 : Int32) else (1 : Int32)) := ⟨_, rfl⟩
        have J13 : ∀ (T : State), Pn p l e room_1 s m #[(.int p1), (.int p2), (.int p3), (.int p4), (.int p5), (.int p6)] below meth c T h0 n0 0 0 → Go p e s below n0 Q0 room_1 T (mkF m 112 #[.val (.int p1), .val (.int p2), .val (.int p3), .val (.int p4), .val (.int p5), .val (.int p6), .val (.int v1), .val (.int v2), .val (.int v3), .val (.int v4), .val (.int v5), .val (.int v6), .val (.int v7), .val (.int (0 : Int32)), .val (.int v9), .val (.int (0 : Int32)), .unset, .unset, .unset, .unset, .unset] [(.int v12)]) := by
          intro T13 X13
          refine i_istore (L' := #[.val (.int p1), .val (.int p2), .val (.int p3), .val (.int p4), .val (.int p5), .val (.int p6), .val (.int v1), .val (.int v2), .val (.int v3), .val (.int v4), .val (.int v5), .val (.int v6), .val (.int v7), .val (.int (0 : Int32)), .val (.int v9), .val (.int (0 : Int32)), .val (.int v12), .unset, .unset, .unset, .unset]) (pc' := 114) X13 hx (hb hby at_112) rfl rfl ?_
          refine nw (pc' := 117) X13 hx hZ hown (hw _ (List.mem_of_getElem? (i := 2) rfl)) (hw _ (List.mem_of_getElem? (i := 3) rfl)) (hw _ (List.mem_of_getElem? (i := 4) rfl)) (hb hby at_114) rfl (by decide) (by decide) fun T14 h14 b14 X14 g14 ge14 E14 A14 D14 => ?_
          have sz_b14 : h0.size ≤ b14 := Nat.le_trans ((Keep.refl h0 _) : Keep h0 h0 []).1 (Nat.le_of_eq g14.symm)
          have K14 : Keep h0 h14 [] := ((Keep.refl h0 _) : Keep h0 h0 []).ext E14
          refine i_dup (pc' := 118) X14 hx (hb hby at_117) rfl rfl ?_
          refine i_iload (v := v1) (pc' := 120) X14 hx (hb hby at_118) rfl rfl ?_
          have F15 : Fld Z h14 b14 "com/example/shoal_creek/shoalcreek/MatchedSuffixes" "newestEnd" "I" (.int (0 : Int32)) := (D14 (Or.inl (hw _ (List.mem_of_getElem? (i := 12) rfl))) (ty := .int) (by decide))
          have F16 : Fld Z h14 b14 "com/example/shoal_creek/shoalcreek/MatchedSuffixes" "patternLength" "I" (.int (0 : Int32)) := (D14 (Or.inr (hw _ (List.mem_of_getElem? (i := 14) rfl))) (ty := .int) (by decide))
          have F17 : Fld Z h14 b14 "com/example/shoal_creek/shoalcreek/MatchedSuffixes" "ends" "[I" .null := (D14 (Or.inl (hw _ (List.mem_of_getElem? (i := 36) rfl))) (ty := (.array .int)) (by decide))
          have F18 : Fld Z h14 b14 "com/example/shoal_creek/shoalcreek/MatchedSuffixes" "lengths" "[I" .null := (D14 (Or.inl (hw _ (List.mem_of_getElem? (i := 39) rfl))) (ty := (.array .int)) (by decide))
          have F19 : Fld Z h14 b14 "com/example/shoal_creek/shoalcreek/MatchedSuffixes" "differings" "[I" .null := (D14 (Or.inl (hw _ (List.mem_of_getElem? (i := 41) rfl))) (ty := (.array .int)) (by decide))
          have F20 : Fld Z h14 b14 "com/example/shoal_creek/shoalcreek/MatchedSuffixes" "differing" "C" (.int (0 : Int32)) := (D14 (Or.inl (hw _ (List.mem_of_getElem? (i := 21) rfl))) (ty := .char) (by decide))
          refine cI (y := (⟨"com/example/shoal_creek/shoalcreek/MatchedSuffixes", "<init>", "(I)V"⟩ : MethodName)) (rest := [(.ref b14)]) (pc' := 123) (a := b14) 1 [(.int v1)] X14 hx hZ hown rfl (hw _ (List.mem_of_getElem? (i := 5) rfl)) (hw _ (List.mem_of_getElem? (i := 6) rfl)) (hw _ (List.mem_of_getElem? (i := 4) rfl)) (hw _ (List.mem_of_getElem? (i := 7) rfl)) (by decide) (rmNew l Z a0 hw [] b14 v1 n0 h14 X14.le A14 F15 F16 F17 F18 F19 F20 ge14) (by decide) (by decide) (by rw [hml]; rfl) rfl (lenOf pd6 rfl) rfl (Nat.le_of_eq rfl) (hb hby at_120) rfl (by decide) (by decide) ?_
          intro r21 T21 h21 X21 q21
          obtain ⟨rfl, K21c, P21_0, P21_1, P21_2, P21_3, P21_4, P21_5⟩ := q21
          show Go _ _ _ _ _ _ _ T21 (mkF m 123 #[.val (.int p1), .val (.int p2), .val (.int p3), .val (.int p4), .val (.int p5), .val (.int p6), .val (.int v1), .val (.int v2), .val (.int v3), .val (.int v4), .val (.int v5), .val (.int v6), .val (.int v7), .val (.int (0 : Int32)), .val (.int v9), .val (.int (0 : Int32)), .val (.int v12), .unset, .unset, .unset, .unset] [(.ref b14)])
          refine i_astore (L' := #[.val (.int p1), .val (.int p2), .val (.int p3), .val (.int p4), .val (.int p5), .val (.int p6), .val (.int v1), .val (.int v2), .val (.int v3), .val (.int v4), .val (.int v5), .val (.int v6), .val (.int v7), .val (.int (0 : Int32)), .val (.int v9), .val (.int (0 : Int32)), .val (.int v12), .val (.ref b14), .unset, .unset, .unset]) (pc' := 125) X21 hx (hb hby at_123) rfl rfl rfl ?_
          refine nw (pc' := 128) X21 hx hZ hown (hw _ (List.mem_of_getElem? (i := 2) rfl)) (hw _ (List.mem_of_getElem? (i := 3) rfl)) (hw _ (List.mem_of_getElem? (i := 4) rfl)) (hb hby at_125) rfl (by decide) (by decide) fun T22 h22 b22 X22 g22 ge22 E22 A22 D22 => ?_
          have F23 : Exa Z h21 b14 "com/example/shoal_creek/shoalcreek/MatchedSuffixes" := (A14.keep K21c)
          have ne_b14_b22 : b14 ≠ b22 := Nat.ne_of_lt (Nat.lt_of_lt_of_eq F23.lt g22.symm)
          have sz_b22 : h0.size ≤ b22 := Nat.le_trans (((K14 : Keep h0 h14 []).trans K21c (allS (Or.inr sz_b14) all0)) : Keep h0 h21 []).1 (Nat.le_of_eq g22.symm)
          have K22 : Keep h0 h22 [] := (((K14 : Keep h0 h14 []).trans K21c (allS (Or.inr sz_b14) all0)) : Keep h0 h21 []).ext E22
          refine i_dup (pc' := 129) X22 hx (hb hby at_128) rfl rfl ?_
          refine i_iload (v := v1) (pc' := 131) X22 hx (hb hby at_129) rfl rfl ?_
          have F24 : Fld Z h22 b22 "com/example/shoal_creek/shoalcreek/MatchedSuffixes" "newestEnd" "I" (.int (0 : Int32)) := (D22 (Or.inl (hw _ (List.mem_of_getElem? (i := 12) rfl))) (ty := .int) (by decide))
          have F25 : Fld Z h22 b22 "com/example/shoal_creek/shoalcreek/MatchedSuffixes" "patternLength" "I" (.int (0 : Int32)) := (D22 (Or.inr (hw _ (List.mem_of_getElem? (i := 14) rfl))) (ty := .int) (by decide))
          have F26 : Fld Z h22 b22 "com/example/shoal_creek/shoalcreek/MatchedSuffixes" "ends" "[I" .null := (D22 (Or.inl (hw _ (List.mem_of_getElem? (i := 36) rfl))) (ty := (.array .int)) (by decide))
          have F27 : Fld Z h22 b22 "com/example/shoal_creek/shoalcreek/MatchedSuffixes" "lengths" "[I" .null := (D22 (Or.inl (hw _ (List.mem_of_getElem? (i := 39) rfl))) (ty := (.array .int)) (by decide))
          have F28 : Fld Z h22 b22 "com/example/shoal_creek/shoalcreek/MatchedSuffixes" "differings" "[I" .null := (D22 (Or.inl (hw _ (List.mem_of_getElem? (i := 41) rfl))) (ty := (.array .int)) (by decide))
          have F29 : Fld Z h22 b22 "com/example/shoal_creek/shoalcreek/MatchedSuffixes" "differing" "C" (.int (0 : Int32)) := (D22 (Or.inl (hw _ (List.mem_of_getElem? (i := 21) rfl))) (ty := .char) (by decide))
          refine cI (y := (⟨"com/example/shoal_creek/shoalcreek/MatchedSuffixes", "<init>", "(I)V"⟩ : MethodName)) (rest := [(.ref b22)]) (pc' := 134) (a := b22) 1 [(.int v1)] X22 hx hZ hown rfl (hw _ (List.mem_of_getElem? (i := 5) rfl)) (hw _ (List.mem_of_getElem? (i := 6) rfl)) (hw _ (List.mem_of_getElem? (i := 4) rfl)) (hw _ (List.mem_of_getElem? (i := 7) rfl)) (by decide) (rmNew l Z a0 hw [] b22 v1 n0 h22 X22.le A22 F24 F25 F26 F27 F28 F29 ge22) (by decide) (by decide) (by rw [hml]; rfl) rfl (lenOf pd6 rfl) rfl (Nat.le_of_eq rfl) (hb hby at_131) rfl (by decide) (by decide) ?_
          intro r30 T30 h30 X30 q30
          obtain ⟨rfl, K30c, P30_0, P30_1, P30_2, P30_3, P30_4, P30_5⟩ := q30
          show Go _ _ _ _ _ _ _ T30 (mkF m 134 #[.val (.int p1), .val (.int p2), .val (.int p3), .val (.int p4), .val (.int p5), .val (.int p6), .val (.int v1), .val (.int v2), .val (.int v3), .val (.int v4), .val (.int v5), .val (.int v6), .val (.int v7), .val (.int (0 : Int32)), .val (.int v9), .val (.int (0 : Int32)), .val (.int v12), .val (.ref b14), .unset, .unset, .unset] [(.ref b22)])
          refine i_astore (L' := #[.val (.int p1), .val (.int p2), .val (.int p3), .val (.int p4), .val (.int p5), .val (.int p6), .val (.int v1), .val (.int v2), .val (.int v3), .val (.int v4), .val (.int v5), .val (.int v6), .val (.int v7), .val (.int (0 : Int32)), .val (.int v9), .val (.int (0 : Int32)), .val (.int v12), .val (.ref b14), .val (.ref b22), .unset, .unset]) (pc' := 136) X30 hx (hb hby at_134) rfl rfl rfl ?_
          refine i_aload (v := (.ref b14)) (pc' := 138) X30 hx (hb hby at_136) rfl rfl rfl ?_
          refine i_iload (v := v6) (pc' := 140) X30 hx (hb hby at_138) rfl rfl ?_
          have F31 : Exa Z h30 b14 "com/example/shoal_creek/shoalcreek/MatchedSuffixes" := ((Jvm.RoadKit.Exa.ext E22 F23).keep K30c)
          have F32 : Fld Z h30 b14 "com/example/shoal_creek/shoalcreek/MatchedSuffixes" "ends" "[I" .null := ((Jvm.RoadKit.Fld.ext E22 P21_2).keep K30c (ninS ne_b14_b22 nin0))
          have F33 : Fld Z h30 b14 "com/example/shoal_creek/shoalcreek/MatchedSuffixes" "lengths" "[I" .null := ((Jvm.RoadKit.Fld.ext E22 P21_3).keep K30c (ninS ne_b14_b22 nin0))
          have F34 : Fld Z h30 b14 "com/example/shoal_creek/shoalcreek/MatchedSuffixes" "differings" "[I" .null := ((Jvm.RoadKit.Fld.ext E22 P21_4).keep K30c (ninS ne_b14_b22 nin0))
          have F35 : Fld Z h30 b14 "com/example/shoal_creek/shoalcreek/MatchedSuffixes" "newestEnd" "I" (.int (-1 : Int32)) := ((Jvm.RoadKit.Fld.ext E22 P21_0).keep K30c (ninS ne_b14_b22 nin0))
          have F36 : Fld Z h30 b14 "com/example/shoal_creek/shoalcreek/MatchedSuffixes" "patternLength" "I" (.int v1) := ((Jvm.RoadKit.Fld.ext E22 P21_1).keep K30c (ninS ne_b14_b22 nin0))
          have F37 : Fld Z h30 b14 "com/example/shoal_creek/shoalcreek/MatchedSuffixes" "differing" "C" (.int (0 : Int32)) := ((Jvm.RoadKit.Fld.ext E22 P21_5).keep K30c (ninS ne_b14_b22 nin0))
          refine cV (y := (⟨"com/example/shoal_creek/shoalcreek/MatchedSuffixes", "noteDiffering", "(C)V"⟩ : MethodName)) (C := "com/example/shoal_creek/shoalcreek/MatchedSuffixes") (rest := []) (pc' := 143) 0 [(.int v6)] X30 hx hZ hown (hw _ (List.mem_of_getElem? (i := 15) rfl)) (hw _ (List.mem_of_getElem? (i := 16) rfl)) (hw _ (List.mem_of_getElem? (i := 18) rfl)) (hw _ (List.mem_of_getElem? (i := 17) rfl)) (hw _ (List.mem_of_getElem? (i := 4) rfl)) (hw _ (List.mem_of_getElem? (i := 19) rfl)) (by decide) F31 (rmNote l Z a0 hw [] b14 v6 v1 (-1 : Int32) (0 : Int32) n0 h30 X30.le F31 F32 F33 F34 F35 F36 F37 ge14 hca) (by decide) (by decide) (by rw [hml]; rfl) rfl (lenOf pd7 rfl) rfl (Nat.le_of_eq rfl) (hb hby at_140) rfl (by decide) (by decide) ?_
          intro r38 T38 h38 X38 q38
          obtain ⟨rfl, K38c, P38_0, P38_1, P38_2, P38_3, P38_4, P38_5⟩ := q38
          show Go _ _ _ _ _ _ _ T38 (mkF m 143 #[.val (.int p1), .val (.int p2), .val (.int p3), .val (.int p4), .val (.int p5), .val (.int p6), .val (.int v1), .val (.int v2), .val (.int v3), .val (.int v4), .val (.int v5), .val (.int v6), .val (.int v7), .val (.int (0 : Int32)), .val (.int v9), .val (.int (0 : Int32)), .val (.int v12), .val (.ref b14), .val (.ref b22), .unset, .unset] [])
          refine i_aload (v := (.ref b22)) (pc' := 145) X38 hx (hb hby at_143) rfl rfl rfl ?_
          refine i_iload (v := v7) (pc' := 147) X38 hx (hb hby at_145) rfl rfl ?_
          have F39 : Exa Z h38 b22 "com/example/shoal_creek/shoalcreek/MatchedSuffixes" := ((A22.keep K30c).keep K38c)
          have F40 : Fld Z h38 b22 "com/example/shoal_creek/shoalcreek/MatchedSuffixes" "ends" "[I" .null := (P30_2.keep K38c (ninS (Ne.symm ne_b14_b22) nin0))
          have F41 : Fld Z h38 b22 "com/example/shoal_creek/shoalcreek/MatchedSuffixes" "lengths" "[I" .null := (P30_3.keep K38c (ninS (Ne.symm ne_b14_b22) nin0))
          have F42 : Fld Z h38 b22 "com/example/shoal_creek/shoalcreek/MatchedSuffixes" "differings" "[I" .null := (P30_4.keep K38c (ninS (Ne.symm ne_b14_b22) nin0))
          have F43 : Fld Z h38 b22 "com/example/shoal_creek/shoalcreek/MatchedSuffixes" "newestEnd" "I" (.int (-1 : Int32)) := (P30_0.keep K38c (ninS (Ne.symm ne_b14_b22) nin0))
          have F44 : Fld Z h38 b22 "com/example/shoal_creek/shoalcreek/MatchedSuffixes" "patternLength" "I" (.int v1) := (P30_1.keep K38c (ninS (Ne.symm ne_b14_b22) nin0))
          have F45 : Fld Z h38 b22 "com/example/shoal_creek/shoalcreek/MatchedSuffixes" "differing" "C" (.int (0 : Int32)) := (P30_5.keep K38c (ninS (Ne.symm ne_b14_b22) nin0))
          refine cV (y := (⟨"com/example/shoal_creek/shoalcreek/MatchedSuffixes", "noteDiffering", "(C)V"⟩ : MethodName)) (C := "com/example/shoal_creek/shoalcreek/MatchedSuffixes") (rest := []) (pc' := 150) 0 [(.int v7)] X38 hx hZ hown (hw _ (List.mem_of_getElem? (i := 15) rfl)) (hw _ (List.mem_of_getElem? (i := 16) rfl)) (hw _ (List.mem_of_getElem? (i := 18) rfl)) (hw _ (List.mem_of_getElem? (i := 17) rfl)) (hw _ (List.mem_of_getElem? (i := 4) rfl)) (hw _ (List.mem_of_getElem? (i := 19) rfl)) (by decide) F39 (rmNote l Z a0 hw [] b22 v7 v1 (-1 : Int32) (0 : Int32) n0 h38 X38.le F39 F40 F41 F42 F43 F44 F45 ge22 hcb) (by decide) (by decide) (by rw [hml]; rfl) rfl (lenOf pd7 rfl) rfl (Nat.le_of_eq rfl) (hb hby at_147) rfl (by decide) (by decide) ?_
          intro r46 T46 h46 X46 q46
          obtain ⟨rfl, K46c, P46_0, P46_1, P46_2, P46_3, P46_4, P46_5⟩ := q46
          show Go _ _ _ _ _ _ _ T46 (mkF m 150 #[.val (.int p1), .val (.int p2), .val (.int p3), .val (.int p4), .val (.int p5), .val (.int p6), .val (.int v1), .val (.int v2), .val (.int v3), .val (.int v4), .val (.int v5), .val (.int v6), .val (.int v7), .val (.int (0 : Int32)), .val (.int v9), .val (.int (0 : Int32)), .val (.int v12), .val (.ref b14), .val (.ref b22), .unset, .unset] [])
          refine i_aload (v := (.ref b14)) (pc' := 152) X46 hx (hb hby at_150) rfl rfl rfl ?_
          refine i_iload (v := (0 : Int32)) (pc' := 154) X46 hx (hb hby at_152) rfl rfl ?_
          refine i_iload (v := v9) (pc' := 156) X46 hx (hb hby at_154) rfl rfl ?_
          refine i_iload (v := v2) (pc' := 158) X46 hx (hb hby at_156) rfl rfl ?_
          refine i_iload (v := v4) (pc' := 160) X46 hx (hb hby at_158) rfl rfl ?_
          refine i_iload (v := v1) (pc' := 162) X46 hx (hb hby at_160) rfl rfl ?_
          refine cS (y := (⟨"com/example/shoal_creek/shoalcreek/MatchedSuffixesSwapPinLaw", "fill", "(Lcom/example/shoal_creek/shoalcreek/MatchedSuffixes;ZZIII)I"⟩ : MethodName)) (rest := []) (pc' := 165) 0 [(.ref b14), (.int (0 : Int32)), (.int v9), (.int v2), (.int v4), (.int v1)] X46 hx hZ hown (hw _ (List.mem_of_getElem? (i := 22) rfl)) (hw _ (List.mem_of_getElem? (i := 23) rfl)) (hw _ (List.mem_of_getElem? (i := 24) rfl)) (hw _ (List.mem_of_getElem? (i := 25) rfl)) (by decide) (rmF0 l Z a0 hw [] b14 (0 : Int32) v9 v2 v4 v1 n0 h46 X46.le (by decide)) (by decide) (by decide) (by rw [hml]; rfl) rfl (lenOf pd8 rfl) rfl (Nat.le_of_eq rfl) (hb hby at_162) rfl (by decide) (by decide) ?_
          intro r47 T47 h47 X47 q47
          obtain ⟨rfl, eh47⟩ := q47
          subst eh47
          show Go _ _ _ _ _ _ _ T47 (mkF m 165 #[.val (.int p1), .val (.int p2), .val (.int p3), .val (.int p4), .val (.int p5), .val (.int p6), .val (.int v1), .val (.int v2), .val (.int v3), .val (.int v4), .val (.int v5), .val (.int v6), .val (.int v7), .val (.int (0 : Int32)), .val (.int v9), .val (.int (0 : Int32)), .val (.int v12), .val (.ref b14), .val (.ref b22), .unset, .unset] [(.int (0 : Int32))])
          refine i_istore (L' := #[.val (.int p1), .val (.int p2), .val (.int p3), .val (.int p4), .val (.int p5), .val (.int p6), .val (.int v1), .val (.int v2), .val (.int v3), .val (.int v4), .val (.int v5), .val (.int v6), .val (.int v7), .val (.int (0 : Int32)), .val (.int v9), .val (.int (0 : Int32)), .val (.int v12), .val (.ref b14), .val (.ref b22), .val (.int (0 : Int32)), .unset]) (pc' := 167) X47 hx (hb hby at_165) rfl rfl ?_
          refine i_aload (v := (.ref b22)) (pc' := 169) X47 hx (hb hby at_167) rfl rfl rfl ?_
          refine i_iload (v := (0 : Int32)) (pc' := 171) X47 hx (hb hby at_169) rfl rfl ?_
          refine i_iload (v := v12) (pc' := 173) X47 hx (hb hby at_171) rfl rfl ?_
          refine i_iload (v := v3) (pc' := 175) X47 hx (hb hby at_173) rfl rfl ?_
          refine i_iload (v := v5) (pc' := 177) X47 hx (hb hby at_175) rfl rfl ?_
          refine i_iload (v := v1) (pc' := 179) X47 hx (hb hby at_177) rfl rfl ?_
          refine cS (y := (⟨"com/example/shoal_creek/shoalcreek/MatchedSuffixesSwapPinLaw", "fill", "(Lcom/example/shoal_creek/shoalcreek/MatchedSuffixes;ZZIII)I"⟩ : MethodName)) (rest := []) (pc' := 182) 0 [(.ref b22), (.int (0 : Int32)), (.int v12), (.int v3), (.int v5), (.int v1)] X47 hx hZ hown (hw _ (List.mem_of_getElem? (i := 22) rfl)) (hw _ (List.mem_of_getElem? (i := 23) rfl)) (hw _ (List.mem_of_getElem? (i := 24) rfl)) (hw _ (List.mem_of_getElem? (i := 25) rfl)) (by decide) (rmF0 l Z a0 hw [] b22 (0 : Int32) v12 v3 v5 v1 n0 h46 X47.le (by decide)) (by decide) (by decide) (by rw [hml]; rfl) rfl (lenOf pd8 rfl) rfl (Nat.le_of_eq rfl) (hb hby at_179) rfl (by decide) (by decide) ?_
          intro r48 T48 h48 X48 q48
          obtain ⟨rfl, eh48⟩ := q48
          subst eh48
          show Go _ _ _ _ _ _ _ T48 (mkF m 182 #[.val (.int p1), .val (.int p2), .val (.int p3), .val (.int p4), .val (.int p5), .val (.int p6), .val (.int v1), .val (.int v2), .val (.int v3), .val (.int v4), .val (.int v5), .val (.int v6), .val (.int v7), .val (.int (0 : Int32)), .val (.int v9), .val (.int (0 : Int32)), .val (.int v12), .val (.ref b14), .val (.ref b22), .val (.int (0 : Int32)), .unset] [(.int (0 : Int32))])
          refine i_istore (L' := #[.val (.int p1), .val (.int p2), .val (.int p3), .val (.int p4), .val (.int p5), .val (.int p6), .val (.int v1), .val (.int v2), .val (.int v3), .val (.int v4), .val (.int v5), .val (.int v6), .val (.int v7), .val (.int (0 : Int32)), .val (.int v9), .val (.int (0 : Int32)), .val (.int v12), .val (.ref b14), .val (.ref b22), .val (.int (0 : Int32)), .val (.int (0 : Int32))]) (pc' := 184) X48 hx (hb hby at_182) rfl rfl ?_
          refine i_aload (v := (.ref b14)) (pc' := 186) X48 hx (hb hby at_184) rfl rfl rfl ?_
          refine i_aload (v := (.ref b22)) (pc' := 188) X48 hx (hb hby at_186) rfl rfl rfl ?_
          have F49 : Exa Z h46 b14 "com/example/shoal_creek/shoalcreek/MatchedSuffixes" := ((F31.keep K38c).keep K46c)
          have F50 : Exa Z h46 b22 "com/example/shoal_creek/shoalcreek/MatchedSuffixes" := (F39.keep K46c)
          have F51 : Fld Z h46 b14 "com/example/shoal_creek/shoalcreek/MatchedSuffixes" "ends" "[I" .null := (P38_0.keep K46c (ninS ne_b14_b22 nin0))
          have F52 : Fld Z h46 b14 "com/example/shoal_creek/shoalcreek/MatchedSuffixes" "lengths" "[I" .null := (P38_1.keep K46c (ninS ne_b14_b22 nin0))
          have F53 : Fld Z h46 b14 "com/example/shoal_creek/shoalcreek/MatchedSuffixes" "differings" "[I" .null := (P38_2.keep K46c (ninS ne_b14_b22 nin0))
          have F54 : Fld Z h46 b14 "com/example/shoal_creek/shoalcreek/MatchedSuffixes" "newestEnd" "I" (.int (-1 : Int32)) := (P38_3.keep K46c (ninS ne_b14_b22 nin0))
          refine cV (y := (⟨"com/example/shoal_creek/shoalcreek/MatchedSuffixes", "swap", "(Lcom/example/shoal_creek/shoalcreek/MatchedSuffixes;)V"⟩ : MethodName)) (C := "com/example/shoal_creek/shoalcreek/MatchedSuffixes") (rest := []) (pc' := 191) 0 [(.ref b22)] X48 hx hZ hown (hw _ (List.mem_of_getElem? (i := 51) rfl)) (hw _ (List.mem_of_getElem? (i := 52) rfl)) (hw _ (List.mem_of_getElem? (i := 54) rfl)) (hw _ (List.mem_of_getElem? (i := 53) rfl)) (hw _ (List.mem_of_getElem? (i := 4) rfl)) (hw _ (List.mem_of_getElem? (i := 55) rfl)) (by decide) F49 (rmSw l Z a0 hw [] b14 b22 .null .null .null .null .null .null (-1 : Int32) (-1 : Int32) n0 h46 X48.le F49 F50 F51 F52 F53 F54 P46_0 P46_1 P46_2 P46_3 ge14 ge22 ne_b14_b22 rfl rfl rfl rfl rfl rfl) (by decide) (by decide) (by rw [hml]; rfl) rfl (lenOf pd9 rfl) rfl (Nat.le_of_eq rfl) (hb hby at_188) rfl (by decide) (by decide) ?_
          intro r55 T55 h55 X55 q55
          obtain ⟨rfl, K55c, P55_0, P55_1, P55_2, P55_3, P55_4, P55_5, P55_6, P55_7⟩ := q55
          show Go _ _ _ _ _ _ _ T55 (mkF m 191 #[.val (.int p1), .val (.int p2), .val (.int p3), .val (.int p4), .val (.int p5), .val (.int p6), .val (.int v1), .val (.int v2), .val (.int v3), .val (.int v4), .val (.int v5), .val (.int v6), .val (.int v7), .val (.int (0 : Int32)), .val (.int v9), .val (.int (0 : Int32)), .val (.int v12), .val (.ref b14), .val (.ref b22), .val (.int (0 : Int32)), .val (.int (0 : Int32))] [])
          refine i_aload (v := (.ref b14)) (pc' := 193) X55 hx (hb hby at_191) rfl rfl rfl ?_
          refine i_iload (v := (0 : Int32)) (pc' := 195) X55 hx (hb hby at_193) rfl rfl ?_
          refine i_iload (v := v3) (pc' := 197) X55 hx (hb hby at_195) rfl rfl ?_
          refine i_iload (v := v5) (pc' := 199) X55 hx (hb hby at_197) rfl rfl ?_
          refine i_iload (v := (0 : Int32)) (pc' := 201) X55 hx (hb hby at_199) rfl rfl ?_
          refine i_iload (v := v2) (pc' := 203) X55 hx (hb hby at_201) rfl rfl ?_
          have F56 : Exa Z h55 b14 "com/example/shoal_creek/shoalcreek/MatchedSuffixes" := (F49.keep K55c)
          refine cS (y := (⟨"com/example/shoal_creek/shoalcreek/MatchedSuffixesSwapPinLaw", "check", "(Lcom/example/shoal_creek/shoalcreek/MatchedSuffixes;ZIIII)Z"⟩ : MethodName)) (rest := []) (pc' := 206) 0 [(.ref b14), (.int (0 : Int32)), (.int v3), (.int v5), (.int (0 : Int32)), (.int v2)] X55 hx hZ hown (hw _ (List.mem_of_getElem? (i := 56) rfl)) (hw _ (List.mem_of_getElem? (i := 57) rfl)) (hw _ (List.mem_of_getElem? (i := 24) rfl)) (hw _ (List.mem_of_getElem? (i := 58) rfl)) (by decide) (rmC0 l Z a0 hw [] b14 (0 : Int32) v3 v5 (0 : Int32) v2 n0 h55 X55.le F56 P55_3 (by decide) (own_m1 heb) (own_m1 hea)) (by decide) (by decide) (by rw [hml]; rfl) rfl (lenOf pd10 rfl) rfl (Nat.le_of_eq rfl) (hb hby at_203) rfl (by decide) (by decide) ?_
          intro r57 T57 h57 X57 q57
          obtain ⟨rfl, eh57⟩ := q57
          subst eh57
          show Go _ _ _ _ _ _ _ T57 (mkF m 206 #[.val (.int p1), .val (.int p2), .val (.int p3), .val (.int p4), .val (.int p5), .val (.int p6), .val (.int v1), .val (.int v2), .val (.int v3), .val (.int v4), .val (.int v5), .val (.int v6), .val (.int v7), .val (.int (0 : Int32)), .val (.int v9), .val (.int (0 : Int32)), .val (.int v12), .val (.ref b14), .val (.ref b22), .val (.int (0 : Int32)), .val (.int (0 : Int32))] [(.int (1 : Int32))])
          refine i_ifF (pc' := 209) X57 hx (hb hby at_206) rfl (XT.i0_eq_f (by decide)) ?_
          refine i_aload (v := (.ref b22)) (pc' := 211) X57 hx (hb hby at_209) rfl rfl rfl ?_
          refine i_iload (v := (0 : Int32)) (pc' := 213) X57 hx (hb hby at_211) rfl rfl ?_
          refine i_iload (v := v2) (pc' := 215) X57 hx (hb hby at_213) rfl rfl ?_
          refine i_iload (v := v4) (pc' := 217) X57 hx (hb hby at_215) rfl rfl ?_
          refine i_iload (v := (0 : Int32)) (pc' := 219) X57 hx (hb hby at_217) rfl rfl ?_
          refine i_iload (v := v3) (pc' := 221) X57 hx (hb hby at_219) rfl rfl ?_
          have F58 : Exa Z h55 b22 "com/example/shoal_creek/shoalcreek/MatchedSuffixes" := (F50.keep K55c)
          refine cS (y := (⟨"com/example/shoal_creek/shoalcreek/MatchedSuffixesSwapPinLaw", "check", "(Lcom/example/shoal_creek/shoalcreek/MatchedSuffixes;ZIIII)Z"⟩ : MethodName)) (rest := []) (pc' := 224) 0 [(.ref b22), (.int (0 : Int32)), (.int v2), (.int v4), (.int (0 : Int32)), (.int v3)] X57 hx hZ hown (hw _ (List.mem_of_getElem? (i := 56) rfl)) (hw _ (List.mem_of_getElem? (i := 57) rfl)) (hw _ (List.mem_of_getElem? (i := 24) rfl)) (hw _ (List.mem_of_getElem? (i := 58) rfl)) (by decide) (rmC0 l Z a0 hw [] b22 (0 : Int32) v2 v4 (0 : Int32) v3 n0 h55 X57.le F58 P55_7 (by decide) (own_m1 hea) (own_m1 heb)) (by decide) (by decide) (by rw [hml]; rfl) rfl (lenOf pd10 rfl) rfl (Nat.le_of_eq rfl) (hb hby at_221) rfl (by decide) (by decide) ?_
          intro r59 T59 h59 X59 q59
          obtain ⟨rfl, eh59⟩ := q59
          subst eh59
          show Go _ _ _ _ _ _ _ T59 (mkF m 224 #[.val (.int p1), .val (.int p2), .val (.int p3), .val (.int p4), .val (.int p5), .val (.int p6), .val (.int v1), .val (.int v2), .val (.int v3), .val (.int v4), .val (.int v5), .val (.int v6), .val (.int v7), .val (.int (0 : Int32)), .val (.int v9), .val (.int (0 : Int32)), .val (.int v12), .val (.ref b14), .val (.ref b22), .val (.int (0 : Int32)), .val (.int (0 : Int32))] [(.int (1 : Int32))])
          refine i_ifF (pc' := 227) X59 hx (hb hby at_224) rfl (XT.i0_eq_f (by decide)) ?_
          refine i_iconst (pc' := 228) (1 : Int32) X59 hx (hb hby at_227) rfl (by decide) ?_
          refine i_goto (pc' := 232) X59 hx (hb hby at_228) (by decide) (by decide) ?_
          refine rN X59 hx hlk hret (by simp) (hb hby at_232) (by decide) (by decide) ?_
          exact rfl
        by_cases hc60 : (p6 &&& (8 : Int32)) = 0
        · skip
          refine i_ifT (pc' := 111) X10 hx (hb hby at_104) (XT.i0_eq_t hc60) (by decide) (by decide) ?_
          refine i_iconst (pc' := 112) (0 : Int32) X10 hx (hb hby at_111) rfl (by decide) ?_
          have ev12 := hv12
          simp only [if_pos hc60] at ev12
          rw [ev12] at J13
          exact J13 _ (X10.mono (by decide) (by decide))
        · skip
          refine i_ifF (pc' := 107) X10 hx (hb hby at_104) rfl (XT.i0_eq_f hc60) ?_
          refine i_iconst (pc' := 108) (1 : Int32) X10 hx (hb hby at_107) rfl (by decide) ?_
          refine i_goto (pc' := 112) X10 hx (hb hby at_108) (by decide) (by decide) ?_
          have ev12 := hv12
          simp only [if_neg hc60] at ev12
          rw [ev12] at J13
          exact J13 _ (X10.mono (by decide) (by decide))
      · skip
        refine i_ifF (pc' := 92) X10 hx (hb hby at_89) rfl (XT.i0_eq_f hc11) ?_
        refine i_iconst (pc' := 93) (1 : Int32) X10 hx (hb hby at_92) rfl (by decide) ?_
        refine i_goto (pc' := 97) X10 hx (hb hby at_93) (by decide) (by decide) ?_
        refine i_istore (L' := #[.val (.int p1), .val (.int p2), .val (.int p3), .val (.int p4), .val (.int p5), .val (.int p6), .val (.int v1), .val (.int v2), .val (.int v3), .val (.int v4), .val (.int v5), .val (.int v6), .val (.int v7), .val (.int (0 : Int32)), .val (.int v9), .val (.int (1 : Int32)), .unset, .unset, .unset, .unset, .unset]) (pc' := 99) X10 hx (hb hby at_97) rfl rfl ?_
        refine i_iload (v := p6) (pc' := 101) X10 hx (hb hby at_99) rfl rfl ?_
        refine i_bipush (pc' := 103) (8 : Int32) X10 hx (hb hby at_101) rfl (by decide) ?_
        refine i_iand (pc' := 104) X10 hx (hb hby at_103) rfl ?_
        obtain ⟨v61, hv61⟩ : ∃ zz : Int32, zz = (if (p6 &&& (8 : Int32)) = 0 then (0 : Int32) else (1 : Int32)) := ⟨_, rfl⟩
        have J62 : ∀ (T : State), Pn p l e room_1 s m #[(.int p1), (.int p2), (.int p3), (.int p4), (.int p5), (.int p6)] below meth c T h0 n0 0 0 → Go p e s below n0 Q0 room_1 T (mkF m 112 #[.val (.int p1), .val (.int p2), .val (.int p3), .val (.int p4), .val (.int p5), .val (.int p6), .val (.int v1), .val (.int v2), .val (.int v3), .val (.int v4), .val (.int v5), .val (.int v6), .val (.int v7), .val (.int (0 : Int32)), .val (.int v9), .val (.int (1 : Int32)), .unset, .unset, .unset, .unset, .unset] [(.int v61)]) := by
          intro T62 X62
          refine i_istore (L' := #[.val (.int p1), .val (.int p2), .val (.int p3), .val (.int p4), .val (.int p5), .val (.int p6), .val (.int v1), .val (.int v2), .val (.int v3), .val (.int v4), .val (.int v5), .val (.int v6), .val (.int v7), .val (.int (0 : Int32)), .val (.int v9), .val (.int (1 : Int32)), .val (.int v61), .unset, .unset, .unset, .unset]) (pc' := 114) X62 hx (hb hby at_112) rfl rfl ?_
          refine nw (pc' := 117) X62 hx hZ hown (hw _ (List.mem_of_getElem? (i := 2) rfl)) (hw _ (List.mem_of_getElem? (i := 3) rfl)) (hw _ (List.mem_of_getElem? (i := 4) rfl)) (hb hby at_114) rfl (by decide) (by decide) fun T63 h63 b63 X63 g63 ge63 E63 A63 D63 => ?_
          have sz_b63 : h0.size ≤ b63 := Nat.le_trans ((Keep.refl h0 _) : Keep h0 h0 []).1 (Nat.le_of_eq g63.symm)
          have K63 : Keep h0 h63 [] := ((Keep.refl h0 _) : Keep h0 h0 []).ext E63
          refine i_dup (pc' := 118) X63 hx (hb hby at_117) rfl rfl ?_
          refine i_iload (v := v1) (pc' := 120) X63 hx (hb hby at_118) rfl rfl ?_
          have F64 : Fld Z h63 b63 "com/example/shoal_creek/shoalcreek/MatchedSuffixes" "newestEnd" "I" (.int (0 : Int32)) := (D63 (Or.inl (hw _ (List.mem_of_getElem? (i := 12) rfl))) (ty := .int) (by decide))
          have F65 : Fld Z h63 b63 "com/example/shoal_creek/shoalcreek/MatchedSuffixes" "patternLength" "I" (.int (0 : Int32)) := (D63 (Or.inr (hw _ (List.mem_of_getElem? (i := 14) rfl))) (ty := .int) (by decide))
          have F66 : Fld Z h63 b63 "com/example/shoal_creek/shoalcreek/MatchedSuffixes" "ends" "[I" .null := (D63 (Or.inl (hw _ (List.mem_of_getElem? (i := 36) rfl))) (ty := (.array .int)) (by decide))
          have F67 : Fld Z h63 b63 "com/example/shoal_creek/shoalcreek/MatchedSuffixes" "lengths" "[I" .null := (D63 (Or.inl (hw _ (List.mem_of_getElem? (i := 39) rfl))) (ty := (.array .int)) (by decide))
          have F68 : Fld Z h63 b63 "com/example/shoal_creek/shoalcreek/MatchedSuffixes" "differings" "[I" .null := (D63 (Or.inl (hw _ (List.mem_of_getElem? (i := 41) rfl))) (ty := (.array .int)) (by decide))
          have F69 : Fld Z h63 b63 "com/example/shoal_creek/shoalcreek/MatchedSuffixes" "differing" "C" (.int (0 : Int32)) := (D63 (Or.inl (hw _ (List.mem_of_getElem? (i := 21) rfl))) (ty := .char) (by decide))
          refine cI (y := (⟨"com/example/shoal_creek/shoalcreek/MatchedSuffixes", "<init>", "(I)V"⟩ : MethodName)) (rest := [(.ref b63)]) (pc' := 123) (a := b63) 1 [(.int v1)] X63 hx hZ hown rfl (hw _ (List.mem_of_getElem? (i := 5) rfl)) (hw _ (List.mem_of_getElem? (i := 6) rfl)) (hw _ (List.mem_of_getElem? (i := 4) rfl)) (hw _ (List.mem_of_getElem? (i := 7) rfl)) (by decide) (rmNew l Z a0 hw [] b63 v1 n0 h63 X63.le A63 F64 F65 F66 F67 F68 F69 ge63) (by decide) (by decide) (by rw [hml]; rfl) rfl (lenOf pd6 rfl) rfl (Nat.le_of_eq rfl) (hb hby at_120) rfl (by decide) (by decide) ?_
          intro r70 T70 h70 X70 q70
          obtain ⟨rfl, K70c, P70_0, P70_1, P70_2, P70_3, P70_4, P70_5⟩ := q70
          show Go _ _ _ _ _ _ _ T70 (mkF m 123 #[.val (.int p1), .val (.int p2), .val (.int p3), .val (.int p4), .val (.int p5), .val (.int p6), .val (.int v1), .val (.int v2), .val (.int v3), .val (.int v4), .val (.int v5), .val (.int v6), .val (.int v7), .val (.int (0 : Int32)), .val (.int v9), .val (.int (1 : Int32)), .val (.int v61), .unset, .unset, .unset, .unset] [(.ref b63)])
          refine i_astore (L' := #[.val (.int p1), .val (.int p2), .val (.int p3), .val (.int p4), .val (.int p5), .val (.int p6), .val (.int v1), .val (.int v2), .val (.int v3), .val (.int v4), .val (.int v5), .val (.int v6), .val (.int v7), .val (.int (0 : Int32)), .val (.int v9), .val (.int (1 : Int32)), .val (.int v61), .val (.ref b63), .unset, .unset, .unset]) (pc' := 125) X70 hx (hb hby at_123) rfl rfl rfl ?_
          refine nw (pc' := 128) X70 hx hZ hown (hw _ (List.mem_of_getElem? (i := 2) rfl)) (hw _ (List.mem_of_getElem? (i := 3) rfl)) (hw _ (List.mem_of_getElem? (i := 4) rfl)) (hb hby at_125) rfl (by decide) (by decide) fun T71 h71 b71 X71 g71 ge71 E71 A71 D71 => ?_
          have F72 : Exa Z h70 b63 "com/example/shoal_creek/shoalcreek/MatchedSuffixes" := (A63.keep K70c)
          have ne_b63_b71 : b63 ≠ b71 := Nat.ne_of_lt (Nat.lt_of_lt_of_eq F72.lt g71.symm)
          have sz_b71 : h0.size ≤ b71 := Nat.le_trans (((K63 : Keep h0 h63 []).trans K70c (allS (Or.inr sz_b63) all0)) : Keep h0 h70 []).1 (Nat.le_of_eq g71.symm)
          have K71 : Keep h0 h71 [] := (((K63 : Keep h0 h63 []).trans K70c (allS (Or.inr sz_b63) all0)) : Keep h0 h70 []).ext E71
          refine i_dup (pc' := 129) X71 hx (hb hby at_128) rfl rfl ?_
          refine i_iload (v := v1) (pc' := 131) X71 hx (hb hby at_129) rfl rfl ?_
          have F73 : Fld Z h71 b71 "com/example/shoal_creek/shoalcreek/MatchedSuffixes" "newestEnd" "I" (.int (0 : Int32)) := (D71 (Or.inl (hw _ (List.mem_of_getElem? (i := 12) rfl))) (ty := .int) (by decide))
          have F74 : Fld Z h71 b71 "com/example/shoal_creek/shoalcreek/MatchedSuffixes" "patternLength" "I" (.int (0 : Int32)) := (D71 (Or.inr (hw _ (List.mem_of_getElem? (i := 14) rfl))) (ty := .int) (by decide))
          have F75 : Fld Z h71 b71 "com/example/shoal_creek/shoalcreek/MatchedSuffixes" "ends" "[I" .null := (D71 (Or.inl (hw _ (List.mem_of_getElem? (i := 36) rfl))) (ty := (.array .int)) (by decide))
          have F76 : Fld Z h71 b71 "com/example/shoal_creek/shoalcreek/MatchedSuffixes" "lengths" "[I" .null := (D71 (Or.inl (hw _ (List.mem_of_getElem? (i := 39) rfl))) (ty := (.array .int)) (by decide))
          have F77 : Fld Z h71 b71 "com/example/shoal_creek/shoalcreek/MatchedSuffixes" "differings" "[I" .null := (D71 (Or.inl (hw _ (List.mem_of_getElem? (i := 41) rfl))) (ty := (.array .int)) (by decide))
          have F78 : Fld Z h71 b71 "com/example/shoal_creek/shoalcreek/MatchedSuffixes" "differing" "C" (.int (0 : Int32)) := (D71 (Or.inl (hw _ (List.mem_of_getElem? (i := 21) rfl))) (ty := .char) (by decide))
          refine cI (y := (⟨"com/example/shoal_creek/shoalcreek/MatchedSuffixes", "<init>", "(I)V"⟩ : MethodName)) (rest := [(.ref b71)]) (pc' := 134) (a := b71) 1 [(.int v1)] X71 hx hZ hown rfl (hw _ (List.mem_of_getElem? (i := 5) rfl)) (hw _ (List.mem_of_getElem? (i := 6) rfl)) (hw _ (List.mem_of_getElem? (i := 4) rfl)) (hw _ (List.mem_of_getElem? (i := 7) rfl)) (by decide) (rmNew l Z a0 hw [] b71 v1 n0 h71 X71.le A71 F73 F74 F75 F76 F77 F78 ge71) (by decide) (by decide) (by rw [hml]; rfl) rfl (lenOf pd6 rfl) rfl (Nat.le_of_eq rfl) (hb hby at_131) rfl (by decide) (by decide) ?_
          intro r79 T79 h79 X79 q79
          obtain ⟨rfl, K79c, P79_0, P79_1, P79_2, P79_3, P79_4, P79_5⟩ := q79
          show Go _ _ _ _ _ _ _ T79 (mkF m 134 #[.val (.int p1), .val (.int p2), .val (.int p3), .val (.int p4), .val (.int p5), .val (.int p6), .val (.int v1), .val (.int v2), .val (.int v3), .val (.int v4), .val (.int v5), .val (.int v6), .val (.int v7), .val (.int (0 : Int32)), .val (.int v9), .val (.int (1 : Int32)), .val (.int v61), .val (.ref b63), .unset, .unset, .unset] [(.ref b71)])
          refine i_astore (L' := #[.val (.int p1), .val (.int p2), .val (.int p3), .val (.int p4), .val (.int p5), .val (.int p6), .val (.int v1), .val (.int v2), .val (.int v3), .val (.int v4), .val (.int v5), .val (.int v6), .val (.int v7), .val (.int (0 : Int32)), .val (.int v9), .val (.int (1 : Int32)), .val (.int v61), .val (.ref b63), .val (.ref b71), .unset, .unset]) (pc' := 136) X79 hx (hb hby at_134) rfl rfl rfl ?_
          refine i_aload (v := (.ref b63)) (pc' := 138) X79 hx (hb hby at_136) rfl rfl rfl ?_
          refine i_iload (v := v6) (pc' := 140) X79 hx (hb hby at_138) rfl rfl ?_
          have F80 : Exa Z h79 b63 "com/example/shoal_creek/shoalcreek/MatchedSuffixes" := ((Jvm.RoadKit.Exa.ext E71 F72).keep K79c)
          have F81 : Fld Z h79 b63 "com/example/shoal_creek/shoalcreek/MatchedSuffixes" "ends" "[I" .null := ((Jvm.RoadKit.Fld.ext E71 P70_2).keep K79c (ninS ne_b63_b71 nin0))
          have F82 : Fld Z h79 b63 "com/example/shoal_creek/shoalcreek/MatchedSuffixes" "lengths" "[I" .null := ((Jvm.RoadKit.Fld.ext E71 P70_3).keep K79c (ninS ne_b63_b71 nin0))
          have F83 : Fld Z h79 b63 "com/example/shoal_creek/shoalcreek/MatchedSuffixes" "differings" "[I" .null := ((Jvm.RoadKit.Fld.ext E71 P70_4).keep K79c (ninS ne_b63_b71 nin0))
          have F84 : Fld Z h79 b63 "com/example/shoal_creek/shoalcreek/MatchedSuffixes" "newestEnd" "I" (.int (-1 : Int32)) := ((Jvm.RoadKit.Fld.ext E71 P70_0).keep K79c (ninS ne_b63_b71 nin0))
          have F85 : Fld Z h79 b63 "com/example/shoal_creek/shoalcreek/MatchedSuffixes" "patternLength" "I" (.int v1) := ((Jvm.RoadKit.Fld.ext E71 P70_1).keep K79c (ninS ne_b63_b71 nin0))
          have F86 : Fld Z h79 b63 "com/example/shoal_creek/shoalcreek/MatchedSuffixes" "differing" "C" (.int (0 : Int32)) := ((Jvm.RoadKit.Fld.ext E71 P70_5).keep K79c (ninS ne_b63_b71 nin0))
          refine cV (y := (⟨"com/example/shoal_creek/shoalcreek/MatchedSuffixes", "noteDiffering", "(C)V"⟩ : MethodName)) (C := "com/example/shoal_creek/shoalcreek/MatchedSuffixes") (rest := []) (pc' := 143) 0 [(.int v6)] X79 hx hZ hown (hw _ (List.mem_of_getElem? (i := 15) rfl)) (hw _ (List.mem_of_getElem? (i := 16) rfl)) (hw _ (List.mem_of_getElem? (i := 18) rfl)) (hw _ (List.mem_of_getElem? (i := 17) rfl)) (hw _ (List.mem_of_getElem? (i := 4) rfl)) (hw _ (List.mem_of_getElem? (i := 19) rfl)) (by decide) F80 (rmNote l Z a0 hw [] b63 v6 v1 (-1 : Int32) (0 : Int32) n0 h79 X79.le F80 F81 F82 F83 F84 F85 F86 ge63 hca) (by decide) (by decide) (by rw [hml]; rfl) rfl (lenOf pd7 rfl) rfl (Nat.le_of_eq rfl) (hb hby at_140) rfl (by decide) (by decide) ?_
          intro r87 T87 h87 X87 q87
          obtain ⟨rfl, K87c, P87_0, P87_1, P87_2, P87_3, P87_4, P87_5⟩ := q87
          show Go _ _ _ _ _ _ _ T87 (mkF m 143 #[.val (.int p1), .val (.int p2), .val (.int p3), .val (.int p4), .val (.int p5), .val (.int p6), .val (.int v1), .val (.int v2), .val (.int v3), .val (.int v4), .val (.int v5), .val (.int v6), .val (.int v7), .val (.int (0 : Int32)), .val (.int v9), .val (.int (1 : Int32)), .val (.int v61), .val (.ref b63), .val (.ref b71), .unset, .unset] [])
          refine i_aload (v := (.ref b71)) (pc' := 145) X87 hx (hb hby at_143) rfl rfl rfl ?_
          refine i_iload (v := v7) (pc' := 147) X87 hx (hb hby at_145) rfl rfl ?_
          have F88 : Exa Z h87 b71 "com/example/shoal_creek/shoalcreek/MatchedSuffixes" := ((A71.keep K79c).keep K87c)
          have F89 : Fld Z h87 b71 "com/example/shoal_creek/shoalcreek/MatchedSuffixes" "ends" "[I" .null := (P79_2.keep K87c (ninS (Ne.symm ne_b63_b71) nin0))
          have F90 : Fld Z h87 b71 "com/example/shoal_creek/shoalcreek/MatchedSuffixes" "lengths" "[I" .null := (P79_3.keep K87c (ninS (Ne.symm ne_b63_b71) nin0))
          have F91 : Fld Z h87 b71 "com/example/shoal_creek/shoalcreek/MatchedSuffixes" "differings" "[I" .null := (P79_4.keep K87c (ninS (Ne.symm ne_b63_b71) nin0))
          have F92 : Fld Z h87 b71 "com/example/shoal_creek/shoalcreek/MatchedSuffixes" "newestEnd" "I" (.int (-1 : Int32)) := (P79_0.keep K87c (ninS (Ne.symm ne_b63_b71) nin0))
          have F93 : Fld Z h87 b71 "com/example/shoal_creek/shoalcreek/MatchedSuffixes" "patternLength" "I" (.int v1) := (P79_1.keep K87c (ninS (Ne.symm ne_b63_b71) nin0))
          have F94 : Fld Z h87 b71 "com/example/shoal_creek/shoalcreek/MatchedSuffixes" "differing" "C" (.int (0 : Int32)) := (P79_5.keep K87c (ninS (Ne.symm ne_b63_b71) nin0))
          refine cV (y := (⟨"com/example/shoal_creek/shoalcreek/MatchedSuffixes", "noteDiffering", "(C)V"⟩ : MethodName)) (C := "com/example/shoal_creek/shoalcreek/MatchedSuffixes") (rest := []) (pc' := 150) 0 [(.int v7)] X87 hx hZ hown (hw _ (List.mem_of_getElem? (i := 15) rfl)) (hw _ (List.mem_of_getElem? (i := 16) rfl)) (hw _ (List.mem_of_getElem? (i := 18) rfl)) (hw _ (List.mem_of_getElem? (i := 17) rfl)) (hw _ (List.mem_of_getElem? (i := 4) rfl)) (hw _ (List.mem_of_getElem? (i := 19) rfl)) (by decide) F88 (rmNote l Z a0 hw [] b71 v7 v1 (-1 : Int32) (0 : Int32) n0 h87 X87.le F88 F89 F90 F91 F92 F93 F94 ge71 hcb) (by decide) (by decide) (by rw [hml]; rfl) rfl (lenOf pd7 rfl) rfl (Nat.le_of_eq rfl) (hb hby at_147) rfl (by decide) (by decide) ?_
          intro r95 T95 h95 X95 q95
          obtain ⟨rfl, K95c, P95_0, P95_1, P95_2, P95_3, P95_4, P95_5⟩ := q95
          show Go _ _ _ _ _ _ _ T95 (mkF m 150 #[.val (.int p1), .val (.int p2), .val (.int p3), .val (.int p4), .val (.int p5), .val (.int p6), .val (.int v1), .val (.int v2), .val (.int v3), .val (.int v4), .val (.int v5), .val (.int v6), .val (.int v7), .val (.int (0 : Int32)), .val (.int v9), .val (.int (1 : Int32)), .val (.int v61), .val (.ref b63), .val (.ref b71), .unset, .unset] [])
          refine i_aload (v := (.ref b63)) (pc' := 152) X95 hx (hb hby at_150) rfl rfl rfl ?_
          refine i_iload (v := (0 : Int32)) (pc' := 154) X95 hx (hb hby at_152) rfl rfl ?_
          refine i_iload (v := v9) (pc' := 156) X95 hx (hb hby at_154) rfl rfl ?_
          refine i_iload (v := v2) (pc' := 158) X95 hx (hb hby at_156) rfl rfl ?_
          refine i_iload (v := v4) (pc' := 160) X95 hx (hb hby at_158) rfl rfl ?_
          refine i_iload (v := v1) (pc' := 162) X95 hx (hb hby at_160) rfl rfl ?_
          refine cS (y := (⟨"com/example/shoal_creek/shoalcreek/MatchedSuffixesSwapPinLaw", "fill", "(Lcom/example/shoal_creek/shoalcreek/MatchedSuffixes;ZZIII)I"⟩ : MethodName)) (rest := []) (pc' := 165) 0 [(.ref b63), (.int (0 : Int32)), (.int v9), (.int v2), (.int v4), (.int v1)] X95 hx hZ hown (hw _ (List.mem_of_getElem? (i := 22) rfl)) (hw _ (List.mem_of_getElem? (i := 23) rfl)) (hw _ (List.mem_of_getElem? (i := 24) rfl)) (hw _ (List.mem_of_getElem? (i := 25) rfl)) (by decide) (rmF0 l Z a0 hw [] b63 (0 : Int32) v9 v2 v4 v1 n0 h95 X95.le (by decide)) (by decide) (by decide) (by rw [hml]; rfl) rfl (lenOf pd8 rfl) rfl (Nat.le_of_eq rfl) (hb hby at_162) rfl (by decide) (by decide) ?_
          intro r96 T96 h96 X96 q96
          obtain ⟨rfl, eh96⟩ := q96
          subst eh96
          show Go _ _ _ _ _ _ _ T96 (mkF m 165 #[.val (.int p1), .val (.int p2), .val (.int p3), .val (.int p4), .val (.int p5), .val (.int p6), .val (.int v1), .val (.int v2), .val (.int v3), .val (.int v4), .val (.int v5), .val (.int v6), .val (.int v7), .val (.int (0 : Int32)), .val (.int v9), .val (.int (1 : Int32)), .val (.int v61), .val (.ref b63), .val (.ref b71), .unset, .unset] [(.int (0 : Int32))])
          refine i_istore (L' := #[.val (.int p1), .val (.int p2), .val (.int p3), .val (.int p4), .val (.int p5), .val (.int p6), .val (.int v1), .val (.int v2), .val (.int v3), .val (.int v4), .val (.int v5), .val (.int v6), .val (.int v7), .val (.int (0 : Int32)), .val (.int v9), .val (.int (1 : Int32)), .val (.int v61), .val (.ref b63), .val (.ref b71), .val (.int (0 : Int32)), .unset]) (pc' := 167) X96 hx (hb hby at_165) rfl rfl ?_
          refine i_aload (v := (.ref b71)) (pc' := 169) X96 hx (hb hby at_167) rfl rfl rfl ?_
          refine i_iload (v := (1 : Int32)) (pc' := 171) X96 hx (hb hby at_169) rfl rfl ?_
          refine i_iload (v := v61) (pc' := 173) X96 hx (hb hby at_171) rfl rfl ?_
          refine i_iload (v := v3) (pc' := 175) X96 hx (hb hby at_173) rfl rfl ?_
          refine i_iload (v := v5) (pc' := 177) X96 hx (hb hby at_175) rfl rfl ?_
          refine i_iload (v := v1) (pc' := 179) X96 hx (hb hby at_177) rfl rfl ?_
          have F97 : Exa Z h95 b71 "com/example/shoal_creek/shoalcreek/MatchedSuffixes" := (F88.keep K95c)
          refine cS (y := (⟨"com/example/shoal_creek/shoalcreek/MatchedSuffixesSwapPinLaw", "fill", "(Lcom/example/shoal_creek/shoalcreek/MatchedSuffixes;ZZIII)I"⟩ : MethodName)) (rest := []) (pc' := 182) 0 [(.ref b71), (.int (1 : Int32)), (.int v61), (.int v3), (.int v5), (.int v1)] X96 hx hZ hown (hw _ (List.mem_of_getElem? (i := 22) rfl)) (hw _ (List.mem_of_getElem? (i := 23) rfl)) (hw _ (List.mem_of_getElem? (i := 24) rfl)) (hw _ (List.mem_of_getElem? (i := 25) rfl)) (by decide) (rmF1 l Z a0 hw [] b71 (1 : Int32) v61 v3 v5 v1 (-1 : Int32) v7 n0 h95 X96.le F97 P95_0 P95_1 P95_2 P95_3 P95_4 P95_5 ge71 (by decide) hpl hlb (own_nch hcb.1)) (by decide) (by decide) (by rw [hml]; rfl) rfl (lenOf pd8 rfl) rfl (Nat.le_of_eq rfl) (hb hby at_179) rfl (by decide) (by decide) ?_
          intro r98 T98 h98 X98 q98
          have F99 : Exa Z h95 b63 "com/example/shoal_creek/shoalcreek/MatchedSuffixes" := ((F80.keep K87c).keep K95c)
          obtain ⟨aE98, aL98, aD98, rfl, K98c, P98_0, P98_1, P98_2, P98_3, P98_4, P98_5, P98_6, P98_7, P98_8, fz98_aE, fz98_aL, fz98_aD, fn98_aE_aL, fn98_aE_aD, fn98_aL_aD⟩ := q98
          have ge_aE98 : n0 ≤ aE98 := Nat.le_trans X96.le fz98_aE
          have sz_aE98 : h0.size ≤ aE98 := Nat.le_trans (((((((K71 : Keep h0 h71 []).trans K79c (allS (Or.inr sz_b71) all0)) : Keep h0 h79 []).trans K87c (allS (Or.inr sz_b63) all0)) : Keep h0 h87 []).trans K95c (allS (Or.inr sz_b71) all0)) : Keep h0 h95 []).1 fz98_aE
          have ne_b63_aE98 : b63 ≠ aE98 := Nat.ne_of_lt (Nat.lt_of_lt_of_le F99.lt fz98_aE)
          have ne_b71_aE98 : b71 ≠ aE98 := Nat.ne_of_lt (Nat.lt_of_lt_of_le F97.lt fz98_aE)
          have ge_aL98 : n0 ≤ aL98 := Nat.le_trans X96.le fz98_aL
          have sz_aL98 : h0.size ≤ aL98 := Nat.le_trans (((((((K71 : Keep h0 h71 []).trans K79c (allS (Or.inr sz_b71) all0)) : Keep h0 h79 []).trans K87c (allS (Or.inr sz_b63) all0)) : Keep h0 h87 []).trans K95c (allS (Or.inr sz_b71) all0)) : Keep h0 h95 []).1 fz98_aL
          have ne_b63_aL98 : b63 ≠ aL98 := Nat.ne_of_lt (Nat.lt_of_lt_of_le F99.lt fz98_aL)
          have ne_b71_aL98 : b71 ≠ aL98 := Nat.ne_of_lt (Nat.lt_of_lt_of_le F97.lt fz98_aL)
          have ge_aD98 : n0 ≤ aD98 := Nat.le_trans X96.le fz98_aD
          have sz_aD98 : h0.size ≤ aD98 := Nat.le_trans (((((((K71 : Keep h0 h71 []).trans K79c (allS (Or.inr sz_b71) all0)) : Keep h0 h79 []).trans K87c (allS (Or.inr sz_b63) all0)) : Keep h0 h87 []).trans K95c (allS (Or.inr sz_b71) all0)) : Keep h0 h95 []).1 fz98_aD
          have ne_b63_aD98 : b63 ≠ aD98 := Nat.ne_of_lt (Nat.lt_of_lt_of_le F99.lt fz98_aD)
          have ne_b71_aD98 : b71 ≠ aD98 := Nat.ne_of_lt (Nat.lt_of_lt_of_le F97.lt fz98_aD)
          show Go _ _ _ _ _ _ _ T98 (mkF m 182 #[.val (.int p1), .val (.int p2), .val (.int p3), .val (.int p4), .val (.int p5), .val (.int p6), .val (.int v1), .val (.int v2), .val (.int v3), .val (.int v4), .val (.int v5), .val (.int v6), .val (.int v7), .val (.int (0 : Int32)), .val (.int v9), .val (.int (1 : Int32)), .val (.int v61), .val (.ref b63), .val (.ref b71), .val (.int (0 : Int32)), .unset] [(.int (if v61 = 0 then (if v5 < v1 then v7 else (-2 : Int32)) else (-1 : Int32)))])
          refine i_istore (L' := #[.val (.int p1), .val (.int p2), .val (.int p3), .val (.int p4), .val (.int p5), .val (.int p6), .val (.int v1), .val (.int v2), .val (.int v3), .val (.int v4), .val (.int v5), .val (.int v6), .val (.int v7), .val (.int (0 : Int32)), .val (.int v9), .val (.int (1 : Int32)), .val (.int v61), .val (.ref b63), .val (.ref b71), .val (.int (0 : Int32)), .val (.int (if v61 = 0 then (if v5 < v1 then v7 else (-2 : Int32)) else (-1 : Int32)))]) (pc' := 184) X98 hx (hb hby at_182) rfl rfl ?_
          refine i_aload (v := (.ref b63)) (pc' := 186) X98 hx (hb hby at_184) rfl rfl rfl ?_
          refine i_aload (v := (.ref b71)) (pc' := 188) X98 hx (hb hby at_186) rfl rfl rfl ?_
          have F100 : Exa Z h98 b63 "com/example/shoal_creek/shoalcreek/MatchedSuffixes" := (F99.keep K98c)
          have F101 : Exa Z h98 b71 "com/example/shoal_creek/shoalcreek/MatchedSuffixes" := (F97.keep K98c)
          have F102 : Fld Z h98 b63 "com/example/shoal_creek/shoalcreek/MatchedSuffixes" "ends" "[I" .null := ((P87_0.keep K95c (ninS ne_b63_b71 nin0)).keep K98c (ninS ne_b63_b71 nin0))
          have F103 : Fld Z h98 b63 "com/example/shoal_creek/shoalcreek/MatchedSuffixes" "lengths" "[I" .null := ((P87_1.keep K95c (ninS ne_b63_b71 nin0)).keep K98c (ninS ne_b63_b71 nin0))
          have F104 : Fld Z h98 b63 "com/example/shoal_creek/shoalcreek/MatchedSuffixes" "differings" "[I" .null := ((P87_2.keep K95c (ninS ne_b63_b71 nin0)).keep K98c (ninS ne_b63_b71 nin0))
          have F105 : Fld Z h98 b63 "com/example/shoal_creek/shoalcreek/MatchedSuffixes" "newestEnd" "I" (.int (-1 : Int32)) := ((P87_3.keep K95c (ninS ne_b63_b71 nin0)).keep K98c (ninS ne_b63_b71 nin0))
          refine cV (y := (⟨"com/example/shoal_creek/shoalcreek/MatchedSuffixes", "swap", "(Lcom/example/shoal_creek/shoalcreek/MatchedSuffixes;)V"⟩ : MethodName)) (C := "com/example/shoal_creek/shoalcreek/MatchedSuffixes") (rest := []) (pc' := 191) 0 [(.ref b71)] X98 hx hZ hown (hw _ (List.mem_of_getElem? (i := 51) rfl)) (hw _ (List.mem_of_getElem? (i := 52) rfl)) (hw _ (List.mem_of_getElem? (i := 54) rfl)) (hw _ (List.mem_of_getElem? (i := 53) rfl)) (hw _ (List.mem_of_getElem? (i := 4) rfl)) (hw _ (List.mem_of_getElem? (i := 55) rfl)) (by decide) F100 (rmSw l Z a0 hw [] b63 b71 .null .null .null (.ref aE98) (.ref aL98) (.ref aD98) (-1 : Int32) (own_max (-1 : Int32) v3) n0 h98 X98.le F100 F101 F102 F103 F104 F105 P98_0 P98_1 P98_2 P98_3 ge63 ge71 ne_b63_b71 rfl rfl rfl rfl rfl rfl) (by decide) (by decide) (by rw [hml]; rfl) rfl (lenOf pd9 rfl) rfl (Nat.le_of_eq rfl) (hb hby at_188) rfl (by decide) (by decide) ?_
          intro r106 T106 h106 X106 q106
          obtain ⟨rfl, K106c, P106_0, P106_1, P106_2, P106_3, P106_4, P106_5, P106_6, P106_7⟩ := q106
          show Go _ _ _ _ _ _ _ T106 (mkF m 191 #[.val (.int p1), .val (.int p2), .val (.int p3), .val (.int p4), .val (.int p5), .val (.int p6), .val (.int v1), .val (.int v2), .val (.int v3), .val (.int v4), .val (.int v5), .val (.int v6), .val (.int v7), .val (.int (0 : Int32)), .val (.int v9), .val (.int (1 : Int32)), .val (.int v61), .val (.ref b63), .val (.ref b71), .val (.int (0 : Int32)), .val (.int (if v61 = 0 then (if v5 < v1 then v7 else (-2 : Int32)) else (-1 : Int32)))] [])
          refine i_aload (v := (.ref b63)) (pc' := 193) X106 hx (hb hby at_191) rfl rfl rfl ?_
          refine i_iload (v := (1 : Int32)) (pc' := 195) X106 hx (hb hby at_193) rfl rfl ?_
          refine i_iload (v := v3) (pc' := 197) X106 hx (hb hby at_195) rfl rfl ?_
          refine i_iload (v := v5) (pc' := 199) X106 hx (hb hby at_197) rfl rfl ?_
          refine i_iload (v := (if v61 = 0 then (if v5 < v1 then v7 else (-2 : Int32)) else (-1 : Int32))) (pc' := 201) X106 hx (hb hby at_199) rfl rfl ?_
          refine i_iload (v := v2) (pc' := 203) X106 hx (hb hby at_201) rfl rfl ?_
          have F107 : Exa Z h106 b63 "com/example/shoal_creek/shoalcreek/MatchedSuffixes" := (F100.keep K106c)
          have F108 : Av Z h106 aE98 .int (own_N v1) (fun i => .int ((own_up own_zero (own_k v3 (own_N v1)) v3) i)) := (P98_6.keep K106c (ninS (Ne.symm ne_b63_aE98) (ninS (Ne.symm ne_b71_aE98) nin0)))
          have F109 : Av Z h106 aL98 .int (own_N v1) (fun i => .int ((own_up own_zero (own_k v3 (own_N v1)) v5) i)) := (P98_7.keep K106c (ninS (Ne.symm ne_b63_aL98) (ninS (Ne.symm ne_b71_aL98) nin0)))
          have F110 : Av Z h106 aD98 .int (own_N v1) (fun i => .int ((own_up own_zero (own_k v3 (own_N v1)) (if v61 = 0 then (if v5 < v1 then v7 else (-2 : Int32)) else (-1 : Int32))) i)) := (P98_8.keep K106c (ninS (Ne.symm ne_b63_aD98) (ninS (Ne.symm ne_b71_aD98) nin0)))
          refine cS (y := (⟨"com/example/shoal_creek/shoalcreek/MatchedSuffixesSwapPinLaw", "check", "(Lcom/example/shoal_creek/shoalcreek/MatchedSuffixes;ZIIII)Z"⟩ : MethodName)) (rest := []) (pc' := 206) 0 [(.ref b63), (.int (1 : Int32)), (.int v3), (.int v5), (.int (if v61 = 0 then (if v5 < v1 then v7 else (-2 : Int32)) else (-1 : Int32))), (.int v2)] X106 hx hZ hown (hw _ (List.mem_of_getElem? (i := 56) rfl)) (hw _ (List.mem_of_getElem? (i := 57) rfl)) (hw _ (List.mem_of_getElem? (i := 24) rfl)) (hw _ (List.mem_of_getElem? (i := 58) rfl)) (by decide) (rmC1 l Z a0 hw [] b63 (1 : Int32) v3 v5 (if v61 = 0 then (if v5 < v1 then v7 else (-2 : Int32)) else (-1 : Int32)) v2 (own_max (-1 : Int32) v3) aE98 aL98 aD98 (own_N v1) n0 h106 X106.le F107 P106_3 P106_0 P106_1 P106_2 F108 F109 F110 (by decide) (own_w1 heb) (own_Np _)) (by decide) (by decide) (by rw [hml]; rfl) rfl (lenOf pd10 rfl) rfl (Nat.le_of_eq rfl) (hb hby at_203) rfl (by decide) (by decide) ?_
          intro r111 T111 h111 X111 q111
          obtain ⟨rfl, eh111⟩ := q111
          subst eh111
          show Go _ _ _ _ _ _ _ T111 (mkF m 206 #[.val (.int p1), .val (.int p2), .val (.int p3), .val (.int p4), .val (.int p5), .val (.int p6), .val (.int v1), .val (.int v2), .val (.int v3), .val (.int v4), .val (.int v5), .val (.int v6), .val (.int v7), .val (.int (0 : Int32)), .val (.int v9), .val (.int (1 : Int32)), .val (.int v61), .val (.ref b63), .val (.ref b71), .val (.int (0 : Int32)), .val (.int (if v61 = 0 then (if v5 < v1 then v7 else (-2 : Int32)) else (-1 : Int32)))] [(.int (1 : Int32))])
          refine i_ifF (pc' := 209) X111 hx (hb hby at_206) rfl (XT.i0_eq_f (by decide)) ?_
          refine i_aload (v := (.ref b71)) (pc' := 211) X111 hx (hb hby at_209) rfl rfl rfl ?_
          refine i_iload (v := (0 : Int32)) (pc' := 213) X111 hx (hb hby at_211) rfl rfl ?_
          refine i_iload (v := v2) (pc' := 215) X111 hx (hb hby at_213) rfl rfl ?_
          refine i_iload (v := v4) (pc' := 217) X111 hx (hb hby at_215) rfl rfl ?_
          refine i_iload (v := (0 : Int32)) (pc' := 219) X111 hx (hb hby at_217) rfl rfl ?_
          refine i_iload (v := v3) (pc' := 221) X111 hx (hb hby at_219) rfl rfl ?_
          have F112 : Exa Z h106 b71 "com/example/shoal_creek/shoalcreek/MatchedSuffixes" := (F101.keep K106c)
          refine cS (y := (⟨"com/example/shoal_creek/shoalcreek/MatchedSuffixesSwapPinLaw", "check", "(Lcom/example/shoal_creek/shoalcreek/MatchedSuffixes;ZIIII)Z"⟩ : MethodName)) (rest := []) (pc' := 224) 0 [(.ref b71), (.int (0 : Int32)), (.int v2), (.int v4), (.int (0 : Int32)), (.int v3)] X111 hx hZ hown (hw _ (List.mem_of_getElem? (i := 56) rfl)) (hw _ (List.mem_of_getElem? (i := 57) rfl)) (hw _ (List.mem_of_getElem? (i := 24) rfl)) (hw _ (List.mem_of_getElem? (i := 58) rfl)) (by decide) (rmC0 l Z a0 hw [] b71 (0 : Int32) v2 v4 (0 : Int32) v3 n0 h106 X111.le F112 P106_7 (by decide) (own_m1 hea) (own_m1 heb)) (by decide) (by decide) (by rw [hml]; rfl) rfl (lenOf pd10 rfl) rfl (Nat.le_of_eq rfl) (hb hby at_221) rfl (by decide) (by decide) ?_
          intro r113 T113 h113 X113 q113
          obtain ⟨rfl, eh113⟩ := q113
          subst eh113
          show Go _ _ _ _ _ _ _ T113 (mkF m 224 #[.val (.int p1), .val (.int p2), .val (.int p3), .val (.int p4), .val (.int p5), .val (.int p6), .val (.int v1), .val (.int v2), .val (.int v3), .val (.int v4), .val (.int v5), .val (.int v6), .val (.int v7), .val (.int (0 : Int32)), .val (.int v9), .val (.int (1 : Int32)), .val (.int v61), .val (.ref b63), .val (.ref b71), .val (.int (0 : Int32)), .val (.int (if v61 = 0 then (if v5 < v1 then v7 else (-2 : Int32)) else (-1 : Int32)))] [(.int (1 : Int32))])
          refine i_ifF (pc' := 227) X113 hx (hb hby at_224) rfl (XT.i0_eq_f (by decide)) ?_
          refine i_iconst (pc' := 228) (1 : Int32) X113 hx (hb hby at_227) rfl (by decide) ?_
          refine i_goto (pc' := 232) X113 hx (hb hby at_228) (by decide) (by decide) ?_
          refine rN X113 hx hlk hret (by simp) (hb hby at_232) (by decide) (by decide) ?_
          exact rfl
        by_cases hc114 : (p6 &&& (8 : Int32)) = 0
        · skip
          refine i_ifT (pc' := 111) X10 hx (hb hby at_104) (XT.i0_eq_t hc114) (by decide) (by decide) ?_
          refine i_iconst (pc' := 112) (0 : Int32) X10 hx (hb hby at_111) rfl (by decide) ?_
          have ev61 := hv61
          simp only [if_pos hc114] at ev61
          rw [ev61] at J62
          exact J62 _ (X10.mono (by decide) (by decide))
        · skip
          refine i_ifF (pc' := 107) X10 hx (hb hby at_104) rfl (XT.i0_eq_f hc114) ?_
          refine i_iconst (pc' := 108) (1 : Int32) X10 hx (hb hby at_107) rfl (by decide) ?_
          refine i_goto (pc' := 112) X10 hx (hb hby at_108) (by decide) (by decide) ?_
          have ev61 := hv61
          simp only [if_neg hc114] at ev61
          rw [ev61] at J62
          exact J62 _ (X10.mono (by decide) (by decide))
    by_cases hc115 : (p6 &&& (2 : Int32)) = 0
    · skip
      refine i_ifT (pc' := 82) X0 hx (hb hby at_75) (XT.i0_eq_t hc115) (by decide) (by decide) ?_
      refine i_iconst (pc' := 83) (0 : Int32) X0 hx (hb hby at_82) rfl (by decide) ?_
      have ev9 := hv9
      simp only [if_pos hc115] at ev9
      rw [ev9] at J10
      exact J10 _ (X0.mono (by decide) (by decide))
    · skip
      refine i_ifF (pc' := 78) X0 hx (hb hby at_75) rfl (XT.i0_eq_f hc115) ?_
      refine i_iconst (pc' := 79) (1 : Int32) X0 hx (hb hby at_78) rfl (by decide) ?_
      refine i_goto (pc' := 83) X0 hx (hb hby at_79) (by decide) (by decide) ?_
      have ev9 := hv9
      simp only [if_neg hc115] at ev9
      rw [ev9] at J10
      exact J10 _ (X0.mono (by decide) (by decide))
  · skip
    refine i_ifF (pc' := 64) X0 hx (hb hby at_61) rfl (XT.i0_eq_f hc8) ?_
    refine i_iconst (pc' := 65) (1 : Int32) X0 hx (hb hby at_64) rfl (by decide) ?_
    refine i_goto (pc' := 69) X0 hx (hb hby at_65) (by decide) (by decide) ?_
    refine i_istore (L' := #[.val (.int p1), .val (.int p2), .val (.int p3), .val (.int p4), .val (.int p5), .val (.int p6), .val (.int v1), .val (.int v2), .val (.int v3), .val (.int v4), .val (.int v5), .val (.int v6), .val (.int v7), .val (.int (1 : Int32)), .unset, .unset, .unset, .unset, .unset, .unset, .unset]) (pc' := 71) X0 hx (hb hby at_69) rfl rfl ?_
    refine i_iload (v := p6) (pc' := 73) X0 hx (hb hby at_71) rfl rfl ?_
    refine i_iconst (pc' := 74) (2 : Int32) X0 hx (hb hby at_73) rfl (by decide) ?_
    refine i_iand (pc' := 75) X0 hx (hb hby at_74) rfl ?_
    obtain ⟨v116, hv116⟩ : ∃ zz : Int32, zz = (if (p6 &&& (2 : Int32)) = 0 then (0 : Int32) else (1 : Int32)) := ⟨_, rfl⟩
    have J117 : ∀ (T : State), Pn p l e room_1 s m #[(.int p1), (.int p2), (.int p3), (.int p4), (.int p5), (.int p6)] below meth c T h0 n0 0 0 → Go p e s below n0 Q0 room_1 T (mkF m 83 #[.val (.int p1), .val (.int p2), .val (.int p3), .val (.int p4), .val (.int p5), .val (.int p6), .val (.int v1), .val (.int v2), .val (.int v3), .val (.int v4), .val (.int v5), .val (.int v6), .val (.int v7), .val (.int (1 : Int32)), .unset, .unset, .unset, .unset, .unset, .unset, .unset] [(.int v116)]) := by
      intro T117 X117
      refine i_istore (L' := #[.val (.int p1), .val (.int p2), .val (.int p3), .val (.int p4), .val (.int p5), .val (.int p6), .val (.int v1), .val (.int v2), .val (.int v3), .val (.int v4), .val (.int v5), .val (.int v6), .val (.int v7), .val (.int (1 : Int32)), .val (.int v116), .unset, .unset, .unset, .unset, .unset, .unset]) (pc' := 85) X117 hx (hb hby at_83) rfl rfl ?_
      refine i_iload (v := p6) (pc' := 87) X117 hx (hb hby at_85) rfl rfl ?_
      refine i_iconst (pc' := 88) (4 : Int32) X117 hx (hb hby at_87) rfl (by decide) ?_
      refine i_iand (pc' := 89) X117 hx (hb hby at_88) rfl ?_
      by_cases hc118 : (p6 &&& (4 : Int32)) = 0
      · skip
        refine i_ifT (pc' := 96) X117 hx (hb hby at_89) (XT.i0_eq_t hc118) (by decide) (by decide) ?_
        refine i_iconst (pc' := 97) (0 : Int32) X117 hx (hb hby at_96) rfl (by decide) ?_
        refine i_istore (L' := #[.val (.int p1), .val (.int p2), .val (.int p3), .val (.int p4), .val (.int p5), .val (.int p6), .val (.int v1), .val (.int v2), .val (.int v3), .val (.int v4), .val (.int v5), .val (.int v6), .val (.int v7), .val (.int (1 : Int32)), .val (.int v116), .val (.int (0 : Int32)), .unset, .unset, .unset, .unset, .unset]) (pc' := 99) X117 hx (hb hby at_97) rfl rfl ?_
        refine i_iload (v := p6) (pc' := 101) X117 hx (hb hby at_99) rfl rfl ?_
        refine i_bipush (pc' := 103) (8 : Int32) X117 hx (hb hby at_101) rfl (by decide) ?_
        refine i_iand (pc' := 104) X117 hx (hb hby at_103) rfl ?_
        obtain ⟨v119, hv119⟩ : ∃ zz : Int32, zz = (if (p6 &&& (8 : Int32)) = 0 then (0 : Int32) else (1 : Int32)) := ⟨_, rfl⟩
        have J120 : ∀ (T : State), Pn p l e room_1 s m #[(.int p1), (.int p2), (.int p3), (.int p4), (.int p5), (.int p6)] below meth c T h0 n0 0 0 → Go p e s below n0 Q0 room_1 T (mkF m 112 #[.val (.int p1), .val (.int p2), .val (.int p3), .val (.int p4), .val (.int p5), .val (.int p6), .val (.int v1), .val (.int v2), .val (.int v3), .val (.int v4), .val (.int v5), .val (.int v6), .val (.int v7), .val (.int (1 : Int32)), .val (.int v116), .val (.int (0 : Int32)), .unset, .unset, .unset, .unset, .unset] [(.int v119)]) := by
          intro T120 X120
          refine i_istore (L' := #[.val (.int p1), .val (.int p2), .val (.int p3), .val (.int p4), .val (.int p5), .val (.int p6), .val (.int v1), .val (.int v2), .val (.int v3), .val (.int v4), .val (.int v5), .val (.int v6), .val (.int v7), .val (.int (1 : Int32)), .val (.int v116), .val (.int (0 : Int32)), .val (.int v119), .unset, .unset, .unset, .unset]) (pc' := 114) X120 hx (hb hby at_112) rfl rfl ?_
          refine nw (pc' := 117) X120 hx hZ hown (hw _ (List.mem_of_getElem? (i := 2) rfl)) (hw _ (List.mem_of_getElem? (i := 3) rfl)) (hw _ (List.mem_of_getElem? (i := 4) rfl)) (hb hby at_114) rfl (by decide) (by decide) fun T121 h121 b121 X121 g121 ge121 E121 A121 D121 => ?_
          have sz_b121 : h0.size ≤ b121 := Nat.le_trans ((Keep.refl h0 _) : Keep h0 h0 []).1 (Nat.le_of_eq g121.symm)
          have K121 : Keep h0 h121 [] := ((Keep.refl h0 _) : Keep h0 h0 []).ext E121
          refine i_dup (pc' := 118) X121 hx (hb hby at_117) rfl rfl ?_
          refine i_iload (v := v1) (pc' := 120) X121 hx (hb hby at_118) rfl rfl ?_
          have F122 : Fld Z h121 b121 "com/example/shoal_creek/shoalcreek/MatchedSuffixes" "newestEnd" "I" (.int (0 : Int32)) := (D121 (Or.inl (hw _ (List.mem_of_getElem? (i := 12) rfl))) (ty := .int) (by decide))
          have F123 : Fld Z h121 b121 "com/example/shoal_creek/shoalcreek/MatchedSuffixes" "patternLength" "I" (.int (0 : Int32)) := (D121 (Or.inr (hw _ (List.mem_of_getElem? (i := 14) rfl))) (ty := .int) (by decide))
          have F124 : Fld Z h121 b121 "com/example/shoal_creek/shoalcreek/MatchedSuffixes" "ends" "[I" .null := (D121 (Or.inl (hw _ (List.mem_of_getElem? (i := 36) rfl))) (ty := (.array .int)) (by decide))
          have F125 : Fld Z h121 b121 "com/example/shoal_creek/shoalcreek/MatchedSuffixes" "lengths" "[I" .null := (D121 (Or.inl (hw _ (List.mem_of_getElem? (i := 39) rfl))) (ty := (.array .int)) (by decide))
          have F126 : Fld Z h121 b121 "com/example/shoal_creek/shoalcreek/MatchedSuffixes" "differings" "[I" .null := (D121 (Or.inl (hw _ (List.mem_of_getElem? (i := 41) rfl))) (ty := (.array .int)) (by decide))
          have F127 : Fld Z h121 b121 "com/example/shoal_creek/shoalcreek/MatchedSuffixes" "differing" "C" (.int (0 : Int32)) := (D121 (Or.inl (hw _ (List.mem_of_getElem? (i := 21) rfl))) (ty := .char) (by decide))
          refine cI (y := (⟨"com/example/shoal_creek/shoalcreek/MatchedSuffixes", "<init>", "(I)V"⟩ : MethodName)) (rest := [(.ref b121)]) (pc' := 123) (a := b121) 1 [(.int v1)] X121 hx hZ hown rfl (hw _ (List.mem_of_getElem? (i := 5) rfl)) (hw _ (List.mem_of_getElem? (i := 6) rfl)) (hw _ (List.mem_of_getElem? (i := 4) rfl)) (hw _ (List.mem_of_getElem? (i := 7) rfl)) (by decide) (rmNew l Z a0 hw [] b121 v1 n0 h121 X121.le A121 F122 F123 F124 F125 F126 F127 ge121) (by decide) (by decide) (by rw [hml]; rfl) rfl (lenOf pd6 rfl) rfl (Nat.le_of_eq rfl) (hb hby at_120) rfl (by decide) (by decide) ?_
          intro r128 T128 h128 X128 q128
          obtain ⟨rfl, K128c, P128_0, P128_1, P128_2, P128_3, P128_4, P128_5⟩ := q128
          show Go _ _ _ _ _ _ _ T128 (mkF m 123 #[.val (.int p1), .val (.int p2), .val (.int p3), .val (.int p4), .val (.int p5), .val (.int p6), .val (.int v1), .val (.int v2), .val (.int v3), .val (.int v4), .val (.int v5), .val (.int v6), .val (.int v7), .val (.int (1 : Int32)), .val (.int v116), .val (.int (0 : Int32)), .val (.int v119), .unset, .unset, .unset, .unset] [(.ref b121)])
          refine i_astore (L' := #[.val (.int p1), .val (.int p2), .val (.int p3), .val (.int p4), .val (.int p5), .val (.int p6), .val (.int v1), .val (.int v2), .val (.int v3), .val (.int v4), .val (.int v5), .val (.int v6), .val (.int v7), .val (.int (1 : Int32)), .val (.int v116), .val (.int (0 : Int32)), .val (.int v119), .val (.ref b121), .unset, .unset, .unset]) (pc' := 125) X128 hx (hb hby at_123) rfl rfl rfl ?_
          refine nw (pc' := 128) X128 hx hZ hown (hw _ (List.mem_of_getElem? (i := 2) rfl)) (hw _ (List.mem_of_getElem? (i := 3) rfl)) (hw _ (List.mem_of_getElem? (i := 4) rfl)) (hb hby at_125) rfl (by decide) (by decide) fun T129 h129 b129 X129 g129 ge129 E129 A129 D129 => ?_
          have F130 : Exa Z h128 b121 "com/example/shoal_creek/shoalcreek/MatchedSuffixes" := (A121.keep K128c)
          have ne_b121_b129 : b121 ≠ b129 := Nat.ne_of_lt (Nat.lt_of_lt_of_eq F130.lt g129.symm)
          have sz_b129 : h0.size ≤ b129 := Nat.le_trans (((K121 : Keep h0 h121 []).trans K128c (allS (Or.inr sz_b121) all0)) : Keep h0 h128 []).1 (Nat.le_of_eq g129.symm)
          have K129 : Keep h0 h129 [] := (((K121 : Keep h0 h121 []).trans K128c (allS (Or.inr sz_b121) all0)) : Keep h0 h128 []).ext E129
          refine i_dup (pc' := 129) X129 hx (hb hby at_128) rfl rfl ?_
          refine i_iload (v := v1) (pc' := 131) X129 hx (hb hby at_129) rfl rfl ?_
          have F131 : Fld Z h129 b129 "com/example/shoal_creek/shoalcreek/MatchedSuffixes" "newestEnd" "I" (.int (0 : Int32)) := (D129 (Or.inl (hw _ (List.mem_of_getElem? (i := 12) rfl))) (ty := .int) (by decide))
          have F132 : Fld Z h129 b129 "com/example/shoal_creek/shoalcreek/MatchedSuffixes" "patternLength" "I" (.int (0 : Int32)) := (D129 (Or.inr (hw _ (List.mem_of_getElem? (i := 14) rfl))) (ty := .int) (by decide))
          have F133 : Fld Z h129 b129 "com/example/shoal_creek/shoalcreek/MatchedSuffixes" "ends" "[I" .null := (D129 (Or.inl (hw _ (List.mem_of_getElem? (i := 36) rfl))) (ty := (.array .int)) (by decide))
          have F134 : Fld Z h129 b129 "com/example/shoal_creek/shoalcreek/MatchedSuffixes" "lengths" "[I" .null := (D129 (Or.inl (hw _ (List.mem_of_getElem? (i := 39) rfl))) (ty := (.array .int)) (by decide))
          have F135 : Fld Z h129 b129 "com/example/shoal_creek/shoalcreek/MatchedSuffixes" "differings" "[I" .null := (D129 (Or.inl (hw _ (List.mem_of_getElem? (i := 41) rfl))) (ty := (.array .int)) (by decide))
          have F136 : Fld Z h129 b129 "com/example/shoal_creek/shoalcreek/MatchedSuffixes" "differing" "C" (.int (0 : Int32)) := (D129 (Or.inl (hw _ (List.mem_of_getElem? (i := 21) rfl))) (ty := .char) (by decide))
          refine cI (y := (⟨"com/example/shoal_creek/shoalcreek/MatchedSuffixes", "<init>", "(I)V"⟩ : MethodName)) (rest := [(.ref b129)]) (pc' := 134) (a := b129) 1 [(.int v1)] X129 hx hZ hown rfl (hw _ (List.mem_of_getElem? (i := 5) rfl)) (hw _ (List.mem_of_getElem? (i := 6) rfl)) (hw _ (List.mem_of_getElem? (i := 4) rfl)) (hw _ (List.mem_of_getElem? (i := 7) rfl)) (by decide) (rmNew l Z a0 hw [] b129 v1 n0 h129 X129.le A129 F131 F132 F133 F134 F135 F136 ge129) (by decide) (by decide) (by rw [hml]; rfl) rfl (lenOf pd6 rfl) rfl (Nat.le_of_eq rfl) (hb hby at_131) rfl (by decide) (by decide) ?_
          intro r137 T137 h137 X137 q137
          obtain ⟨rfl, K137c, P137_0, P137_1, P137_2, P137_3, P137_4, P137_5⟩ := q137
          show Go _ _ _ _ _ _ _ T137 (mkF m 134 #[.val (.int p1), .val (.int p2), .val (.int p3), .val (.int p4), .val (.int p5), .val (.int p6), .val (.int v1), .val (.int v2), .val (.int v3), .val (.int v4), .val (.int v5), .val (.int v6), .val (.int v7), .val (.int (1 : Int32)), .val (.int v116), .val (.int (0 : Int32)), .val (.int v119), .val (.ref b121), .unset, .unset, .unset] [(.ref b129)])
          refine i_astore (L' := #[.val (.int p1), .val (.int p2), .val (.int p3), .val (.int p4), .val (.int p5), .val (.int p6), .val (.int v1), .val (.int v2), .val (.int v3), .val (.int v4), .val (.int v5), .val (.int v6), .val (.int v7), .val (.int (1 : Int32)), .val (.int v116), .val (.int (0 : Int32)), .val (.int v119), .val (.ref b121), .val (.ref b129), .unset, .unset]) (pc' := 136) X137 hx (hb hby at_134) rfl rfl rfl ?_
          refine i_aload (v := (.ref b121)) (pc' := 138) X137 hx (hb hby at_136) rfl rfl rfl ?_
          refine i_iload (v := v6) (pc' := 140) X137 hx (hb hby at_138) rfl rfl ?_
          have F138 : Exa Z h137 b121 "com/example/shoal_creek/shoalcreek/MatchedSuffixes" := ((Jvm.RoadKit.Exa.ext E129 F130).keep K137c)
          have F139 : Fld Z h137 b121 "com/example/shoal_creek/shoalcreek/MatchedSuffixes" "ends" "[I" .null := ((Jvm.RoadKit.Fld.ext E129 P128_2).keep K137c (ninS ne_b121_b129 nin0))
          have F140 : Fld Z h137 b121 "com/example/shoal_creek/shoalcreek/MatchedSuffixes" "lengths" "[I" .null := ((Jvm.RoadKit.Fld.ext E129 P128_3).keep K137c (ninS ne_b121_b129 nin0))
          have F141 : Fld Z h137 b121 "com/example/shoal_creek/shoalcreek/MatchedSuffixes" "differings" "[I" .null := ((Jvm.RoadKit.Fld.ext E129 P128_4).keep K137c (ninS ne_b121_b129 nin0))
          have F142 : Fld Z h137 b121 "com/example/shoal_creek/shoalcreek/MatchedSuffixes" "newestEnd" "I" (.int (-1 : Int32)) := ((Jvm.RoadKit.Fld.ext E129 P128_0).keep K137c (ninS ne_b121_b129 nin0))
          have F143 : Fld Z h137 b121 "com/example/shoal_creek/shoalcreek/MatchedSuffixes" "patternLength" "I" (.int v1) := ((Jvm.RoadKit.Fld.ext E129 P128_1).keep K137c (ninS ne_b121_b129 nin0))
          have F144 : Fld Z h137 b121 "com/example/shoal_creek/shoalcreek/MatchedSuffixes" "differing" "C" (.int (0 : Int32)) := ((Jvm.RoadKit.Fld.ext E129 P128_5).keep K137c (ninS ne_b121_b129 nin0))
          refine cV (y := (⟨"com/example/shoal_creek/shoalcreek/MatchedSuffixes", "noteDiffering", "(C)V"⟩ : MethodName)) (C := "com/example/shoal_creek/shoalcreek/MatchedSuffixes") (rest := []) (pc' := 143) 0 [(.int v6)] X137 hx hZ hown (hw _ (List.mem_of_getElem? (i := 15) rfl)) (hw _ (List.mem_of_getElem? (i := 16) rfl)) (hw _ (List.mem_of_getElem? (i := 18) rfl)) (hw _ (List.mem_of_getElem? (i := 17) rfl)) (hw _ (List.mem_of_getElem? (i := 4) rfl)) (hw _ (List.mem_of_getElem? (i := 19) rfl)) (by decide) F138 (rmNote l Z a0 hw [] b121 v6 v1 (-1 : Int32) (0 : Int32) n0 h137 X137.le F138 F139 F140 F141 F142 F143 F144 ge121 hca) (by decide) (by decide) (by rw [hml]; rfl) rfl (lenOf pd7 rfl) rfl (Nat.le_of_eq rfl) (hb hby at_140) rfl (by decide) (by decide) ?_
          intro r145 T145 h145 X145 q145
          obtain ⟨rfl, K145c, P145_0, P145_1, P145_2, P145_3, P145_4, P145_5⟩ := q145
          show Go _ _ _ _ _ _ _ T145 (mkF m 143 #[.val (.int p1), .val (.int p2), .val (.int p3), .val (.int p4), .val (.int p5), .val (.int p6), .val (.int v1), .val (.int v2), .val (.int v3), .val (.int v4), .val (.int v5), .val (.int v6), .val (.int v7), .val (.int (1 : Int32)), .val (.int v116), .val (.int (0 : Int32)), .val (.int v119), .val (.ref b121), .val (.ref b129), .unset, .unset] [])
          refine i_aload (v := (.ref b129)) (pc' := 145) X145 hx (hb hby at_143) rfl rfl rfl ?_
          refine i_iload (v := v7) (pc' := 147) X145 hx (hb hby at_145) rfl rfl ?_
          have F146 : Exa Z h145 b129 "com/example/shoal_creek/shoalcreek/MatchedSuffixes" := ((A129.keep K137c).keep K145c)
          have F147 : Fld Z h145 b129 "com/example/shoal_creek/shoalcreek/MatchedSuffixes" "ends" "[I" .null := (P137_2.keep K145c (ninS (Ne.symm ne_b121_b129) nin0))
          have F148 : Fld Z h145 b129 "com/example/shoal_creek/shoalcreek/MatchedSuffixes" "lengths" "[I" .null := (P137_3.keep K145c (ninS (Ne.symm ne_b121_b129) nin0))
          have F149 : Fld Z h145 b129 "com/example/shoal_creek/shoalcreek/MatchedSuffixes" "differings" "[I" .null := (P137_4.keep K145c (ninS (Ne.symm ne_b121_b129) nin0))
          have F150 : Fld Z h145 b129 "com/example/shoal_creek/shoalcreek/MatchedSuffixes" "newestEnd" "I" (.int (-1 : Int32)) := (P137_0.keep K145c (ninS (Ne.symm ne_b121_b129) nin0))
          have F151 : Fld Z h145 b129 "com/example/shoal_creek/shoalcreek/MatchedSuffixes" "patternLength" "I" (.int v1) := (P137_1.keep K145c (ninS (Ne.symm ne_b121_b129) nin0))
          have F152 : Fld Z h145 b129 "com/example/shoal_creek/shoalcreek/MatchedSuffixes" "differing" "C" (.int (0 : Int32)) := (P137_5.keep K145c (ninS (Ne.symm ne_b121_b129) nin0))
          refine cV (y := (⟨"com/example/shoal_creek/shoalcreek/MatchedSuffixes", "noteDiffering", "(C)V"⟩ : MethodName)) (C := "com/example/shoal_creek/shoalcreek/MatchedSuffixes") (rest := []) (pc' := 150) 0 [(.int v7)] X145 hx hZ hown (hw _ (List.mem_of_getElem? (i := 15) rfl)) (hw _ (List.mem_of_getElem? (i := 16) rfl)) (hw _ (List.mem_of_getElem? (i := 18) rfl)) (hw _ (List.mem_of_getElem? (i := 17) rfl)) (hw _ (List.mem_of_getElem? (i := 4) rfl)) (hw _ (List.mem_of_getElem? (i := 19) rfl)) (by decide) F146 (rmNote l Z a0 hw [] b129 v7 v1 (-1 : Int32) (0 : Int32) n0 h145 X145.le F146 F147 F148 F149 F150 F151 F152 ge129 hcb) (by decide) (by decide) (by rw [hml]; rfl) rfl (lenOf pd7 rfl) rfl (Nat.le_of_eq rfl) (hb hby at_147) rfl (by decide) (by decide) ?_
          intro r153 T153 h153 X153 q153
          obtain ⟨rfl, K153c, P153_0, P153_1, P153_2, P153_3, P153_4, P153_5⟩ := q153
          show Go _ _ _ _ _ _ _ T153 (mkF m 150 #[.val (.int p1), .val (.int p2), .val (.int p3), .val (.int p4), .val (.int p5), .val (.int p6), .val (.int v1), .val (.int v2), .val (.int v3), .val (.int v4), .val (.int v5), .val (.int v6), .val (.int v7), .val (.int (1 : Int32)), .val (.int v116), .val (.int (0 : Int32)), .val (.int v119), .val (.ref b121), .val (.ref b129), .unset, .unset] [])
          refine i_aload (v := (.ref b121)) (pc' := 152) X153 hx (hb hby at_150) rfl rfl rfl ?_
          refine i_iload (v := (1 : Int32)) (pc' := 154) X153 hx (hb hby at_152) rfl rfl ?_
          refine i_iload (v := v116) (pc' := 156) X153 hx (hb hby at_154) rfl rfl ?_
          refine i_iload (v := v2) (pc' := 158) X153 hx (hb hby at_156) rfl rfl ?_
          refine i_iload (v := v4) (pc' := 160) X153 hx (hb hby at_158) rfl rfl ?_
          refine i_iload (v := v1) (pc' := 162) X153 hx (hb hby at_160) rfl rfl ?_
          have F154 : Exa Z h153 b121 "com/example/shoal_creek/shoalcreek/MatchedSuffixes" := ((F138.keep K145c).keep K153c)
          have F155 : Fld Z h153 b121 "com/example/shoal_creek/shoalcreek/MatchedSuffixes" "ends" "[I" .null := (P145_0.keep K153c (ninS ne_b121_b129 nin0))
          have F156 : Fld Z h153 b121 "com/example/shoal_creek/shoalcreek/MatchedSuffixes" "lengths" "[I" .null := (P145_1.keep K153c (ninS ne_b121_b129 nin0))
          have F157 : Fld Z h153 b121 "com/example/shoal_creek/shoalcreek/MatchedSuffixes" "differings" "[I" .null := (P145_2.keep K153c (ninS ne_b121_b129 nin0))
          have F158 : Fld Z h153 b121 "com/example/shoal_creek/shoalcreek/MatchedSuffixes" "newestEnd" "I" (.int (-1 : Int32)) := (P145_3.keep K153c (ninS ne_b121_b129 nin0))
          have F159 : Fld Z h153 b121 "com/example/shoal_creek/shoalcreek/MatchedSuffixes" "patternLength" "I" (.int v1) := (P145_4.keep K153c (ninS ne_b121_b129 nin0))
          have F160 : Fld Z h153 b121 "com/example/shoal_creek/shoalcreek/MatchedSuffixes" "differing" "C" (.int v6) := (P145_5.keep K153c (ninS ne_b121_b129 nin0))
          refine cS (y := (⟨"com/example/shoal_creek/shoalcreek/MatchedSuffixesSwapPinLaw", "fill", "(Lcom/example/shoal_creek/shoalcreek/MatchedSuffixes;ZZIII)I"⟩ : MethodName)) (rest := []) (pc' := 165) 0 [(.ref b121), (.int (1 : Int32)), (.int v116), (.int v2), (.int v4), (.int v1)] X153 hx hZ hown (hw _ (List.mem_of_getElem? (i := 22) rfl)) (hw _ (List.mem_of_getElem? (i := 23) rfl)) (hw _ (List.mem_of_getElem? (i := 24) rfl)) (hw _ (List.mem_of_getElem? (i := 25) rfl)) (by decide) (rmF1 l Z a0 hw [] b121 (1 : Int32) v116 v2 v4 v1 (-1 : Int32) v6 n0 h153 X153.le F154 F155 F156 F157 F158 F159 F160 ge121 (by decide) hpl hla (own_nch hca.1)) (by decide) (by decide) (by rw [hml]; rfl) rfl (lenOf pd8 rfl) rfl (Nat.le_of_eq rfl) (hb hby at_162) rfl (by decide) (by decide) ?_
          intro r161 T161 h161 X161 q161
          have F162 : Exa Z h153 b129 "com/example/shoal_creek/shoalcreek/MatchedSuffixes" := (F146.keep K153c)
          obtain ⟨aE161, aL161, aD161, rfl, K161c, P161_0, P161_1, P161_2, P161_3, P161_4, P161_5, P161_6, P161_7, P161_8, fz161_aE, fz161_aL, fz161_aD, fn161_aE_aL, fn161_aE_aD, fn161_aL_aD⟩ := q161
          have ge_aE161 : n0 ≤ aE161 := Nat.le_trans X153.le fz161_aE
          have sz_aE161 : h0.size ≤ aE161 := Nat.le_trans (((((((K129 : Keep h0 h129 []).trans K137c (allS (Or.inr sz_b129) all0)) : Keep h0 h137 []).trans K145c (allS (Or.inr sz_b121) all0)) : Keep h0 h145 []).trans K153c (allS (Or.inr sz_b129) all0)) : Keep h0 h153 []).1 fz161_aE
          have ne_b121_aE161 : b121 ≠ aE161 := Nat.ne_of_lt (Nat.lt_of_lt_of_le F154.lt fz161_aE)
          have ne_b129_aE161 : b129 ≠ aE161 := Nat.ne_of_lt (Nat.lt_of_lt_of_le F162.lt fz161_aE)
          have ge_aL161 : n0 ≤ aL161 := Nat.le_trans X153.le fz161_aL
          have sz_aL161 : h0.size ≤ aL161 := Nat.le_trans (((((((K129 : Keep h0 h129 []).trans K137c (allS (Or.inr sz_b129) all0)) : Keep h0 h137 []).trans K145c (allS (Or.inr sz_b121) all0)) : Keep h0 h145 []).trans K153c (allS (Or.inr sz_b129) all0)) : Keep h0 h153 []).1 fz161_aL
          have ne_b121_aL161 : b121 ≠ aL161 := Nat.ne_of_lt (Nat.lt_of_lt_of_le F154.lt fz161_aL)
          have ne_b129_aL161 : b129 ≠ aL161 := Nat.ne_of_lt (Nat.lt_of_lt_of_le F162.lt fz161_aL)
          have ge_aD161 : n0 ≤ aD161 := Nat.le_trans X153.le fz161_aD
          have sz_aD161 : h0.size ≤ aD161 := Nat.le_trans (((((((K129 : Keep h0 h129 []).trans K137c (allS (Or.inr sz_b129) all0)) : Keep h0 h137 []).trans K145c (allS (Or.inr sz_b121) all0)) : Keep h0 h145 []).trans K153c (allS (Or.inr sz_b129) all0)) : Keep h0 h153 []).1 fz161_aD
          have ne_b121_aD161 : b121 ≠ aD161 := Nat.ne_of_lt (Nat.lt_of_lt_of_le F154.lt fz161_aD)
          have ne_b129_aD161 : b129 ≠ aD161 := Nat.ne_of_lt (Nat.lt_of_lt_of_le F162.lt fz161_aD)
          show Go _ _ _ _ _ _ _ T161 (mkF m 165 #[.val (.int p1), .val (.int p2), .val (.int p3), .val (.int p4), .val (.int p5), .val (.int p6), .val (.int v1), .val (.int v2), .val (.int v3), .val (.int v4), .val (.int v5), .val (.int v6), .val (.int v7), .val (.int (1 : Int32)), .val (.int v116), .val (.int (0 : Int32)), .val (.int v119), .val (.ref b121), .val (.ref b129), .unset, .unset] [(.int (if v116 = 0 then (if v4 < v1 then v6 else (-2 : Int32)) else (-1 : Int32)))])
          refine i_istore (L' := #[.val (.int p1), .val (.int p2), .val (.int p3), .val (.int p4), .val (.int p5), .val (.int p6), .val (.int v1), .val (.int v2), .val (.int v3), .val (.int v4), .val (.int v5), .val (.int v6), .val (.int v7), .val (.int (1 : Int32)), .val (.int v116), .val (.int (0 : Int32)), .val (.int v119), .val (.ref b121), .val (.ref b129), .val (.int (if v116 = 0 then (if v4 < v1 then v6 else (-2 : Int32)) else (-1 : Int32))), .unset]) (pc' := 167) X161 hx (hb hby at_165) rfl rfl ?_
          refine i_aload (v := (.ref b129)) (pc' := 169) X161 hx (hb hby at_167) rfl rfl rfl ?_
          refine i_iload (v := (0 : Int32)) (pc' := 171) X161 hx (hb hby at_169) rfl rfl ?_
          refine i_iload (v := v119) (pc' := 173) X161 hx (hb hby at_171) rfl rfl ?_
          refine i_iload (v := v3) (pc' := 175) X161 hx (hb hby at_173) rfl rfl ?_
          refine i_iload (v := v5) (pc' := 177) X161 hx (hb hby at_175) rfl rfl ?_
          refine i_iload (v := v1) (pc' := 179) X161 hx (hb hby at_177) rfl rfl ?_
          refine cS (y := (⟨"com/example/shoal_creek/shoalcreek/MatchedSuffixesSwapPinLaw", "fill", "(Lcom/example/shoal_creek/shoalcreek/MatchedSuffixes;ZZIII)I"⟩ : MethodName)) (rest := []) (pc' := 182) 0 [(.ref b129), (.int (0 : Int32)), (.int v119), (.int v3), (.int v5), (.int v1)] X161 hx hZ hown (hw _ (List.mem_of_getElem? (i := 22) rfl)) (hw _ (List.mem_of_getElem? (i := 23) rfl)) (hw _ (List.mem_of_getElem? (i := 24) rfl)) (hw _ (List.mem_of_getElem? (i := 25) rfl)) (by decide) (rmF0 l Z a0 hw [] b129 (0 : Int32) v119 v3 v5 v1 n0 h161 X161.le (by decide)) (by decide) (by decide) (by rw [hml]; rfl) rfl (lenOf pd8 rfl) rfl (Nat.le_of_eq rfl) (hb hby at_179) rfl (by decide) (by decide) ?_
          intro r163 T163 h163 X163 q163
          obtain ⟨rfl, eh163⟩ := q163
          subst eh163
          show Go _ _ _ _ _ _ _ T163 (mkF m 182 #[.val (.int p1), .val (.int p2), .val (.int p3), .val (.int p4), .val (.int p5), .val (.int p6), .val (.int v1), .val (.int v2), .val (.int v3), .val (.int v4), .val (.int v5), .val (.int v6), .val (.int v7), .val (.int (1 : Int32)), .val (.int v116), .val (.int (0 : Int32)), .val (.int v119), .val (.ref b121), .val (.ref b129), .val (.int (if v116 = 0 then (if v4 < v1 then v6 else (-2 : Int32)) else (-1 : Int32))), .unset] [(.int (0 : Int32))])
          refine i_istore (L' := #[.val (.int p1), .val (.int p2), .val (.int p3), .val (.int p4), .val (.int p5), .val (.int p6), .val (.int v1), .val (.int v2), .val (.int v3), .val (.int v4), .val (.int v5), .val (.int v6), .val (.int v7), .val (.int (1 : Int32)), .val (.int v116), .val (.int (0 : Int32)), .val (.int v119), .val (.ref b121), .val (.ref b129), .val (.int (if v116 = 0 then (if v4 < v1 then v6 else (-2 : Int32)) else (-1 : Int32))), .val (.int (0 : Int32))]) (pc' := 184) X163 hx (hb hby at_182) rfl rfl ?_
          refine i_aload (v := (.ref b121)) (pc' := 186) X163 hx (hb hby at_184) rfl rfl rfl ?_
          refine i_aload (v := (.ref b129)) (pc' := 188) X163 hx (hb hby at_186) rfl rfl rfl ?_
          have F164 : Exa Z h161 b121 "com/example/shoal_creek/shoalcreek/MatchedSuffixes" := (F154.keep K161c)
          have F165 : Exa Z h161 b129 "com/example/shoal_creek/shoalcreek/MatchedSuffixes" := (F162.keep K161c)
          have F166 : Fld Z h161 b129 "com/example/shoal_creek/shoalcreek/MatchedSuffixes" "ends" "[I" .null := (P153_0.keep K161c (ninS (Ne.symm ne_b121_b129) nin0))
          have F167 : Fld Z h161 b129 "com/example/shoal_creek/shoalcreek/MatchedSuffixes" "lengths" "[I" .null := (P153_1.keep K161c (ninS (Ne.symm ne_b121_b129) nin0))
          have F168 : Fld Z h161 b129 "com/example/shoal_creek/shoalcreek/MatchedSuffixes" "differings" "[I" .null := (P153_2.keep K161c (ninS (Ne.symm ne_b121_b129) nin0))
          have F169 : Fld Z h161 b129 "com/example/shoal_creek/shoalcreek/MatchedSuffixes" "newestEnd" "I" (.int (-1 : Int32)) := (P153_3.keep K161c (ninS (Ne.symm ne_b121_b129) nin0))
          refine cV (y := (⟨"com/example/shoal_creek/shoalcreek/MatchedSuffixes", "swap", "(Lcom/example/shoal_creek/shoalcreek/MatchedSuffixes;)V"⟩ : MethodName)) (C := "com/example/shoal_creek/shoalcreek/MatchedSuffixes") (rest := []) (pc' := 191) 0 [(.ref b129)] X163 hx hZ hown (hw _ (List.mem_of_getElem? (i := 51) rfl)) (hw _ (List.mem_of_getElem? (i := 52) rfl)) (hw _ (List.mem_of_getElem? (i := 54) rfl)) (hw _ (List.mem_of_getElem? (i := 53) rfl)) (hw _ (List.mem_of_getElem? (i := 4) rfl)) (hw _ (List.mem_of_getElem? (i := 55) rfl)) (by decide) F164 (rmSw l Z a0 hw [] b121 b129 (.ref aE161) (.ref aL161) (.ref aD161) .null .null .null (own_max (-1 : Int32) v2) (-1 : Int32) n0 h161 X163.le F164 F165 P161_0 P161_1 P161_2 P161_3 F166 F167 F168 F169 ge121 ge129 ne_b121_b129 rfl rfl rfl rfl rfl rfl) (by decide) (by decide) (by rw [hml]; rfl) rfl (lenOf pd9 rfl) rfl (Nat.le_of_eq rfl) (hb hby at_188) rfl (by decide) (by decide) ?_
          intro r170 T170 h170 X170 q170
          obtain ⟨rfl, K170c, P170_0, P170_1, P170_2, P170_3, P170_4, P170_5, P170_6, P170_7⟩ := q170
          show Go _ _ _ _ _ _ _ T170 (mkF m 191 #[.val (.int p1), .val (.int p2), .val (.int p3), .val (.int p4), .val (.int p5), .val (.int p6), .val (.int v1), .val (.int v2), .val (.int v3), .val (.int v4), .val (.int v5), .val (.int v6), .val (.int v7), .val (.int (1 : Int32)), .val (.int v116), .val (.int (0 : Int32)), .val (.int v119), .val (.ref b121), .val (.ref b129), .val (.int (if v116 = 0 then (if v4 < v1 then v6 else (-2 : Int32)) else (-1 : Int32))), .val (.int (0 : Int32))] [])
          refine i_aload (v := (.ref b121)) (pc' := 193) X170 hx (hb hby at_191) rfl rfl rfl ?_
          refine i_iload (v := (0 : Int32)) (pc' := 195) X170 hx (hb hby at_193) rfl rfl ?_
          refine i_iload (v := v3) (pc' := 197) X170 hx (hb hby at_195) rfl rfl ?_
          refine i_iload (v := v5) (pc' := 199) X170 hx (hb hby at_197) rfl rfl ?_
          refine i_iload (v := (0 : Int32)) (pc' := 201) X170 hx (hb hby at_199) rfl rfl ?_
          refine i_iload (v := v2) (pc' := 203) X170 hx (hb hby at_201) rfl rfl ?_
          have F171 : Exa Z h170 b121 "com/example/shoal_creek/shoalcreek/MatchedSuffixes" := (F164.keep K170c)
          refine cS (y := (⟨"com/example/shoal_creek/shoalcreek/MatchedSuffixesSwapPinLaw", "check", "(Lcom/example/shoal_creek/shoalcreek/MatchedSuffixes;ZIIII)Z"⟩ : MethodName)) (rest := []) (pc' := 206) 0 [(.ref b121), (.int (0 : Int32)), (.int v3), (.int v5), (.int (0 : Int32)), (.int v2)] X170 hx hZ hown (hw _ (List.mem_of_getElem? (i := 56) rfl)) (hw _ (List.mem_of_getElem? (i := 57) rfl)) (hw _ (List.mem_of_getElem? (i := 24) rfl)) (hw _ (List.mem_of_getElem? (i := 58) rfl)) (by decide) (rmC0 l Z a0 hw [] b121 (0 : Int32) v3 v5 (0 : Int32) v2 n0 h170 X170.le F171 P170_3 (by decide) (own_m1 heb) (own_m1 hea)) (by decide) (by decide) (by rw [hml]; rfl) rfl (lenOf pd10 rfl) rfl (Nat.le_of_eq rfl) (hb hby at_203) rfl (by decide) (by decide) ?_
          intro r172 T172 h172 X172 q172
          obtain ⟨rfl, eh172⟩ := q172
          subst eh172
          show Go _ _ _ _ _ _ _ T172 (mkF m 206 #[.val (.int p1), .val (.int p2), .val (.int p3), .val (.int p4), .val (.int p5), .val (.int p6), .val (.int v1), .val (.int v2), .val (.int v3), .val (.int v4), .val (.int v5), .val (.int v6), .val (.int v7), .val (.int (1 : Int32)), .val (.int v116), .val (.int (0 : Int32)), .val (.int v119), .val (.ref b121), .val (.ref b129), .val (.int (if v116 = 0 then (if v4 < v1 then v6 else (-2 : Int32)) else (-1 : Int32))), .val (.int (0 : Int32))] [(.int (1 : Int32))])
          refine i_ifF (pc' := 209) X172 hx (hb hby at_206) rfl (XT.i0_eq_f (by decide)) ?_
          refine i_aload (v := (.ref b129)) (pc' := 211) X172 hx (hb hby at_209) rfl rfl rfl ?_
          refine i_iload (v := (1 : Int32)) (pc' := 213) X172 hx (hb hby at_211) rfl rfl ?_
          refine i_iload (v := v2) (pc' := 215) X172 hx (hb hby at_213) rfl rfl ?_
          refine i_iload (v := v4) (pc' := 217) X172 hx (hb hby at_215) rfl rfl ?_
          refine i_iload (v := (if v116 = 0 then (if v4 < v1 then v6 else (-2 : Int32)) else (-1 : Int32))) (pc' := 219) X172 hx (hb hby at_217) rfl rfl ?_
          refine i_iload (v := v3) (pc' := 221) X172 hx (hb hby at_219) rfl rfl ?_
          have F173 : Exa Z h170 b129 "com/example/shoal_creek/shoalcreek/MatchedSuffixes" := (F165.keep K170c)
          have F174 : Av Z h170 aE161 .int (own_N v1) (fun i => .int ((own_up own_zero (own_k v2 (own_N v1)) v2) i)) := (P161_6.keep K170c (ninS (Ne.symm ne_b121_aE161) (ninS (Ne.symm ne_b129_aE161) nin0)))
          have F175 : Av Z h170 aL161 .int (own_N v1) (fun i => .int ((own_up own_zero (own_k v2 (own_N v1)) v4) i)) := (P161_7.keep K170c (ninS (Ne.symm ne_b121_aL161) (ninS (Ne.symm ne_b129_aL161) nin0)))
          have F176 : Av Z h170 aD161 .int (own_N v1) (fun i => .int ((own_up own_zero (own_k v2 (own_N v1)) (if v116 = 0 then (if v4 < v1 then v6 else (-2 : Int32)) else (-1 : Int32))) i)) := (P161_8.keep K170c (ninS (Ne.symm ne_b121_aD161) (ninS (Ne.symm ne_b129_aD161) nin0)))
          refine cS (y := (⟨"com/example/shoal_creek/shoalcreek/MatchedSuffixesSwapPinLaw", "check", "(Lcom/example/shoal_creek/shoalcreek/MatchedSuffixes;ZIIII)Z"⟩ : MethodName)) (rest := []) (pc' := 224) 0 [(.ref b129), (.int (1 : Int32)), (.int v2), (.int v4), (.int (if v116 = 0 then (if v4 < v1 then v6 else (-2 : Int32)) else (-1 : Int32))), (.int v3)] X172 hx hZ hown (hw _ (List.mem_of_getElem? (i := 56) rfl)) (hw _ (List.mem_of_getElem? (i := 57) rfl)) (hw _ (List.mem_of_getElem? (i := 24) rfl)) (hw _ (List.mem_of_getElem? (i := 58) rfl)) (by decide) (rmC1 l Z a0 hw [] b129 (1 : Int32) v2 v4 (if v116 = 0 then (if v4 < v1 then v6 else (-2 : Int32)) else (-1 : Int32)) v3 (own_max (-1 : Int32) v2) aE161 aL161 aD161 (own_N v1) n0 h170 X172.le F173 P170_7 P170_4 P170_5 P170_6 F174 F175 F176 (by decide) (own_w1 hea) (own_Np _)) (by decide) (by decide) (by rw [hml]; rfl) rfl (lenOf pd10 rfl) rfl (Nat.le_of_eq rfl) (hb hby at_221) rfl (by decide) (by decide) ?_
          intro r177 T177 h177 X177 q177
          obtain ⟨rfl, eh177⟩ := q177
          subst eh177
          show Go _ _ _ _ _ _ _ T177 (mkF m 224 #[.val (.int p1), .val (.int p2), .val (.int p3), .val (.int p4), .val (.int p5), .val (.int p6), .val (.int v1), .val (.int v2), .val (.int v3), .val (.int v4), .val (.int v5), .val (.int v6), .val (.int v7), .val (.int (1 : Int32)), .val (.int v116), .val (.int (0 : Int32)), .val (.int v119), .val (.ref b121), .val (.ref b129), .val (.int (if v116 = 0 then (if v4 < v1 then v6 else (-2 : Int32)) else (-1 : Int32))), .val (.int (0 : Int32))] [(.int (1 : Int32))])
          refine i_ifF (pc' := 227) X177 hx (hb hby at_224) rfl (XT.i0_eq_f (by decide)) ?_
          refine i_iconst (pc' := 228) (1 : Int32) X177 hx (hb hby at_227) rfl (by decide) ?_
          refine i_goto (pc' := 232) X177 hx (hb hby at_228) (by decide) (by decide) ?_
          refine rN X177 hx hlk hret (by simp) (hb hby at_232) (by decide) (by decide) ?_
          exact rfl
        by_cases hc178 : (p6 &&& (8 : Int32)) = 0
        · skip
          refine i_ifT (pc' := 111) X117 hx (hb hby at_104) (XT.i0_eq_t hc178) (by decide) (by decide) ?_
          refine i_iconst (pc' := 112) (0 : Int32) X117 hx (hb hby at_111) rfl (by decide) ?_
          have ev119 := hv119
          simp only [if_pos hc178] at ev119
          rw [ev119] at J120
          exact J120 _ (X117.mono (by decide) (by decide))
        · skip
          refine i_ifF (pc' := 107) X117 hx (hb hby at_104) rfl (XT.i0_eq_f hc178) ?_
          refine i_iconst (pc' := 108) (1 : Int32) X117 hx (hb hby at_107) rfl (by decide) ?_
          refine i_goto (pc' := 112) X117 hx (hb hby at_108) (by decide) (by decide) ?_
          have ev119 := hv119
          simp only [if_neg hc178] at ev119
          rw [ev119] at J120
          exact J120 _ (X117.mono (by decide) (by decide))
      · skip
        refine i_ifF (pc' := 92) X117 hx (hb hby at_89) rfl (XT.i0_eq_f hc118) ?_
        refine i_iconst (pc' := 93) (1 : Int32) X117 hx (hb hby at_92) rfl (by decide) ?_
        refine i_goto (pc' := 97) X117 hx (hb hby at_93) (by decide) (by decide) ?_
        refine i_istore (L' := #[.val (.int p1), .val (.int p2), .val (.int p3), .val (.int p4), .val (.int p5), .val (.int p6), .val (.int v1), .val (.int v2), .val (.int v3), .val (.int v4), .val (.int v5), .val (.int v6), .val (.int v7), .val (.int (1 : Int32)), .val (.int v116), .val (.int (1 : Int32)), .unset, .unset, .unset, .unset, .unset]) (pc' := 99) X117 hx (hb hby at_97) rfl rfl ?_
        refine i_iload (v := p6) (pc' := 101) X117 hx (hb hby at_99) rfl rfl ?_
        refine i_bipush (pc' := 103) (8 : Int32) X117 hx (hb hby at_101) rfl (by decide) ?_
        refine i_iand (pc' := 104) X117 hx (hb hby at_103) rfl ?_
        obtain ⟨v179, hv179⟩ : ∃ zz : Int32, zz = (if (p6 &&& (8 : Int32)) = 0 then (0 : Int32) else (1 : Int32)) := ⟨_, rfl⟩
        have J180 : ∀ (T : State), Pn p l e room_1 s m #[(.int p1), (.int p2), (.int p3), (.int p4), (.int p5), (.int p6)] below meth c T h0 n0 0 0 → Go p e s below n0 Q0 room_1 T (mkF m 112 #[.val (.int p1), .val (.int p2), .val (.int p3), .val (.int p4), .val (.int p5), .val (.int p6), .val (.int v1), .val (.int v2), .val (.int v3), .val (.int v4), .val (.int v5), .val (.int v6), .val (.int v7), .val (.int (1 : Int32)), .val (.int v116), .val (.int (1 : Int32)), .unset, .unset, .unset, .unset, .unset] [(.int v179)]) := by
          intro T180 X180
          refine i_istore (L' := #[.val (.int p1), .val (.int p2), .val (.int p3), .val (.int p4), .val (.int p5), .val (.int p6), .val (.int v1), .val (.int v2), .val (.int v3), .val (.int v4), .val (.int v5), .val (.int v6), .val (.int v7), .val (.int (1 : Int32)), .val (.int v116), .val (.int (1 : Int32)), .val (.int v179), .unset, .unset, .unset, .unset]) (pc' := 114) X180 hx (hb hby at_112) rfl rfl ?_
          refine nw (pc' := 117) X180 hx hZ hown (hw _ (List.mem_of_getElem? (i := 2) rfl)) (hw _ (List.mem_of_getElem? (i := 3) rfl)) (hw _ (List.mem_of_getElem? (i := 4) rfl)) (hb hby at_114) rfl (by decide) (by decide) fun T181 h181 b181 X181 g181 ge181 E181 A181 D181 => ?_
          have sz_b181 : h0.size ≤ b181 := Nat.le_trans ((Keep.refl h0 _) : Keep h0 h0 []).1 (Nat.le_of_eq g181.symm)
          have K181 : Keep h0 h181 [] := ((Keep.refl h0 _) : Keep h0 h0 []).ext E181
          refine i_dup (pc' := 118) X181 hx (hb hby at_117) rfl rfl ?_
          refine i_iload (v := v1) (pc' := 120) X181 hx (hb hby at_118) rfl rfl ?_
          have F182 : Fld Z h181 b181 "com/example/shoal_creek/shoalcreek/MatchedSuffixes" "newestEnd" "I" (.int (0 : Int32)) := (D181 (Or.inl (hw _ (List.mem_of_getElem? (i := 12) rfl))) (ty := .int) (by decide))
          have F183 : Fld Z h181 b181 "com/example/shoal_creek/shoalcreek/MatchedSuffixes" "patternLength" "I" (.int (0 : Int32)) := (D181 (Or.inr (hw _ (List.mem_of_getElem? (i := 14) rfl))) (ty := .int) (by decide))
          have F184 : Fld Z h181 b181 "com/example/shoal_creek/shoalcreek/MatchedSuffixes" "ends" "[I" .null := (D181 (Or.inl (hw _ (List.mem_of_getElem? (i := 36) rfl))) (ty := (.array .int)) (by decide))
          have F185 : Fld Z h181 b181 "com/example/shoal_creek/shoalcreek/MatchedSuffixes" "lengths" "[I" .null := (D181 (Or.inl (hw _ (List.mem_of_getElem? (i := 39) rfl))) (ty := (.array .int)) (by decide))
          have F186 : Fld Z h181 b181 "com/example/shoal_creek/shoalcreek/MatchedSuffixes" "differings" "[I" .null := (D181 (Or.inl (hw _ (List.mem_of_getElem? (i := 41) rfl))) (ty := (.array .int)) (by decide))
          have F187 : Fld Z h181 b181 "com/example/shoal_creek/shoalcreek/MatchedSuffixes" "differing" "C" (.int (0 : Int32)) := (D181 (Or.inl (hw _ (List.mem_of_getElem? (i := 21) rfl))) (ty := .char) (by decide))
          refine cI (y := (⟨"com/example/shoal_creek/shoalcreek/MatchedSuffixes", "<init>", "(I)V"⟩ : MethodName)) (rest := [(.ref b181)]) (pc' := 123) (a := b181) 1 [(.int v1)] X181 hx hZ hown rfl (hw _ (List.mem_of_getElem? (i := 5) rfl)) (hw _ (List.mem_of_getElem? (i := 6) rfl)) (hw _ (List.mem_of_getElem? (i := 4) rfl)) (hw _ (List.mem_of_getElem? (i := 7) rfl)) (by decide) (rmNew l Z a0 hw [] b181 v1 n0 h181 X181.le A181 F182 F183 F184 F185 F186 F187 ge181) (by decide) (by decide) (by rw [hml]; rfl) rfl (lenOf pd6 rfl) rfl (Nat.le_of_eq rfl) (hb hby at_120) rfl (by decide) (by decide) ?_
          intro r188 T188 h188 X188 q188
          obtain ⟨rfl, K188c, P188_0, P188_1, P188_2, P188_3, P188_4, P188_5⟩ := q188
          show Go _ _ _ _ _ _ _ T188 (mkF m 123 #[.val (.int p1), .val (.int p2), .val (.int p3), .val (.int p4), .val (.int p5), .val (.int p6), .val (.int v1), .val (.int v2), .val (.int v3), .val (.int v4), .val (.int v5), .val (.int v6), .val (.int v7), .val (.int (1 : Int32)), .val (.int v116), .val (.int (1 : Int32)), .val (.int v179), .unset, .unset, .unset, .unset] [(.ref b181)])
          refine i_astore (L' := #[.val (.int p1), .val (.int p2), .val (.int p3), .val (.int p4), .val (.int p5), .val (.int p6), .val (.int v1), .val (.int v2), .val (.int v3), .val (.int v4), .val (.int v5), .val (.int v6), .val (.int v7), .val (.int (1 : Int32)), .val (.int v116), .val (.int (1 : Int32)), .val (.int v179), .val (.ref b181), .unset, .unset, .unset]) (pc' := 125) X188 hx (hb hby at_123) rfl rfl rfl ?_
          refine nw (pc' := 128) X188 hx hZ hown (hw _ (List.mem_of_getElem? (i := 2) rfl)) (hw _ (List.mem_of_getElem? (i := 3) rfl)) (hw _ (List.mem_of_getElem? (i := 4) rfl)) (hb hby at_125) rfl (by decide) (by decide) fun T189 h189 b189 X189 g189 ge189 E189 A189 D189 => ?_
          have F190 : Exa Z h188 b181 "com/example/shoal_creek/shoalcreek/MatchedSuffixes" := (A181.keep K188c)
          have ne_b181_b189 : b181 ≠ b189 := Nat.ne_of_lt (Nat.lt_of_lt_of_eq F190.lt g189.symm)
          have sz_b189 : h0.size ≤ b189 := Nat.le_trans (((K181 : Keep h0 h181 []).trans K188c (allS (Or.inr sz_b181) all0)) : Keep h0 h188 []).1 (Nat.le_of_eq g189.symm)
          have K189 : Keep h0 h189 [] := (((K181 : Keep h0 h181 []).trans K188c (allS (Or.inr sz_b181) all0)) : Keep h0 h188 []).ext E189
          refine i_dup (pc' := 129) X189 hx (hb hby at_128) rfl rfl ?_
          refine i_iload (v := v1) (pc' := 131) X189 hx (hb hby at_129) rfl rfl ?_
          have F191 : Fld Z h189 b189 "com/example/shoal_creek/shoalcreek/MatchedSuffixes" "newestEnd" "I" (.int (0 : Int32)) := (D189 (Or.inl (hw _ (List.mem_of_getElem? (i := 12) rfl))) (ty := .int) (by decide))
          have F192 : Fld Z h189 b189 "com/example/shoal_creek/shoalcreek/MatchedSuffixes" "patternLength" "I" (.int (0 : Int32)) := (D189 (Or.inr (hw _ (List.mem_of_getElem? (i := 14) rfl))) (ty := .int) (by decide))
          have F193 : Fld Z h189 b189 "com/example/shoal_creek/shoalcreek/MatchedSuffixes" "ends" "[I" .null := (D189 (Or.inl (hw _ (List.mem_of_getElem? (i := 36) rfl))) (ty := (.array .int)) (by decide))
          have F194 : Fld Z h189 b189 "com/example/shoal_creek/shoalcreek/MatchedSuffixes" "lengths" "[I" .null := (D189 (Or.inl (hw _ (List.mem_of_getElem? (i := 39) rfl))) (ty := (.array .int)) (by decide))
          have F195 : Fld Z h189 b189 "com/example/shoal_creek/shoalcreek/MatchedSuffixes" "differings" "[I" .null := (D189 (Or.inl (hw _ (List.mem_of_getElem? (i := 41) rfl))) (ty := (.array .int)) (by decide))
          have F196 : Fld Z h189 b189 "com/example/shoal_creek/shoalcreek/MatchedSuffixes" "differing" "C" (.int (0 : Int32)) := (D189 (Or.inl (hw _ (List.mem_of_getElem? (i := 21) rfl))) (ty := .char) (by decide))
          refine cI (y := (⟨"com/example/shoal_creek/shoalcreek/MatchedSuffixes", "<init>", "(I)V"⟩ : MethodName)) (rest := [(.ref b189)]) (pc' := 134) (a := b189) 1 [(.int v1)] X189 hx hZ hown rfl (hw _ (List.mem_of_getElem? (i := 5) rfl)) (hw _ (List.mem_of_getElem? (i := 6) rfl)) (hw _ (List.mem_of_getElem? (i := 4) rfl)) (hw _ (List.mem_of_getElem? (i := 7) rfl)) (by decide) (rmNew l Z a0 hw [] b189 v1 n0 h189 X189.le A189 F191 F192 F193 F194 F195 F196 ge189) (by decide) (by decide) (by rw [hml]; rfl) rfl (lenOf pd6 rfl) rfl (Nat.le_of_eq rfl) (hb hby at_131) rfl (by decide) (by decide) ?_
          intro r197 T197 h197 X197 q197
          obtain ⟨rfl, K197c, P197_0, P197_1, P197_2, P197_3, P197_4, P197_5⟩ := q197
          show Go _ _ _ _ _ _ _ T197 (mkF m 134 #[.val (.int p1), .val (.int p2), .val (.int p3), .val (.int p4), .val (.int p5), .val (.int p6), .val (.int v1), .val (.int v2), .val (.int v3), .val (.int v4), .val (.int v5), .val (.int v6), .val (.int v7), .val (.int (1 : Int32)), .val (.int v116), .val (.int (1 : Int32)), .val (.int v179), .val (.ref b181), .unset, .unset, .unset] [(.ref b189)])
          refine i_astore (L' := #[.val (.int p1), .val (.int p2), .val (.int p3), .val (.int p4), .val (.int p5), .val (.int p6), .val (.int v1), .val (.int v2), .val (.int v3), .val (.int v4), .val (.int v5), .val (.int v6), .val (.int v7), .val (.int (1 : Int32)), .val (.int v116), .val (.int (1 : Int32)), .val (.int v179), .val (.ref b181), .val (.ref b189), .unset, .unset]) (pc' := 136) X197 hx (hb hby at_134) rfl rfl rfl ?_
          refine i_aload (v := (.ref b181)) (pc' := 138) X197 hx (hb hby at_136) rfl rfl rfl ?_
          refine i_iload (v := v6) (pc' := 140) X197 hx (hb hby at_138) rfl rfl ?_
          have F198 : Exa Z h197 b181 "com/example/shoal_creek/shoalcreek/MatchedSuffixes" := ((Jvm.RoadKit.Exa.ext E189 F190).keep K197c)
          have F199 : Fld Z h197 b181 "com/example/shoal_creek/shoalcreek/MatchedSuffixes" "ends" "[I" .null := ((Jvm.RoadKit.Fld.ext E189 P188_2).keep K197c (ninS ne_b181_b189 nin0))
          have F200 : Fld Z h197 b181 "com/example/shoal_creek/shoalcreek/MatchedSuffixes" "lengths" "[I" .null := ((Jvm.RoadKit.Fld.ext E189 P188_3).keep K197c (ninS ne_b181_b189 nin0))
          have F201 : Fld Z h197 b181 "com/example/shoal_creek/shoalcreek/MatchedSuffixes" "differings" "[I" .null := ((Jvm.RoadKit.Fld.ext E189 P188_4).keep K197c (ninS ne_b181_b189 nin0))
          have F202 : Fld Z h197 b181 "com/example/shoal_creek/shoalcreek/MatchedSuffixes" "newestEnd" "I" (.int (-1 : Int32)) := ((Jvm.RoadKit.Fld.ext E189 P188_0).keep K197c (ninS ne_b181_b189 nin0))
          have F203 : Fld Z h197 b181 "com/example/shoal_creek/shoalcreek/MatchedSuffixes" "patternLength" "I" (.int v1) := ((Jvm.RoadKit.Fld.ext E189 P188_1).keep K197c (ninS ne_b181_b189 nin0))
          have F204 : Fld Z h197 b181 "com/example/shoal_creek/shoalcreek/MatchedSuffixes" "differing" "C" (.int (0 : Int32)) := ((Jvm.RoadKit.Fld.ext E189 P188_5).keep K197c (ninS ne_b181_b189 nin0))
          refine cV (y := (⟨"com/example/shoal_creek/shoalcreek/MatchedSuffixes", "noteDiffering", "(C)V"⟩ : MethodName)) (C := "com/example/shoal_creek/shoalcreek/MatchedSuffixes") (rest := []) (pc' := 143) 0 [(.int v6)] X197 hx hZ hown (hw _ (List.mem_of_getElem? (i := 15) rfl)) (hw _ (List.mem_of_getElem? (i := 16) rfl)) (hw _ (List.mem_of_getElem? (i := 18) rfl)) (hw _ (List.mem_of_getElem? (i := 17) rfl)) (hw _ (List.mem_of_getElem? (i := 4) rfl)) (hw _ (List.mem_of_getElem? (i := 19) rfl)) (by decide) F198 (rmNote l Z a0 hw [] b181 v6 v1 (-1 : Int32) (0 : Int32) n0 h197 X197.le F198 F199 F200 F201 F202 F203 F204 ge181 hca) (by decide) (by decide) (by rw [hml]; rfl) rfl (lenOf pd7 rfl) rfl (Nat.le_of_eq rfl) (hb hby at_140) rfl (by decide) (by decide) ?_
          intro r205 T205 h205 X205 q205
          obtain ⟨rfl, K205c, P205_0, P205_1, P205_2, P205_3, P205_4, P205_5⟩ := q205
          show Go _ _ _ _ _ _ _ T205 (mkF m 143 #[.val (.int p1), .val (.int p2), .val (.int p3), .val (.int p4), .val (.int p5), .val (.int p6), .val (.int v1), .val (.int v2), .val (.int v3), .val (.int v4), .val (.int v5), .val (.int v6), .val (.int v7), .val (.int (1 : Int32)), .val (.int v116), .val (.int (1 : Int32)), .val (.int v179), .val (.ref b181), .val (.ref b189), .unset, .unset] [])
          refine i_aload (v := (.ref b189)) (pc' := 145) X205 hx (hb hby at_143) rfl rfl rfl ?_
          refine i_iload (v := v7) (pc' := 147) X205 hx (hb hby at_145) rfl rfl ?_
          have F206 : Exa Z h205 b189 "com/example/shoal_creek/shoalcreek/MatchedSuffixes" := ((A189.keep K197c).keep K205c)
          have F207 : Fld Z h205 b189 "com/example/shoal_creek/shoalcreek/MatchedSuffixes" "ends" "[I" .null := (P197_2.keep K205c (ninS (Ne.symm ne_b181_b189) nin0))
          have F208 : Fld Z h205 b189 "com/example/shoal_creek/shoalcreek/MatchedSuffixes" "lengths" "[I" .null := (P197_3.keep K205c (ninS (Ne.symm ne_b181_b189) nin0))
          have F209 : Fld Z h205 b189 "com/example/shoal_creek/shoalcreek/MatchedSuffixes" "differings" "[I" .null := (P197_4.keep K205c (ninS (Ne.symm ne_b181_b189) nin0))
          have F210 : Fld Z h205 b189 "com/example/shoal_creek/shoalcreek/MatchedSuffixes" "newestEnd" "I" (.int (-1 : Int32)) := (P197_0.keep K205c (ninS (Ne.symm ne_b181_b189) nin0))
          have F211 : Fld Z h205 b189 "com/example/shoal_creek/shoalcreek/MatchedSuffixes" "patternLength" "I" (.int v1) := (P197_1.keep K205c (ninS (Ne.symm ne_b181_b189) nin0))
          have F212 : Fld Z h205 b189 "com/example/shoal_creek/shoalcreek/MatchedSuffixes" "differing" "C" (.int (0 : Int32)) := (P197_5.keep K205c (ninS (Ne.symm ne_b181_b189) nin0))
          refine cV (y := (⟨"com/example/shoal_creek/shoalcreek/MatchedSuffixes", "noteDiffering", "(C)V"⟩ : MethodName)) (C := "com/example/shoal_creek/shoalcreek/MatchedSuffixes") (rest := []) (pc' := 150) 0 [(.int v7)] X205 hx hZ hown (hw _ (List.mem_of_getElem? (i := 15) rfl)) (hw _ (List.mem_of_getElem? (i := 16) rfl)) (hw _ (List.mem_of_getElem? (i := 18) rfl)) (hw _ (List.mem_of_getElem? (i := 17) rfl)) (hw _ (List.mem_of_getElem? (i := 4) rfl)) (hw _ (List.mem_of_getElem? (i := 19) rfl)) (by decide) F206 (rmNote l Z a0 hw [] b189 v7 v1 (-1 : Int32) (0 : Int32) n0 h205 X205.le F206 F207 F208 F209 F210 F211 F212 ge189 hcb) (by decide) (by decide) (by rw [hml]; rfl) rfl (lenOf pd7 rfl) rfl (Nat.le_of_eq rfl) (hb hby at_147) rfl (by decide) (by decide) ?_
          intro r213 T213 h213 X213 q213
          obtain ⟨rfl, K213c, P213_0, P213_1, P213_2, P213_3, P213_4, P213_5⟩ := q213
          show Go _ _ _ _ _ _ _ T213 (mkF m 150 #[.val (.int p1), .val (.int p2), .val (.int p3), .val (.int p4), .val (.int p5), .val (.int p6), .val (.int v1), .val (.int v2), .val (.int v3), .val (.int v4), .val (.int v5), .val (.int v6), .val (.int v7), .val (.int (1 : Int32)), .val (.int v116), .val (.int (1 : Int32)), .val (.int v179), .val (.ref b181), .val (.ref b189), .unset, .unset] [])
          refine i_aload (v := (.ref b181)) (pc' := 152) X213 hx (hb hby at_150) rfl rfl rfl ?_
          refine i_iload (v := (1 : Int32)) (pc' := 154) X213 hx (hb hby at_152) rfl rfl ?_
          refine i_iload (v := v116) (pc' := 156) X213 hx (hb hby at_154) rfl rfl ?_
          refine i_iload (v := v2) (pc' := 158) X213 hx (hb hby at_156) rfl rfl ?_
          refine i_iload (v := v4) (pc' := 160) X213 hx (hb hby at_158) rfl rfl ?_
          refine i_iload (v := v1) (pc' := 162) X213 hx (hb hby at_160) rfl rfl ?_
          have F214 : Exa Z h213 b181 "com/example/shoal_creek/shoalcreek/MatchedSuffixes" := ((F198.keep K205c).keep K213c)
          have F215 : Fld Z h213 b181 "com/example/shoal_creek/shoalcreek/MatchedSuffixes" "ends" "[I" .null := (P205_0.keep K213c (ninS ne_b181_b189 nin0))
          have F216 : Fld Z h213 b181 "com/example/shoal_creek/shoalcreek/MatchedSuffixes" "lengths" "[I" .null := (P205_1.keep K213c (ninS ne_b181_b189 nin0))
          have F217 : Fld Z h213 b181 "com/example/shoal_creek/shoalcreek/MatchedSuffixes" "differings" "[I" .null := (P205_2.keep K213c (ninS ne_b181_b189 nin0))
          have F218 : Fld Z h213 b181 "com/example/shoal_creek/shoalcreek/MatchedSuffixes" "newestEnd" "I" (.int (-1 : Int32)) := (P205_3.keep K213c (ninS ne_b181_b189 nin0))
          have F219 : Fld Z h213 b181 "com/example/shoal_creek/shoalcreek/MatchedSuffixes" "patternLength" "I" (.int v1) := (P205_4.keep K213c (ninS ne_b181_b189 nin0))
          have F220 : Fld Z h213 b181 "com/example/shoal_creek/shoalcreek/MatchedSuffixes" "differing" "C" (.int v6) := (P205_5.keep K213c (ninS ne_b181_b189 nin0))
          refine cS (y := (⟨"com/example/shoal_creek/shoalcreek/MatchedSuffixesSwapPinLaw", "fill", "(Lcom/example/shoal_creek/shoalcreek/MatchedSuffixes;ZZIII)I"⟩ : MethodName)) (rest := []) (pc' := 165) 0 [(.ref b181), (.int (1 : Int32)), (.int v116), (.int v2), (.int v4), (.int v1)] X213 hx hZ hown (hw _ (List.mem_of_getElem? (i := 22) rfl)) (hw _ (List.mem_of_getElem? (i := 23) rfl)) (hw _ (List.mem_of_getElem? (i := 24) rfl)) (hw _ (List.mem_of_getElem? (i := 25) rfl)) (by decide) (rmF1 l Z a0 hw [] b181 (1 : Int32) v116 v2 v4 v1 (-1 : Int32) v6 n0 h213 X213.le F214 F215 F216 F217 F218 F219 F220 ge181 (by decide) hpl hla (own_nch hca.1)) (by decide) (by decide) (by rw [hml]; rfl) rfl (lenOf pd8 rfl) rfl (Nat.le_of_eq rfl) (hb hby at_162) rfl (by decide) (by decide) ?_
          intro r221 T221 h221 X221 q221
          have F222 : Exa Z h213 b189 "com/example/shoal_creek/shoalcreek/MatchedSuffixes" := (F206.keep K213c)
          obtain ⟨aE221, aL221, aD221, rfl, K221c, P221_0, P221_1, P221_2, P221_3, P221_4, P221_5, P221_6, P221_7, P221_8, fz221_aE, fz221_aL, fz221_aD, fn221_aE_aL, fn221_aE_aD, fn221_aL_aD⟩ := q221
          have ge_aE221 : n0 ≤ aE221 := Nat.le_trans X213.le fz221_aE
          have sz_aE221 : h0.size ≤ aE221 := Nat.le_trans (((((((K189 : Keep h0 h189 []).trans K197c (allS (Or.inr sz_b189) all0)) : Keep h0 h197 []).trans K205c (allS (Or.inr sz_b181) all0)) : Keep h0 h205 []).trans K213c (allS (Or.inr sz_b189) all0)) : Keep h0 h213 []).1 fz221_aE
          have ne_b181_aE221 : b181 ≠ aE221 := Nat.ne_of_lt (Nat.lt_of_lt_of_le F214.lt fz221_aE)
          have ne_b189_aE221 : b189 ≠ aE221 := Nat.ne_of_lt (Nat.lt_of_lt_of_le F222.lt fz221_aE)
          have ge_aL221 : n0 ≤ aL221 := Nat.le_trans X213.le fz221_aL
          have sz_aL221 : h0.size ≤ aL221 := Nat.le_trans (((((((K189 : Keep h0 h189 []).trans K197c (allS (Or.inr sz_b189) all0)) : Keep h0 h197 []).trans K205c (allS (Or.inr sz_b181) all0)) : Keep h0 h205 []).trans K213c (allS (Or.inr sz_b189) all0)) : Keep h0 h213 []).1 fz221_aL
          have ne_b181_aL221 : b181 ≠ aL221 := Nat.ne_of_lt (Nat.lt_of_lt_of_le F214.lt fz221_aL)
          have ne_b189_aL221 : b189 ≠ aL221 := Nat.ne_of_lt (Nat.lt_of_lt_of_le F222.lt fz221_aL)
          have ge_aD221 : n0 ≤ aD221 := Nat.le_trans X213.le fz221_aD
          have sz_aD221 : h0.size ≤ aD221 := Nat.le_trans (((((((K189 : Keep h0 h189 []).trans K197c (allS (Or.inr sz_b189) all0)) : Keep h0 h197 []).trans K205c (allS (Or.inr sz_b181) all0)) : Keep h0 h205 []).trans K213c (allS (Or.inr sz_b189) all0)) : Keep h0 h213 []).1 fz221_aD
          have ne_b181_aD221 : b181 ≠ aD221 := Nat.ne_of_lt (Nat.lt_of_lt_of_le F214.lt fz221_aD)
          have ne_b189_aD221 : b189 ≠ aD221 := Nat.ne_of_lt (Nat.lt_of_lt_of_le F222.lt fz221_aD)
          show Go _ _ _ _ _ _ _ T221 (mkF m 165 #[.val (.int p1), .val (.int p2), .val (.int p3), .val (.int p4), .val (.int p5), .val (.int p6), .val (.int v1), .val (.int v2), .val (.int v3), .val (.int v4), .val (.int v5), .val (.int v6), .val (.int v7), .val (.int (1 : Int32)), .val (.int v116), .val (.int (1 : Int32)), .val (.int v179), .val (.ref b181), .val (.ref b189), .unset, .unset] [(.int (if v116 = 0 then (if v4 < v1 then v6 else (-2 : Int32)) else (-1 : Int32)))])
          refine i_istore (L' := #[.val (.int p1), .val (.int p2), .val (.int p3), .val (.int p4), .val (.int p5), .val (.int p6), .val (.int v1), .val (.int v2), .val (.int v3), .val (.int v4), .val (.int v5), .val (.int v6), .val (.int v7), .val (.int (1 : Int32)), .val (.int v116), .val (.int (1 : Int32)), .val (.int v179), .val (.ref b181), .val (.ref b189), .val (.int (if v116 = 0 then (if v4 < v1 then v6 else (-2 : Int32)) else (-1 : Int32))), .unset]) (pc' := 167) X221 hx (hb hby at_165) rfl rfl ?_
          refine i_aload (v := (.ref b189)) (pc' := 169) X221 hx (hb hby at_167) rfl rfl rfl ?_
          refine i_iload (v := (1 : Int32)) (pc' := 171) X221 hx (hb hby at_169) rfl rfl ?_
          refine i_iload (v := v179) (pc' := 173) X221 hx (hb hby at_171) rfl rfl ?_
          refine i_iload (v := v3) (pc' := 175) X221 hx (hb hby at_173) rfl rfl ?_
          refine i_iload (v := v5) (pc' := 177) X221 hx (hb hby at_175) rfl rfl ?_
          refine i_iload (v := v1) (pc' := 179) X221 hx (hb hby at_177) rfl rfl ?_
          have F223 : Exa Z h221 b189 "com/example/shoal_creek/shoalcreek/MatchedSuffixes" := (F222.keep K221c)
          have F224 : Fld Z h221 b189 "com/example/shoal_creek/shoalcreek/MatchedSuffixes" "ends" "[I" .null := (P213_0.keep K221c (ninS (Ne.symm ne_b181_b189) nin0))
          have F225 : Fld Z h221 b189 "com/example/shoal_creek/shoalcreek/MatchedSuffixes" "lengths" "[I" .null := (P213_1.keep K221c (ninS (Ne.symm ne_b181_b189) nin0))
          have F226 : Fld Z h221 b189 "com/example/shoal_creek/shoalcreek/MatchedSuffixes" "differings" "[I" .null := (P213_2.keep K221c (ninS (Ne.symm ne_b181_b189) nin0))
          have F227 : Fld Z h221 b189 "com/example/shoal_creek/shoalcreek/MatchedSuffixes" "newestEnd" "I" (.int (-1 : Int32)) := (P213_3.keep K221c (ninS (Ne.symm ne_b181_b189) nin0))
          have F228 : Fld Z h221 b189 "com/example/shoal_creek/shoalcreek/MatchedSuffixes" "patternLength" "I" (.int v1) := (P213_4.keep K221c (ninS (Ne.symm ne_b181_b189) nin0))
          have F229 : Fld Z h221 b189 "com/example/shoal_creek/shoalcreek/MatchedSuffixes" "differing" "C" (.int v7) := (P213_5.keep K221c (ninS (Ne.symm ne_b181_b189) nin0))
          refine cS (y := (⟨"com/example/shoal_creek/shoalcreek/MatchedSuffixesSwapPinLaw", "fill", "(Lcom/example/shoal_creek/shoalcreek/MatchedSuffixes;ZZIII)I"⟩ : MethodName)) (rest := []) (pc' := 182) 0 [(.ref b189), (.int (1 : Int32)), (.int v179), (.int v3), (.int v5), (.int v1)] X221 hx hZ hown (hw _ (List.mem_of_getElem? (i := 22) rfl)) (hw _ (List.mem_of_getElem? (i := 23) rfl)) (hw _ (List.mem_of_getElem? (i := 24) rfl)) (hw _ (List.mem_of_getElem? (i := 25) rfl)) (by decide) (rmF1 l Z a0 hw [] b189 (1 : Int32) v179 v3 v5 v1 (-1 : Int32) v7 n0 h221 X221.le F223 F224 F225 F226 F227 F228 F229 ge189 (by decide) hpl hlb (own_nch hcb.1)) (by decide) (by decide) (by rw [hml]; rfl) rfl (lenOf pd8 rfl) rfl (Nat.le_of_eq rfl) (hb hby at_179) rfl (by decide) (by decide) ?_
          intro r230 T230 h230 X230 q230
          have F231 : Exa Z h221 b181 "com/example/shoal_creek/shoalcreek/MatchedSuffixes" := (F214.keep K221c)
          obtain ⟨aE230, aL230, aD230, rfl, K230c, P230_0, P230_1, P230_2, P230_3, P230_4, P230_5, P230_6, P230_7, P230_8, fz230_aE, fz230_aL, fz230_aD, fn230_aE_aL, fn230_aE_aD, fn230_aL_aD⟩ := q230
          have ge_aE230 : n0 ≤ aE230 := Nat.le_trans X221.le fz230_aE
          have sz_aE230 : h0.size ≤ aE230 := Nat.le_trans (((((((((K189 : Keep h0 h189 []).trans K197c (allS (Or.inr sz_b189) all0)) : Keep h0 h197 []).trans K205c (allS (Or.inr sz_b181) all0)) : Keep h0 h205 []).trans K213c (allS (Or.inr sz_b189) all0)) : Keep h0 h213 []).trans K221c (allS (Or.inr sz_b181) all0)) : Keep h0 h221 []).1 fz230_aE
          have ne_b181_aE230 : b181 ≠ aE230 := Nat.ne_of_lt (Nat.lt_of_lt_of_le F231.lt fz230_aE)
          have ne_b189_aE230 : b189 ≠ aE230 := Nat.ne_of_lt (Nat.lt_of_lt_of_le F223.lt fz230_aE)
          have ne_aE221_aE230 : aE221 ≠ aE230 := Nat.ne_of_lt (Nat.lt_of_lt_of_le P221_6.lt fz230_aE)
          have ne_aL221_aE230 : aL221 ≠ aE230 := Nat.ne_of_lt (Nat.lt_of_lt_of_le P221_7.lt fz230_aE)
          have ne_aD221_aE230 : aD221 ≠ aE230 := Nat.ne_of_lt (Nat.lt_of_lt_of_le P221_8.lt fz230_aE)
          have ge_aL230 : n0 ≤ aL230 := Nat.le_trans X221.le fz230_aL
          have sz_aL230 : h0.size ≤ aL230 := Nat.le_trans (((((((((K189 : Keep h0 h189 []).trans K197c (allS (Or.inr sz_b189) all0)) : Keep h0 h197 []).trans K205c (allS (Or.inr sz_b181) all0)) : Keep h0 h205 []).trans K213c (allS (Or.inr sz_b189) all0)) : Keep h0 h213 []).trans K221c (allS (Or.inr sz_b181) all0)) : Keep h0 h221 []).1 fz230_aL
          have ne_b181_aL230 : b181 ≠ aL230 := Nat.ne_of_lt (Nat.lt_of_lt_of_le F231.lt fz230_aL)
          have ne_b189_aL230 : b189 ≠ aL230 := Nat.ne_of_lt (Nat.lt_of_lt_of_le F223.lt fz230_aL)
          have ne_aE221_aL230 : aE221 ≠ aL230 := Nat.ne_of_lt (Nat.lt_of_lt_of_le P221_6.lt fz230_aL)
          have ne_aL221_aL230 : aL221 ≠ aL230 := Nat.ne_of_lt (Nat.lt_of_lt_of_le P221_7.lt fz230_aL)
          have ne_aD221_aL230 : aD221 ≠ aL230 := Nat.ne_of_lt (Nat.lt_of_lt_of_le P221_8.lt fz230_aL)
          have ge_aD230 : n0 ≤ aD230 := Nat.le_trans X221.le fz230_aD
          have sz_aD230 : h0.size ≤ aD230 := Nat.le_trans (((((((((K189 : Keep h0 h189 []).trans K197c (allS (Or.inr sz_b189) all0)) : Keep h0 h197 []).trans K205c (allS (Or.inr sz_b181) all0)) : Keep h0 h205 []).trans K213c (allS (Or.inr sz_b189) all0)) : Keep h0 h213 []).trans K221c (allS (Or.inr sz_b181) all0)) : Keep h0 h221 []).1 fz230_aD
          have ne_b181_aD230 : b181 ≠ aD230 := Nat.ne_of_lt (Nat.lt_of_lt_of_le F231.lt fz230_aD)
          have ne_b189_aD230 : b189 ≠ aD230 := Nat.ne_of_lt (Nat.lt_of_lt_of_le F223.lt fz230_aD)
          have ne_aE221_aD230 : aE221 ≠ aD230 := Nat.ne_of_lt (Nat.lt_of_lt_of_le P221_6.lt fz230_aD)
          have ne_aL221_aD230 : aL221 ≠ aD230 := Nat.ne_of_lt (Nat.lt_of_lt_of_le P221_7.lt fz230_aD)
          have ne_aD221_aD230 : aD221 ≠ aD230 := Nat.ne_of_lt (Nat.lt_of_lt_of_le P221_8.lt fz230_aD)
          show Go _ _ _ _ _ _ _ T230 (mkF m 182 #[.val (.int p1), .val (.int p2), .val (.int p3), .val (.int p4), .val (.int p5), .val (.int p6), .val (.int v1), .val (.int v2), .val (.int v3), .val (.int v4), .val (.int v5), .val (.int v6), .val (.int v7), .val (.int (1 : Int32)), .val (.int v116), .val (.int (1 : Int32)), .val (.int v179), .val (.ref b181), .val (.ref b189), .val (.int (if v116 = 0 then (if v4 < v1 then v6 else (-2 : Int32)) else (-1 : Int32))), .unset] [(.int (if v179 = 0 then (if v5 < v1 then v7 else (-2 : Int32)) else (-1 : Int32)))])
          refine i_istore (L' := #[.val (.int p1), .val (.int p2), .val (.int p3), .val (.int p4), .val (.int p5), .val (.int p6), .val (.int v1), .val (.int v2), .val (.int v3), .val (.int v4), .val (.int v5), .val (.int v6), .val (.int v7), .val (.int (1 : Int32)), .val (.int v116), .val (.int (1 : Int32)), .val (.int v179), .val (.ref b181), .val (.ref b189), .val (.int (if v116 = 0 then (if v4 < v1 then v6 else (-2 : Int32)) else (-1 : Int32))), .val (.int (if v179 = 0 then (if v5 < v1 then v7 else (-2 : Int32)) else (-1 : Int32)))]) (pc' := 184) X230 hx (hb hby at_182) rfl rfl ?_
          refine i_aload (v := (.ref b181)) (pc' := 186) X230 hx (hb hby at_184) rfl rfl rfl ?_
          refine i_aload (v := (.ref b189)) (pc' := 188) X230 hx (hb hby at_186) rfl rfl rfl ?_
          have F232 : Exa Z h230 b181 "com/example/shoal_creek/shoalcreek/MatchedSuffixes" := (F231.keep K230c)
          have F233 : Exa Z h230 b189 "com/example/shoal_creek/shoalcreek/MatchedSuffixes" := (F223.keep K230c)
          have F234 : Fld Z h230 b181 "com/example/shoal_creek/shoalcreek/MatchedSuffixes" "ends" "[I" (.ref aE221) := (P221_0.keep K230c (ninS ne_b181_b189 nin0))
          have F235 : Fld Z h230 b181 "com/example/shoal_creek/shoalcreek/MatchedSuffixes" "lengths" "[I" (.ref aL221) := (P221_1.keep K230c (ninS ne_b181_b189 nin0))
          have F236 : Fld Z h230 b181 "com/example/shoal_creek/shoalcreek/MatchedSuffixes" "differings" "[I" (.ref aD221) := (P221_2.keep K230c (ninS ne_b181_b189 nin0))
          have F237 : Fld Z h230 b181 "com/example/shoal_creek/shoalcreek/MatchedSuffixes" "newestEnd" "I" (.int (own_max (-1 : Int32) v2)) := (P221_3.keep K230c (ninS ne_b181_b189 nin0))
          refine cV (y := (⟨"com/example/shoal_creek/shoalcreek/MatchedSuffixes", "swap", "(Lcom/example/shoal_creek/shoalcreek/MatchedSuffixes;)V"⟩ : MethodName)) (C := "com/example/shoal_creek/shoalcreek/MatchedSuffixes") (rest := []) (pc' := 191) 0 [(.ref b189)] X230 hx hZ hown (hw _ (List.mem_of_getElem? (i := 51) rfl)) (hw _ (List.mem_of_getElem? (i := 52) rfl)) (hw _ (List.mem_of_getElem? (i := 54) rfl)) (hw _ (List.mem_of_getElem? (i := 53) rfl)) (hw _ (List.mem_of_getElem? (i := 4) rfl)) (hw _ (List.mem_of_getElem? (i := 55) rfl)) (by decide) F232 (rmSw l Z a0 hw [] b181 b189 (.ref aE221) (.ref aL221) (.ref aD221) (.ref aE230) (.ref aL230) (.ref aD230) (own_max (-1 : Int32) v2) (own_max (-1 : Int32) v3) n0 h230 X230.le F232 F233 F234 F235 F236 F237 P230_0 P230_1 P230_2 P230_3 ge181 ge189 ne_b181_b189 rfl rfl rfl rfl rfl rfl) (by decide) (by decide) (by rw [hml]; rfl) rfl (lenOf pd9 rfl) rfl (Nat.le_of_eq rfl) (hb hby at_188) rfl (by decide) (by decide) ?_
          intro r238 T238 h238 X238 q238
          obtain ⟨rfl, K238c, P238_0, P238_1, P238_2, P238_3, P238_4, P238_5, P238_6, P238_7⟩ := q238
          show Go _ _ _ _ _ _ _ T238 (mkF m 191 #[.val (.int p1), .val (.int p2), .val (.int p3), .val (.int p4), .val (.int p5), .val (.int p6), .val (.int v1), .val (.int v2), .val (.int v3), .val (.int v4), .val (.int v5), .val (.int v6), .val (.int v7), .val (.int (1 : Int32)), .val (.int v116), .val (.int (1 : Int32)), .val (.int v179), .val (.ref b181), .val (.ref b189), .val (.int (if v116 = 0 then (if v4 < v1 then v6 else (-2 : Int32)) else (-1 : Int32))), .val (.int (if v179 = 0 then (if v5 < v1 then v7 else (-2 : Int32)) else (-1 : Int32)))] [])
          refine i_aload (v := (.ref b181)) (pc' := 193) X238 hx (hb hby at_191) rfl rfl rfl ?_
          refine i_iload (v := (1 : Int32)) (pc' := 195) X238 hx (hb hby at_193) rfl rfl ?_
          refine i_iload (v := v3) (pc' := 197) X238 hx (hb hby at_195) rfl rfl ?_
          refine i_iload (v := v5) (pc' := 199) X238 hx (hb hby at_197) rfl rfl ?_
          refine i_iload (v := (if v179 = 0 then (if v5 < v1 then v7 else (-2 : Int32)) else (-1 : Int32))) (pc' := 201) X238 hx (hb hby at_199) rfl rfl ?_
          refine i_iload (v := v2) (pc' := 203) X238 hx (hb hby at_201) rfl rfl ?_
          have F239 : Exa Z h238 b181 "com/example/shoal_creek/shoalcreek/MatchedSuffixes" := (F232.keep K238c)
          have F240 : Av Z h238 aE230 .int (own_N v1) (fun i => .int ((own_up own_zero (own_k v3 (own_N v1)) v3) i)) := (P230_6.keep K238c (ninS (Ne.symm ne_b181_aE230) (ninS (Ne.symm ne_b189_aE230) nin0)))
          have F241 : Av Z h238 aL230 .int (own_N v1) (fun i => .int ((own_up own_zero (own_k v3 (own_N v1)) v5) i)) := (P230_7.keep K238c (ninS (Ne.symm ne_b181_aL230) (ninS (Ne.symm ne_b189_aL230) nin0)))
          have F242 : Av Z h238 aD230 .int (own_N v1) (fun i => .int ((own_up own_zero (own_k v3 (own_N v1)) (if v179 = 0 then (if v5 < v1 then v7 else (-2 : Int32)) else (-1 : Int32))) i)) := (P230_8.keep K238c (ninS (Ne.symm ne_b181_aD230) (ninS (Ne.symm ne_b189_aD230) nin0)))
          refine cS (y := (⟨"com/example/shoal_creek/shoalcreek/MatchedSuffixesSwapPinLaw", "check", "(Lcom/example/shoal_creek/shoalcreek/MatchedSuffixes;ZIIII)Z"⟩ : MethodName)) (rest := []) (pc' := 206) 0 [(.ref b181), (.int (1 : Int32)), (.int v3), (.int v5), (.int (if v179 = 0 then (if v5 < v1 then v7 else (-2 : Int32)) else (-1 : Int32))), (.int v2)] X238 hx hZ hown (hw _ (List.mem_of_getElem? (i := 56) rfl)) (hw _ (List.mem_of_getElem? (i := 57) rfl)) (hw _ (List.mem_of_getElem? (i := 24) rfl)) (hw _ (List.mem_of_getElem? (i := 58) rfl)) (by decide) (rmC1 l Z a0 hw [] b181 (1 : Int32) v3 v5 (if v179 = 0 then (if v5 < v1 then v7 else (-2 : Int32)) else (-1 : Int32)) v2 (own_max (-1 : Int32) v3) aE230 aL230 aD230 (own_N v1) n0 h238 X238.le F239 P238_3 P238_0 P238_1 P238_2 F240 F241 F242 (by decide) (own_w1 heb) (own_Np _)) (by decide) (by decide) (by rw [hml]; rfl) rfl (lenOf pd10 rfl) rfl (Nat.le_of_eq rfl) (hb hby at_203) rfl (by decide) (by decide) ?_
          intro r243 T243 h243 X243 q243
          obtain ⟨rfl, eh243⟩ := q243
          subst eh243
          show Go _ _ _ _ _ _ _ T243 (mkF m 206 #[.val (.int p1), .val (.int p2), .val (.int p3), .val (.int p4), .val (.int p5), .val (.int p6), .val (.int v1), .val (.int v2), .val (.int v3), .val (.int v4), .val (.int v5), .val (.int v6), .val (.int v7), .val (.int (1 : Int32)), .val (.int v116), .val (.int (1 : Int32)), .val (.int v179), .val (.ref b181), .val (.ref b189), .val (.int (if v116 = 0 then (if v4 < v1 then v6 else (-2 : Int32)) else (-1 : Int32))), .val (.int (if v179 = 0 then (if v5 < v1 then v7 else (-2 : Int32)) else (-1 : Int32)))] [(.int (1 : Int32))])
          refine i_ifF (pc' := 209) X243 hx (hb hby at_206) rfl (XT.i0_eq_f (by decide)) ?_
          refine i_aload (v := (.ref b189)) (pc' := 211) X243 hx (hb hby at_209) rfl rfl rfl ?_
          refine i_iload (v := (1 : Int32)) (pc' := 213) X243 hx (hb hby at_211) rfl rfl ?_
          refine i_iload (v := v2) (pc' := 215) X243 hx (hb hby at_213) rfl rfl ?_
          refine i_iload (v := v4) (pc' := 217) X243 hx (hb hby at_215) rfl rfl ?_
          refine i_iload (v := (if v116 = 0 then (if v4 < v1 then v6 else (-2 : Int32)) else (-1 : Int32))) (pc' := 219) X243 hx (hb hby at_217) rfl rfl ?_
          refine i_iload (v := v3) (pc' := 221) X243 hx (hb hby at_219) rfl rfl ?_
          have F244 : Exa Z h238 b189 "com/example/shoal_creek/shoalcreek/MatchedSuffixes" := (F233.keep K238c)
          have F245 : Av Z h238 aE221 .int (own_N v1) (fun i => .int ((own_up own_zero (own_k v2 (own_N v1)) v2) i)) := ((P221_6.keep K230c (ninS (Ne.symm ne_b189_aE221) nin0)).keep K238c (ninS (Ne.symm ne_b181_aE221) (ninS (Ne.symm ne_b189_aE221) nin0)))
          have F246 : Av Z h238 aL221 .int (own_N v1) (fun i => .int ((own_up own_zero (own_k v2 (own_N v1)) v4) i)) := ((P221_7.keep K230c (ninS (Ne.symm ne_b189_aL221) nin0)).keep K238c (ninS (Ne.symm ne_b181_aL221) (ninS (Ne.symm ne_b189_aL221) nin0)))
          have F247 : Av Z h238 aD221 .int (own_N v1) (fun i => .int ((own_up own_zero (own_k v2 (own_N v1)) (if v116 = 0 then (if v4 < v1 then v6 else (-2 : Int32)) else (-1 : Int32))) i)) := ((P221_8.keep K230c (ninS (Ne.symm ne_b189_aD221) nin0)).keep K238c (ninS (Ne.symm ne_b181_aD221) (ninS (Ne.symm ne_b189_aD221) nin0)))
          refine cS (y := (⟨"com/example/shoal_creek/shoalcreek/MatchedSuffixesSwapPinLaw", "check", "(Lcom/example/shoal_creek/shoalcreek/MatchedSuffixes;ZIIII)Z"⟩ : MethodName)) (rest := []) (pc' := 224) 0 [(.ref b189), (.int (1 : Int32)), (.int v2), (.int v4), (.int (if v116 = 0 then (if v4 < v1 then v6 else (-2 : Int32)) else (-1 : Int32))), (.int v3)] X243 hx hZ hown (hw _ (List.mem_of_getElem? (i := 56) rfl)) (hw _ (List.mem_of_getElem? (i := 57) rfl)) (hw _ (List.mem_of_getElem? (i := 24) rfl)) (hw _ (List.mem_of_getElem? (i := 58) rfl)) (by decide) (rmC1 l Z a0 hw [] b189 (1 : Int32) v2 v4 (if v116 = 0 then (if v4 < v1 then v6 else (-2 : Int32)) else (-1 : Int32)) v3 (own_max (-1 : Int32) v2) aE221 aL221 aD221 (own_N v1) n0 h238 X243.le F244 P238_7 P238_4 P238_5 P238_6 F245 F246 F247 (by decide) (own_w1 hea) (own_Np _)) (by decide) (by decide) (by rw [hml]; rfl) rfl (lenOf pd10 rfl) rfl (Nat.le_of_eq rfl) (hb hby at_221) rfl (by decide) (by decide) ?_
          intro r248 T248 h248 X248 q248
          obtain ⟨rfl, eh248⟩ := q248
          subst eh248
          show Go _ _ _ _ _ _ _ T248 (mkF m 224 #[.val (.int p1), .val (.int p2), .val (.int p3), .val (.int p4), .val (.int p5), .val (.int p6), .val (.int v1), .val (.int v2), .val (.int v3), .val (.int v4), .val (.int v5), .val (.int v6), .val (.int v7), .val (.int (1 : Int32)), .val (.int v116), .val (.int (1 : Int32)), .val (.int v179), .val (.ref b181), .val (.ref b189), .val (.int (if v116 = 0 then (if v4 < v1 then v6 else (-2 : Int32)) else (-1 : Int32))), .val (.int (if v179 = 0 then (if v5 < v1 then v7 else (-2 : Int32)) else (-1 : Int32)))] [(.int (1 : Int32))])
          refine i_ifF (pc' := 227) X248 hx (hb hby at_224) rfl (XT.i0_eq_f (by decide)) ?_
          refine i_iconst (pc' := 228) (1 : Int32) X248 hx (hb hby at_227) rfl (by decide) ?_
          refine i_goto (pc' := 232) X248 hx (hb hby at_228) (by decide) (by decide) ?_
          refine rN X248 hx hlk hret (by simp) (hb hby at_232) (by decide) (by decide) ?_
          exact rfl
        by_cases hc249 : (p6 &&& (8 : Int32)) = 0
        · skip
          refine i_ifT (pc' := 111) X117 hx (hb hby at_104) (XT.i0_eq_t hc249) (by decide) (by decide) ?_
          refine i_iconst (pc' := 112) (0 : Int32) X117 hx (hb hby at_111) rfl (by decide) ?_
          have ev179 := hv179
          simp only [if_pos hc249] at ev179
          rw [ev179] at J180
          exact J180 _ (X117.mono (by decide) (by decide))
        · skip
          refine i_ifF (pc' := 107) X117 hx (hb hby at_104) rfl (XT.i0_eq_f hc249) ?_
          refine i_iconst (pc' := 108) (1 : Int32) X117 hx (hb hby at_107) rfl (by decide) ?_
          refine i_goto (pc' := 112) X117 hx (hb hby at_108) (by decide) (by decide) ?_
          have ev179 := hv179
          simp only [if_neg hc249] at ev179
          rw [ev179] at J180
          exact J180 _ (X117.mono (by decide) (by decide))
    by_cases hc250 : (p6 &&& (2 : Int32)) = 0
    · skip
      refine i_ifT (pc' := 82) X0 hx (hb hby at_75) (XT.i0_eq_t hc250) (by decide) (by decide) ?_
      refine i_iconst (pc' := 83) (0 : Int32) X0 hx (hb hby at_82) rfl (by decide) ?_
      have ev116 := hv116
      simp only [if_pos hc250] at ev116
      rw [ev116] at J117
      exact J117 _ (X0.mono (by decide) (by decide))
    · skip
      refine i_ifF (pc' := 78) X0 hx (hb hby at_75) rfl (XT.i0_eq_f hc250) ?_
      refine i_iconst (pc' := 79) (1 : Int32) X0 hx (hb hby at_78) rfl (by decide) ?_
      refine i_goto (pc' := 83) X0 hx (hb hby at_79) (by decide) (by decide) ?_
      have ev116 := hv116
      simp only [if_neg hc250] at ev116
      rw [ev116] at J117
      exact J117 _ (X0.mono (by decide) (by decide))
set_option maxRecDepth 65536 in
set_option maxHeartbeats 40000000 in
theorem comes_1 {Post : Tables → Env → Array Value → State → Outcome → State → Prop} (hpost : ∀ tb e args s v u, (limb_1_1.after args s (.returned v) u = true ∧ limb_1_2.after args s (.returned v) u = true ∧ True) → FrameEnd s (.returned v) u (Jvm.fieldLocs frame_1_writes args s ++ Jvm.arrayLocs frame_1_arrays args s ++ Jvm.staticLocs frame_1_statics s) 24 192 → Post tb e args s (.returned v) u) :
    ArmFor flags0 classFile x code maxLocals ret World_1 tables_1 room_1 Calls_1 rest_1 Pre_1 Post := by
  intro l hfl _ _ p e ha hc hk s m args below hf hA hF happ hP
  obtain ⟨hcalls, hrest, hpre⟩ := hP
  obtain ⟨-, -, -, hnamed, -, -, -, hat⟩ := (Spec.applies_iff hf).mp happ
  obtain ⟨hg, hn⟩ := and_e (Cond.before_iff.mp (show (Jvm.Cond.and given_1 narrow_1).before args s = true from hpre))
  obtain ⟨g0, k0⟩ := and_e hg
  obtain ⟨g1, k1⟩ := and_e k0
  obtain ⟨g2, k2⟩ := and_e k1
  obtain ⟨g3, k3⟩ := and_e k2
  obtain ⟨g4, k4⟩ := and_e k3
  obtain ⟨g5, k5⟩ := and_e k4
  obtain ⟨w0, w1, w2, w3, w4, w5, rfl⟩ : ∃ w0 w1 w2 w3 w4 w5 : Value, args = #[w0, w1, w2, w3, w4, w5] := by
    have hs : args.size = 6 := by simpa [Cond.value, given_1] using g0
    obtain ⟨L⟩ := args
    match L, hs with
    | [w0, w1, w2, w3, w4, w5], _ => exact ⟨w0, w1, w2, w3, w4, w5, rfl⟩
  have hw := fun d (hd : d ∈ tables_1) => atoms_spec (ws := Jvm.Cond.code x code maxLocals ret :: tables_1) hat d (List.mem_cons_of_mem _ hd)
  have hfit : Fit s := fun {y c} hc i hi => by
    obtain ⟨ha, rfl⟩ := Array.getElem?_eq_some_iff.mp hc
    have q := List.all_eq_true.mp ((Array.all_eq_true_iff_forall_mem.mp hF) _ (Array.getElem_mem ha)) i (List.mem_range.mpr hi)
    simpa [Array.getElem?_eq_getElem hi] using q
  obtain ⟨i0, ei0⟩ := is_v g1
  obtain rfl : w0 = (.int i0) := Option.some.inj ei0
  obtain ⟨i1, ei1⟩ := is_v g2
  obtain rfl : w1 = (.int i1) := Option.some.inj ei1
  obtain ⟨i2, ei2⟩ := is_v g3
  obtain rfl : w2 = (.int i2) := Option.some.inj ei2
  obtain ⟨i3, ei3⟩ := is_v g4
  obtain rfl : w3 = (.int i3) := Option.some.inj ei3
  obtain ⟨i4, ei4⟩ := is_v g5
  obtain rfl : w4 = (.int i4) := Option.some.inj ei4
  obtain ⟨i5, ei5⟩ := is_v k5
  obtain rfl : w5 = (.int i5) := Option.some.inj ei5
  obtain ⟨n, o, h1, h2, h3, _, L, rfl, ⟨rfl, N⟩, hq⟩ := rm0 l s _ hw tables_1 i0 i1 i2 i3 i4 i5 s.heap.size s.heap (Nat.le_refl _)  p e ha hc hk s m _ below hf ((Spec.applies_iff_loose hf).mp happ).1 ⟨rfl, State.Warmed39.refl s, rfl⟩ trivial
  refine ⟨n, _, h1, h2, h3, hpost _ _ _ _ _ _ ⟨Cond.after_iff.mpr rfl, Cond.after_iff.mpr (eq_i res_at (Term.int_eval (1)) rfl), trivial⟩ ⟨hq.1, hq.2.1, (hq.2.2.sift fun y hy => Or.inr (N y hy)).mono (by decide) (by decide)⟩⟩
theorem main_1_1 : Claimed_1_1 := comes_1 fun _ _ _ _ _ _ h hF => ⟨h.1, hF⟩
theorem main_1_2 : Claimed_1_2 := comes_1 fun _ _ _ _ _ _ h hF => ⟨h.2.1, hF⟩
end Jvm.Pilot.@@N@@
namespace Jvm.Pilot.@@N@@
open Jvm Jvm.ClassFile Sem Op Lib Jvm.Free Jvm.Stand Jvm.Pilot.@@N@@.Jvm.D
/-! MADE BY PROGRAM (witnessworld.py) out of the Statement's table words and the real class files: 10 classes; the members and pool entries that the words name. The judged class is class 1, her method 3. -/
namespace start1
open Jvm.ClassFile
def u (s : String) : CpInfo := .utf8 (stringToUtf16 s)
/-- a pool by its gaps: so many unusable entries, then the entry; so many at the end -/
def gap : Nat → List CpInfo → List CpInfo
  | 0, r => r
  | n + 1, r => .unusable :: gap n r
def poolList (es : List (Nat × CpInfo)) (last : Nat) : List CpInfo := es.foldr (fun e r => gap e.1 (e.2 :: r)) (gap last [])
def pool (es : List (Nat × CpInfo)) (last : Nat) : Array CpInfo := ⟨poolList es last⟩
def fileOf (pool : Array CpInfo) (this : Nat) (attrs : Array Attribute := #[]) (ms : Array MethodInfo := #[]) (fl : Nat := 33) (sup : Nat := 0) (ifs : Array Nat := #[]) (fds : Array FieldInfo := #[]) : ClassFile where
  minorVersion := 0
  majorVersion := 65
  constantPool := pool
  accessFlags := fl
  thisClass := this
  superClass := sup
  interfaces := ifs
  fields := fds
  methods := ms
  attributes := attrs
def plain (name : String) (sup : Option ClassId) : Class where
  name := name
  kind := .ordinary
  loader := none
  accessFlags := 33
  super := sup
  interfaces := #[]
  cf := none
  fields := #[]
  methods := #[]
  instanceTypes := #[]
  staticTypes := #[]
  resolved := #[]
  callSites := []
  init := .initialized
  statics := none
  mirror := none

def pool0 : Array CpInfo := pool [(5, u "<init>"), (0, u "()V"), (1, .class_ 10), (1, u "java/lang/Object")] 113

def k0c0 : Code := { maxStack := 0, maxLocals := 1, code := object_method_1_code, exceptionTable := #[], attributes := #[] }
def k0m0 : Method := { name := "<init>", desc := "()V", sig := { parameters := [], returnType := none }, accessFlags := 1, code := some k0c0 }
/-- java/lang/Object -/
def k0 : Class := { plain "java/lang/Object" none with
  accessFlags := 33
  interfaces := #[]
  cf := some (fileOf pool0 8 #[] #[{ accessFlags := 1, nameIndex := 5, descriptorIndex := 6, attributes := #[] }] 33 0 #[] #[])
  fields := #[]
  methods := #[k0m0]
  instanceTypes := #[]
  staticTypes := #[]
  resolved := Array.replicate 124 none
  statics := none }

def pool1 : Array CpInfo := pool [(2, .class_ 4), (1, u "java/lang/Object"), (0, u "<init>"), (0, u "()V"), (0, .methodref 8 9), (0, .class_ 10), (0, .nameAndType 11 12), (0, u "com/example/shoal_creek/shoalcreek/MatchedSuffixes"), (0, u "rememberPassed"), (0, u "(III)V"), (0, .methodref 8 14), (0, .nameAndType 15 12), (0, u "remember"), (0, .methodref 8 17), (0, .nameAndType 18 19), (0, u "differing"), (0, u "()C"), (0, .methodref 8 21), (0, .nameAndType 22 23), (0, u "newestEnd"), (0, u "()I"), (0, .methodref 8 25), (0, .nameAndType 26 27), (0, u "lengthEndingAt"), (0, u "(I)I"), (0, .methodref 8 29), (0, .nameAndType 30 27), (0, u "differingBefore"), (0, .integer 2147483647), (0, .integer 65535), (0, .methodref 8 34), (0, .nameAndType 5 35), (0, u "(I)V"), (0, .methodref 8 37), (0, .nameAndType 38 39), (0, u "noteDiffering"), (0, u "(C)V"), (0, .methodref 41 42), (0, .class_ 43), (0, .nameAndType 44 45), (0, u "com/example/shoal_creek/shoalcreek/MatchedSuffixesSwapPinLaw"), (0, u "fill"), (0, u "(Lcom/example/shoal_creek/shoalcreek/MatchedSuffixes;ZZIII)I"), (0, .methodref 8 47), (0, .nameAndType 48 49), (0, u "swap"), (0, u "(Lcom/example/shoal_creek/shoalcreek/MatchedSuffixes;)V"), (0, .methodref 41 51), (0, .nameAndType 52 53), (0, u "check"), (0, u "(Lcom/example/shoal_creek/shoalcreek/MatchedSuffixes;ZIIII)Z"), (3, u "law"), (0, u "(IIIIII)Z")] 2

def k1m0 : Method := { name := "<init>", desc := "()V", sig := { parameters := [], returnType := none }, accessFlags := 1, code := none }
def k1c1 : Code := { maxStack := 4, maxLocals := 6, code := method_2_code, exceptionTable := #[], attributes := #[] }
def k1m1 : Method := { name := "fill", desc := "(Lcom/example/shoal_creek/shoalcreek/MatchedSuffixes;ZZIII)I", sig := { parameters := [(.object "com/example/shoal_creek/shoalcreek/MatchedSuffixes"), .boolean, .boolean, .int, .int, .int], returnType := some .int }, accessFlags := 10, code := some k1c1 }
def k1c2 : Code := { maxStack := 2, maxLocals := 7, code := method_3_code, exceptionTable := #[], attributes := #[] }
def k1m2 : Method := { name := "check", desc := "(Lcom/example/shoal_creek/shoalcreek/MatchedSuffixes;ZIIII)Z", sig := { parameters := [(.object "com/example/shoal_creek/shoalcreek/MatchedSuffixes"), .boolean, .int, .int, .int, .int], returnType := some .boolean }, accessFlags := 10, code := some k1c2 }
def k1c3 : Code := { maxStack := 6, maxLocals := 21, code := code, exceptionTable := #[], attributes := #[] }
def k1m3 : Method := { name := "law", desc := "(IIIIII)Z", sig := { parameters := [.int, .int, .int, .int, .int, .int], returnType := some .boolean }, accessFlags := 9, code := some k1c3 }
/-- com/example/shoal_creek/shoalcreek/MatchedSuffixesSwapPinLaw -/
def k1 : Class := { plain "com/example/shoal_creek/shoalcreek/MatchedSuffixesSwapPinLaw" (some 0) with
  accessFlags := 49
  interfaces := #[]
  cf := some (fileOf pool1 41 #[] #[{ accessFlags := 1, nameIndex := 5, descriptorIndex := 6, attributes := #[] }, { accessFlags := 10, nameIndex := 44, descriptorIndex := 45, attributes := #[] }, { accessFlags := 10, nameIndex := 52, descriptorIndex := 53, attributes := #[] }, { accessFlags := 9, nameIndex := 57, descriptorIndex := 58, attributes := #[] }] 49 2 #[] #[])
  fields := #[]
  methods := #[k1m0, k1m1, k1m2, k1m3]
  instanceTypes := #[]
  staticTypes := #[]
  resolved := Array.replicate 61 none
  statics := none }

def pool2 : Array CpInfo := pool [(1, .methodref 2 3), (0, .class_ 4), (0, .nameAndType 5 6), (0, u "java/lang/Object"), (0, u "<init>"), (0, u "()V"), (0, .fieldref 8 9), (0, .class_ 10), (0, .nameAndType 11 12), (0, u "com/example/shoal_creek/shoalcreek/MatchedSuffixes"), (0, u "newestEnd"), (0, u "I"), (0, .fieldref 8 14), (0, .nameAndType 15 12), (0, u "patternLength"), (0, .fieldref 8 17), (0, .nameAndType 18 19), (0, u "ends"), (0, u "[I"), (0, .fieldref 8 21), (0, .nameAndType 22 19), (0, u "lengths"), (0, .fieldref 8 24), (0, .nameAndType 25 19), (0, u "differings"), (0, .fieldref 8 27), (0, .nameAndType 28 29), (0, u "differing"), (0, u "C"), (0, .methodref 8 31), (0, .nameAndType 32 6), (0, u "allocate"), (0, .methodref 8 34), (0, .nameAndType 35 36), (0, u "keep"), (0, u "(III)V"), (0, .integer 1073741824), (0, .methodref 39 40), (0, .class_ 41), (0, .nameAndType 42 43), (0, u "java/lang/Math"), (0, u "max"), (0, u "(II)I"), (6, u "UNREAD"), (2, u "WHOLE"), (1, u "(I)V"), (2, u "lengthEndingAt"), (0, u "(I)I"), (1, u "differingBefore"), (1, u "()I"), (0, u "noteDiffering"), (0, u "(C)V"), (0, u "()C"), (0, u "remember"), (0, u "rememberPassed"), (4, u "swap"), (0, u "(Lcom/example/shoal_creek/shoalcreek/MatchedSuffixes;)V")] 2

def k2c0 : Code := { maxStack := 2, maxLocals := 2, code := prog_18_method_1_code, exceptionTable := #[], attributes := #[] }
def k2m0 : Method := { name := "<init>", desc := "(I)V", sig := { parameters := [.int], returnType := none }, accessFlags := 0, code := some k2c0 }
def k2c1 : Code := { maxStack := 4, maxLocals := 3, code := prog_18_method_2_code, exceptionTable := #[], attributes := #[] }
def k2m1 : Method := { name := "lengthEndingAt", desc := "(I)I", sig := { parameters := [.int], returnType := some .int }, accessFlags := 0, code := some k2c1 }
def k2c2 : Code := { maxStack := 4, maxLocals := 2, code := prog_18_method_3_code, exceptionTable := #[], attributes := #[] }
def k2m2 : Method := { name := "differingBefore", desc := "(I)I", sig := { parameters := [.int], returnType := some .int }, accessFlags := 0, code := some k2c2 }
def k2c3 : Code := { maxStack := 2, maxLocals := 2, code := prog_18_method_5_code, exceptionTable := #[], attributes := #[] }
def k2m3 : Method := { name := "noteDiffering", desc := "(C)V", sig := { parameters := [.char], returnType := none }, accessFlags := 0, code := some k2c3 }
def k2c4 : Code := { maxStack := 1, maxLocals := 1, code := prog_18_method_6_code, exceptionTable := #[], attributes := #[] }
def k2m4 : Method := { name := "differing", desc := "()C", sig := { parameters := [], returnType := some .char }, accessFlags := 0, code := some k2c4 }
def k2c5 : Code := { maxStack := 5, maxLocals := 4, code := prog_18_method_7_code, exceptionTable := #[], attributes := #[] }
def k2m5 : Method := { name := "remember", desc := "(III)V", sig := { parameters := [.int, .int, .int], returnType := none }, accessFlags := 0, code := some k2c5 }
def k2c6 : Code := { maxStack := 4, maxLocals := 4, code := prog_18_method_8_code, exceptionTable := #[], attributes := #[] }
def k2m6 : Method := { name := "rememberPassed", desc := "(III)V", sig := { parameters := [.int, .int, .int], returnType := none }, accessFlags := 0, code := some k2c6 }
def k2c7 : Code := { maxStack := 2, maxLocals := 2, code := prog_18_method_9_code, exceptionTable := #[], attributes := #[] }
def k2m7 : Method := { name := "allocate", desc := "()V", sig := { parameters := [], returnType := none }, accessFlags := 2, code := some k2c7 }
def k2c8 : Code := { maxStack := 3, maxLocals := 5, code := prog_18_method_10_code, exceptionTable := #[], attributes := #[] }
def k2m8 : Method := { name := "keep", desc := "(III)V", sig := { parameters := [.int, .int, .int], returnType := none }, accessFlags := 0, code := some k2c8 }
def k2c9 : Code := { maxStack := 1, maxLocals := 1, code := prog_18_method_13_code, exceptionTable := #[], attributes := #[] }
def k2m9 : Method := { name := "newestEnd", desc := "()I", sig := { parameters := [], returnType := some .int }, accessFlags := 0, code := some k2c9 }
def k2c10 : Code := { maxStack := 2, maxLocals := 6, code := prog_18_method_15_code, exceptionTable := #[], attributes := #[] }
def k2m10 : Method := { name := "swap", desc := "(Lcom/example/shoal_creek/shoalcreek/MatchedSuffixes;)V", sig := { parameters := [(.object "com/example/shoal_creek/shoalcreek/MatchedSuffixes")], returnType := none }, accessFlags := 0, code := some k2c10 }
/-- com/example/shoal_creek/shoalcreek/MatchedSuffixes -/
def k2 : Class := { plain "com/example/shoal_creek/shoalcreek/MatchedSuffixes" (some 0) with
  accessFlags := 48
  interfaces := #[]
  cf := some (fileOf pool2 8 #[] #[{ accessFlags := 0, nameIndex := 5, descriptorIndex := 55, attributes := #[] }, { accessFlags := 0, nameIndex := 58, descriptorIndex := 59, attributes := #[] }, { accessFlags := 0, nameIndex := 61, descriptorIndex := 59, attributes := #[] }, { accessFlags := 0, nameIndex := 64, descriptorIndex := 65, attributes := #[] }, { accessFlags := 0, nameIndex := 28, descriptorIndex := 66, attributes := #[] }, { accessFlags := 0, nameIndex := 67, descriptorIndex := 36, attributes := #[] }, { accessFlags := 0, nameIndex := 68, descriptorIndex := 36, attributes := #[] }, { accessFlags := 2, nameIndex := 32, descriptorIndex := 6, attributes := #[] }, { accessFlags := 0, nameIndex := 35, descriptorIndex := 36, attributes := #[] }, { accessFlags := 0, nameIndex := 11, descriptorIndex := 63, attributes := #[] }, { accessFlags := 0, nameIndex := 73, descriptorIndex := 74, attributes := #[] }] 48 2 #[] #[{ accessFlags := 24, nameIndex := 50, descriptorIndex := 12, attributes := #[] }, { accessFlags := 24, nameIndex := 53, descriptorIndex := 12, attributes := #[] }, { accessFlags := 18, nameIndex := 15, descriptorIndex := 12, attributes := #[] }, { accessFlags := 2, nameIndex := 18, descriptorIndex := 19, attributes := #[] }, { accessFlags := 2, nameIndex := 22, descriptorIndex := 19, attributes := #[] }, { accessFlags := 2, nameIndex := 25, descriptorIndex := 19, attributes := #[] }, { accessFlags := 2, nameIndex := 11, descriptorIndex := 12, attributes := #[] }, { accessFlags := 2, nameIndex := 28, descriptorIndex := 29, attributes := #[] }])
  fields := #[{ name := "UNREAD", type := .int, accessFlags := 24, slot := 0, constantValue := 0 }, { name := "WHOLE", type := .int, accessFlags := 24, slot := 1, constantValue := 0 }, { name := "patternLength", type := .int, accessFlags := 18, slot := 0, constantValue := 0 }, { name := "ends", type := (.array .int), accessFlags := 2, slot := 1, constantValue := 0 }, { name := "lengths", type := (.array .int), accessFlags := 2, slot := 2, constantValue := 0 }, { name := "differings", type := (.array .int), accessFlags := 2, slot := 3, constantValue := 0 }, { name := "newestEnd", type := .int, accessFlags := 2, slot := 4, constantValue := 0 }, { name := "differing", type := .char, accessFlags := 2, slot := 5, constantValue := 0 }]
  methods := #[k2m0, k2m1, k2m2, k2m3, k2m4, k2m5, k2m6, k2m7, k2m8, k2m9, k2m10]
  instanceTypes := #[.int, (.array .int), (.array .int), (.array .int), .int, .char]
  staticTypes := #[.int, .int]
  resolved := Array.replicate 77 none
  statics := none }

def pool3 : Array CpInfo := pool [(1, .class_ 2), (0, u "java/lang/Math"), (1, .class_ 6), (1, u "java/lang/Object"), (0, u "<init>"), (0, u "()V"), (89, .class_ 100), (1, u "java/lang/Math$RandomNumberGeneratorHolder"), (71, u "negativeZeroFloatBits"), (0, u "J"), (2, u "negativeZeroDoubleBits"), (21, u "max"), (46, u "$assertionsDisabled"), (0, u "Z"), (88, u "(II)I"), (2, u "twoToTheDoubleScaleDown"), (0, u "D"), (4, u "twoToTheDoubleScaleUp"), (9, u "E"), (3, u "PI"), (2, u "TAU"), (2, u "DEGREES_TO_RADIANS"), (0, u "RADIANS_TO_DEGREES")] 94

def k3m0 : Method := { name := "<init>", desc := "()V", sig := { parameters := [], returnType := none }, accessFlags := 2, code := none }
def k3c1 : Code := { maxStack := 2, maxLocals := 2, code := jdk_29_method_65_code, exceptionTable := #[], attributes := #[] }
def k3m1 : Method := { name := "max", desc := "(II)I", sig := { parameters := [.int, .int], returnType := some .int }, accessFlags := 9, code := some k3c1 }
/-- java/lang/Math -/
def k3 : Class := { plain "java/lang/Math" (some 0) with
  accessFlags := 49
  interfaces := #[]
  cf := some (fileOf pool3 1 #[.nestMembers #[98]] #[{ accessFlags := 2, nameIndex := 7, descriptorIndex := 8, attributes := #[] }, { accessFlags := 9, nameIndex := 198, descriptorIndex := 335, attributes := #[] }] 49 4 #[] #[{ accessFlags := 25, nameIndex := 354, descriptorIndex := 339, attributes := #[] }, { accessFlags := 25, nameIndex := 358, descriptorIndex := 339, attributes := #[] }, { accessFlags := 25, nameIndex := 361, descriptorIndex := 339, attributes := #[] }, { accessFlags := 26, nameIndex := 364, descriptorIndex := 339, attributes := #[] }, { accessFlags := 26, nameIndex := 365, descriptorIndex := 339, attributes := #[] }, { accessFlags := 26, nameIndex := 172, descriptorIndex := 173, attributes := #[] }, { accessFlags := 26, nameIndex := 176, descriptorIndex := 173, attributes := #[] }, { accessFlags := 8, nameIndex := 344, descriptorIndex := 339, attributes := #[] }, { accessFlags := 8, nameIndex := 338, descriptorIndex := 339, attributes := #[] }, { accessFlags := 4120, nameIndex := 245, descriptorIndex := 246, attributes := #[] }])
  fields := #[{ name := "E", type := .double, accessFlags := 25, slot := 0, constantValue := 0 }, { name := "PI", type := .double, accessFlags := 25, slot := 1, constantValue := 0 }, { name := "TAU", type := .double, accessFlags := 25, slot := 2, constantValue := 0 }, { name := "DEGREES_TO_RADIANS", type := .double, accessFlags := 26, slot := 3, constantValue := 0 }, { name := "RADIANS_TO_DEGREES", type := .double, accessFlags := 26, slot := 4, constantValue := 0 }, { name := "negativeZeroFloatBits", type := .long, accessFlags := 26, slot := 5, constantValue := 0 }, { name := "negativeZeroDoubleBits", type := .long, accessFlags := 26, slot := 6, constantValue := 0 }, { name := "twoToTheDoubleScaleUp", type := .double, accessFlags := 8, slot := 7, constantValue := 0 }, { name := "twoToTheDoubleScaleDown", type := .double, accessFlags := 8, slot := 8, constantValue := 0 }, { name := "$assertionsDisabled", type := .boolean, accessFlags := 4120, slot := 9, constantValue := 0 }]
  methods := #[k3m0, k3m1]
  instanceTypes := #[]
  staticTypes := #[.double, .double, .double, .double, .double, .long, .long, .double, .double, .boolean]
  resolved := Array.replicate 460 none
  statics := none }

def pool4 : Array CpInfo := pool [(1, u "java/lang/Cloneable"), (0, .class_ 1), (0, u "java/lang/Object"), (0, .class_ 3)] 3

/-- java/lang/Cloneable -/
def k4 : Class := { plain "java/lang/Cloneable" (some 0) with
  accessFlags := 1537
  interfaces := #[]
  cf := some (fileOf pool4 2 #[] #[] 1537 4 #[] #[])
  fields := #[]
  methods := #[]
  instanceTypes := #[]
  staticTypes := #[]
  resolved := Array.replicate 8 none
  statics := none }

def pool5 : Array CpInfo := pool [(1, u "java/io/Serializable"), (0, .class_ 1), (0, u "java/lang/Object"), (0, .class_ 3)] 3

/-- java/io/Serializable -/
def k5 : Class := { plain "java/io/Serializable" (some 0) with
  accessFlags := 1537
  interfaces := #[]
  cf := some (fileOf pool5 2 #[] #[] 1537 4 #[] #[])
  fields := #[]
  methods := #[]
  instanceTypes := #[]
  staticTypes := #[]
  resolved := Array.replicate 8 none
  statics := none }

/-- the primitive byte -/
def k6 : Class := { plain "byte" none with kind := .primitive 'B', accessFlags := 0x411 }
/-- [B -/
def k7 : Class := { plain "[B" (some 0) with kind := .array 6 .byte, interfaces := #[4, 5], accessFlags := 1041 }

/-- the primitive int -/
def k8 : Class := { plain "int" none with kind := .primitive 'I', accessFlags := 0x411 }
/-- [I -/
def k9 : Class := { plain "[I" (some 0) with kind := .array 8 .int, interfaces := #[4, 5], accessFlags := 1041 }

def heap : Heap := #[]
def classes : Array Class := #[k0, k1, k2, k3, k4, k5, k6, k7, k8, k9]
def interned : List (Array UInt16 × Addr) := []
def slotsUsed : Nat := 0
def theMethod : MethodId := ⟨1, 3⟩
def args0 : Array Value := #[.int 5, .int 9, .int 3, .int 1, .int 7, .int 5]
def aboutOver (below : List Frame) : State where
  vm := { classes := classes, interned := interned.toArray }
  heap := heap
  slotsUsed := slotsUsed
  threads := #[{ frames := .invoking theMethod args0 :: below }]
def below0 : List Frame := [.native { method := ⟨0, 0⟩, args := #[] }]
def about1 : State := aboutOver below0
def p0 : Program := .bare "" "" ""
def e0 : Env := launch0.env 0 0 0
theorem w_frames : about1.frames = Frame.invoking theMethod args0 :: below0 := rfl
set_option maxRecDepth 65536 in
theorem w_args : argsFit about1.vm theMethod args0 = true := by decide +kernel
set_option maxRecDepth 65536 in
theorem w_heap : heapFits about1 = true := by decide +kernel
set_option maxRecDepth 65536 in
theorem w_runnable : about1.curStatus? = some .runnable := by decide +kernel
set_option maxRecDepth 65536 in
theorem w_alone : about1.alone = true := by decide +kernel
set_option maxRecDepth 65536 in
theorem w_named : about1.methodNamed? x = some theMethod := by decide +kernel
set_option maxRecDepth 65536 in
theorem w_hears : about1.hears theMethod below0 = true := by decide +kernel
set_option maxRecDepth 65536 in
theorem w_ripe : about1.ripe theMethod args0 below0 = true := by decide +kernel
theorem w_running : about1.status = .running := rfl
set_option maxRecDepth 65536 in
theorem w_room : about1.hasRoom e0.platform room_1 = true :=
  launch0.hasRoom_least _ room_1 (by decide +kernel) (by decide +kernel) (by decide +kernel) (by decide +kernel) (by decide +kernel) (by decide +kernel)
theorem allAtoms_all (ts : List Jvm.Cond) (a : Array Jvm.Value) (st : Jvm.State) : (allAtoms ts).before a st = ts.all (fun c => c.before a st) := by
  induction ts with
  | nil => rfl
  | cons c t ih =>
    show (Jvm.Cond.and c (allAtoms t)).before a st = _
    rw [Jvm.Cond.before_and, ih, List.all_cons]
def words1 : List Jvm.Cond := Jvm.Cond.code x code maxLocals ret :: tables_1
/-- a 'code' word, met by the world's own term for the bytes: nothing is compared byte by byte -/
theorem code_word {y : MethodName} {bytes : ByteArray} {mx : Nat} {rt : Option FieldType} {a : Array Value} {s : State} {m : MethodId} {meth : Method} {c : Code} (h1 : s.methodNamed? y = some m) (h2 : s.vm.method? m = some meth) (h3 : meth.code = some c) (h4 : c.code = bytes)
    (h5 : (c.maxLocals == mx && c.exceptionTable.isEmpty && decide (c.maxStack ≤ mostOperands) && decide (meth.sig.returnType = rt) && !meth.locks && decide (parseMethodDescriptor y.desc = some meth.sig)) = true) : (Jvm.Cond.code y bytes mx rt).before a s = true := by
  simp only [Bool.and_eq_true, beq_iff_eq, Bool.not_eq_true', decide_eq_true_eq] at h5
  obtain ⟨⟨⟨⟨⟨g1, g2⟩, g3⟩, g4⟩, g5⟩, g6⟩ := h5
  simp [Cond.before, Cond.holds, Cond.value, h1, h2, h3, h4, g1, g2, g3, g4, g5, g6]
def isCode : Jvm.Cond → Bool
  | .code _ _ _ _ => true
  | _ => false
theorem all_split {L : List Jvm.Cond} {P : Jvm.Cond → Bool} (h1 : L.all (fun c => isCode c || P c) = true) (h2 : ∀ c ∈ L.filter isCode, P c = true) : L.all P = true := by
  refine List.all_eq_true.mpr fun c hc => ?_
  have h := List.all_eq_true.mp h1 c hc
  rcases Bool.eq_false_or_eq_true (isCode c) with hi | hi
  · exact h2 c (List.mem_filter.mpr ⟨hc, hi⟩)
  · simpa [hi] using h
set_option maxRecDepth 65536 in
theorem w_c0 : (Jvm.Cond.code x code maxLocals ret).before args0 about1 = true := code_word (m := ⟨1, 3⟩) (meth := k1m3) (c := k1c3) (by decide +kernel) rfl rfl rfl (by decide +kernel)
set_option maxRecDepth 65536 in
theorem w_c1 : (Jvm.Cond.code ({ cls := "com/example/shoal_creek/shoalcreek/MatchedSuffixes", name := "<init>", desc := "(I)V" } : Jvm.MethodName) prog_18_method_1_code (2 : Nat) (Option.none : Option Jvm.ClassFile.FieldType)).before args0 about1 = true := code_word (m := ⟨2, 0⟩) (meth := k2m0) (c := k2c0) (by decide +kernel) rfl rfl rfl (by decide +kernel)
set_option maxRecDepth 65536 in
theorem w_c2 : (Jvm.Cond.code ({ cls := "java/lang/Object", name := "<init>", desc := "()V" } : Jvm.MethodName) object_method_1_code (1 : Nat) (Option.none : Option Jvm.ClassFile.FieldType)).before args0 about1 = true := code_word (m := ⟨0, 0⟩) (meth := k0m0) (c := k0c0) (by decide +kernel) rfl rfl rfl (by decide +kernel)
set_option maxRecDepth 65536 in
theorem w_c3 : (Jvm.Cond.code ({ cls := "com/example/shoal_creek/shoalcreek/MatchedSuffixes", name := "noteDiffering", desc := "(C)V" } : Jvm.MethodName) prog_18_method_5_code (2 : Nat) (Option.none : Option Jvm.ClassFile.FieldType)).before args0 about1 = true := code_word (m := ⟨2, 3⟩) (meth := k2m3) (c := k2c3) (by decide +kernel) rfl rfl rfl (by decide +kernel)
set_option maxRecDepth 65536 in
theorem w_c4 : (Jvm.Cond.code ({ cls := "com/example/shoal_creek/shoalcreek/MatchedSuffixesSwapPinLaw", name := "fill", desc := "(Lcom/example/shoal_creek/shoalcreek/MatchedSuffixes;ZZIII)I" } : Jvm.MethodName) method_2_code (6 : Nat) (Option.some Jvm.ClassFile.FieldType.int)).before args0 about1 = true := code_word (m := ⟨1, 1⟩) (meth := k1m1) (c := k1c1) (by decide +kernel) rfl rfl rfl (by decide +kernel)
set_option maxRecDepth 65536 in
theorem w_c5 : (Jvm.Cond.code ({ cls := "com/example/shoal_creek/shoalcreek/MatchedSuffixes", name := "rememberPassed", desc := "(III)V" } : Jvm.MethodName) prog_18_method_8_code (4 : Nat) (Option.none : Option Jvm.ClassFile.FieldType)).before args0 about1 = true := code_word (m := ⟨2, 6⟩) (meth := k2m6) (c := k2c6) (by decide +kernel) rfl rfl rfl (by decide +kernel)
set_option maxRecDepth 65536 in
theorem w_c6 : (Jvm.Cond.code ({ cls := "com/example/shoal_creek/shoalcreek/MatchedSuffixes", name := "allocate", desc := "()V" } : Jvm.MethodName) prog_18_method_9_code (2 : Nat) (Option.none : Option Jvm.ClassFile.FieldType)).before args0 about1 = true := code_word (m := ⟨2, 7⟩) (meth := k2m7) (c := k2c7) (by decide +kernel) rfl rfl rfl (by decide +kernel)
set_option maxRecDepth 65536 in
theorem w_c7 : (Jvm.Cond.code ({ cls := "com/example/shoal_creek/shoalcreek/MatchedSuffixes", name := "keep", desc := "(III)V" } : Jvm.MethodName) prog_18_method_10_code (5 : Nat) (Option.none : Option Jvm.ClassFile.FieldType)).before args0 about1 = true := code_word (m := ⟨2, 8⟩) (meth := k2m8) (c := k2c8) (by decide +kernel) rfl rfl rfl (by decide +kernel)
set_option maxRecDepth 65536 in
theorem w_c8 : (Jvm.Cond.code ({ cls := "java/lang/Math", name := "max", desc := "(II)I" } : Jvm.MethodName) jdk_29_method_65_code (2 : Nat) (Option.some Jvm.ClassFile.FieldType.int)).before args0 about1 = true := code_word (m := ⟨3, 1⟩) (meth := k3m1) (c := k3c1) (by decide +kernel) rfl rfl rfl (by decide +kernel)
set_option maxRecDepth 65536 in
theorem w_c9 : (Jvm.Cond.code ({ cls := "com/example/shoal_creek/shoalcreek/MatchedSuffixes", name := "swap", desc := "(Lcom/example/shoal_creek/shoalcreek/MatchedSuffixes;)V" } : Jvm.MethodName) prog_18_method_15_code (6 : Nat) (Option.none : Option Jvm.ClassFile.FieldType)).before args0 about1 = true := code_word (m := ⟨2, 10⟩) (meth := k2m10) (c := k2c10) (by decide +kernel) rfl rfl rfl (by decide +kernel)
set_option maxRecDepth 65536 in
theorem w_c10 : (Jvm.Cond.code ({ cls := "com/example/shoal_creek/shoalcreek/MatchedSuffixesSwapPinLaw", name := "check", desc := "(Lcom/example/shoal_creek/shoalcreek/MatchedSuffixes;ZIIII)Z" } : Jvm.MethodName) method_3_code (7 : Nat) (Option.some Jvm.ClassFile.FieldType.boolean)).before args0 about1 = true := code_word (m := ⟨1, 2⟩) (meth := k1m2) (c := k1c2) (by decide +kernel) rfl rfl rfl (by decide +kernel)
set_option maxRecDepth 65536 in
theorem w_c11 : (Jvm.Cond.code ({ cls := "com/example/shoal_creek/shoalcreek/MatchedSuffixes", name := "newestEnd", desc := "()I" } : Jvm.MethodName) prog_18_method_13_code (1 : Nat) (Option.some Jvm.ClassFile.FieldType.int)).before args0 about1 = true := code_word (m := ⟨2, 9⟩) (meth := k2m9) (c := k2c9) (by decide +kernel) rfl rfl rfl (by decide +kernel)
set_option maxRecDepth 65536 in
theorem w_c12 : (Jvm.Cond.code ({ cls := "com/example/shoal_creek/shoalcreek/MatchedSuffixes", name := "lengthEndingAt", desc := "(I)I" } : Jvm.MethodName) prog_18_method_2_code (3 : Nat) (Option.some Jvm.ClassFile.FieldType.int)).before args0 about1 = true := code_word (m := ⟨2, 1⟩) (meth := k2m1) (c := k2c1) (by decide +kernel) rfl rfl rfl (by decide +kernel)
set_option maxRecDepth 65536 in
theorem w_c13 : (Jvm.Cond.code ({ cls := "com/example/shoal_creek/shoalcreek/MatchedSuffixes", name := "differingBefore", desc := "(I)I" } : Jvm.MethodName) prog_18_method_3_code (2 : Nat) (Option.some Jvm.ClassFile.FieldType.int)).before args0 about1 = true := code_word (m := ⟨2, 2⟩) (meth := k2m2) (c := k2c2) (by decide +kernel) rfl rfl rfl (by decide +kernel)
set_option maxRecDepth 65536 in
theorem w_c14 : (Jvm.Cond.code ({ cls := "com/example/shoal_creek/shoalcreek/MatchedSuffixes", name := "remember", desc := "(III)V" } : Jvm.MethodName) prog_18_method_7_code (4 : Nat) (Option.none : Option Jvm.ClassFile.FieldType)).before args0 about1 = true := code_word (m := ⟨2, 5⟩) (meth := k2m5) (c := k2c5) (by decide +kernel) rfl rfl rfl (by decide +kernel)
set_option maxRecDepth 65536 in
theorem w_c15 : (Jvm.Cond.code ({ cls := "com/example/shoal_creek/shoalcreek/MatchedSuffixes", name := "differing", desc := "()C" } : Jvm.MethodName) prog_18_method_6_code (1 : Nat) (Option.some Jvm.ClassFile.FieldType.char)).before args0 about1 = true := code_word (m := ⟨2, 4⟩) (meth := k2m4) (c := k2c4) (by decide +kernel) rfl rfl rfl (by decide +kernel)
def codes1 : List Jvm.Cond := [Jvm.Cond.code x code maxLocals ret, Jvm.Cond.code ({ cls := "com/example/shoal_creek/shoalcreek/MatchedSuffixes", name := "<init>", desc := "(I)V" } : Jvm.MethodName) prog_18_method_1_code (2 : Nat) (Option.none : Option Jvm.ClassFile.FieldType), Jvm.Cond.code ({ cls := "java/lang/Object", name := "<init>", desc := "()V" } : Jvm.MethodName) object_method_1_code (1 : Nat) (Option.none : Option Jvm.ClassFile.FieldType), Jvm.Cond.code ({ cls := "com/example/shoal_creek/shoalcreek/MatchedSuffixes", name := "noteDiffering", desc := "(C)V" } : Jvm.MethodName) prog_18_method_5_code (2 : Nat) (Option.none : Option Jvm.ClassFile.FieldType), Jvm.Cond.code ({ cls := "com/example/shoal_creek/shoalcreek/MatchedSuffixesSwapPinLaw", name := "fill", desc := "(Lcom/example/shoal_creek/shoalcreek/MatchedSuffixes;ZZIII)I" } : Jvm.MethodName) method_2_code (6 : Nat) (Option.some Jvm.ClassFile.FieldType.int), Jvm.Cond.code ({ cls := "com/example/shoal_creek/shoalcreek/MatchedSuffixes", name := "rememberPassed", desc := "(III)V" } : Jvm.MethodName) prog_18_method_8_code (4 : Nat) (Option.none : Option Jvm.ClassFile.FieldType), Jvm.Cond.code ({ cls := "com/example/shoal_creek/shoalcreek/MatchedSuffixes", name := "allocate", desc := "()V" } : Jvm.MethodName) prog_18_method_9_code (2 : Nat) (Option.none : Option Jvm.ClassFile.FieldType), Jvm.Cond.code ({ cls := "com/example/shoal_creek/shoalcreek/MatchedSuffixes", name := "keep", desc := "(III)V" } : Jvm.MethodName) prog_18_method_10_code (5 : Nat) (Option.none : Option Jvm.ClassFile.FieldType), Jvm.Cond.code ({ cls := "java/lang/Math", name := "max", desc := "(II)I" } : Jvm.MethodName) jdk_29_method_65_code (2 : Nat) (Option.some Jvm.ClassFile.FieldType.int), Jvm.Cond.code ({ cls := "com/example/shoal_creek/shoalcreek/MatchedSuffixes", name := "swap", desc := "(Lcom/example/shoal_creek/shoalcreek/MatchedSuffixes;)V" } : Jvm.MethodName) prog_18_method_15_code (6 : Nat) (Option.none : Option Jvm.ClassFile.FieldType), Jvm.Cond.code ({ cls := "com/example/shoal_creek/shoalcreek/MatchedSuffixesSwapPinLaw", name := "check", desc := "(Lcom/example/shoal_creek/shoalcreek/MatchedSuffixes;ZIIII)Z" } : Jvm.MethodName) method_3_code (7 : Nat) (Option.some Jvm.ClassFile.FieldType.boolean), Jvm.Cond.code ({ cls := "com/example/shoal_creek/shoalcreek/MatchedSuffixes", name := "newestEnd", desc := "()I" } : Jvm.MethodName) prog_18_method_13_code (1 : Nat) (Option.some Jvm.ClassFile.FieldType.int), Jvm.Cond.code ({ cls := "com/example/shoal_creek/shoalcreek/MatchedSuffixes", name := "lengthEndingAt", desc := "(I)I" } : Jvm.MethodName) prog_18_method_2_code (3 : Nat) (Option.some Jvm.ClassFile.FieldType.int), Jvm.Cond.code ({ cls := "com/example/shoal_creek/shoalcreek/MatchedSuffixes", name := "differingBefore", desc := "(I)I" } : Jvm.MethodName) prog_18_method_3_code (2 : Nat) (Option.some Jvm.ClassFile.FieldType.int), Jvm.Cond.code ({ cls := "com/example/shoal_creek/shoalcreek/MatchedSuffixes", name := "remember", desc := "(III)V" } : Jvm.MethodName) prog_18_method_7_code (4 : Nat) (Option.none : Option Jvm.ClassFile.FieldType), Jvm.Cond.code ({ cls := "com/example/shoal_creek/shoalcreek/MatchedSuffixes", name := "differing", desc := "()C" } : Jvm.MethodName) prog_18_method_6_code (1 : Nat) (Option.some Jvm.ClassFile.FieldType.char)]
set_option maxRecDepth 65536 in
theorem codes_eq : words1.filter isCode = codes1 := rfl
theorem w_codes : ∀ c ∈ words1.filter isCode, c.before args0 about1 = true := by
  rw [codes_eq]
  intro c hc
  simp only [codes1, List.mem_cons, List.not_mem_nil, or_false] at hc
  rcases hc with rfl | rfl | rfl | rfl | rfl | rfl | rfl | rfl | rfl | rfl | rfl | rfl | rfl | rfl | rfl | rfl
  · exact w_c0
  · exact w_c1
  · exact w_c2
  · exact w_c3
  · exact w_c4
  · exact w_c5
  · exact w_c6
  · exact w_c7
  · exact w_c8
  · exact w_c9
  · exact w_c10
  · exact w_c11
  · exact w_c12
  · exact w_c13
  · exact w_c14
  · exact w_c15
set_option maxRecDepth 65536 in
theorem w_t1 : (words1.take 24).all (fun c => isCode c || c.before args0 about1) = true := by decide +kernel
set_option maxRecDepth 65536 in
theorem w_t2 : ((words1.drop 24).take 24).all (fun c => isCode c || c.before args0 about1) = true := by decide +kernel
set_option maxRecDepth 65536 in
theorem w_t3 : (((words1.drop 24).drop 24).take 24).all (fun c => isCode c || c.before args0 about1) = true := by decide +kernel
set_option maxRecDepth 65536 in
theorem w_t4 : (((words1.drop 24).drop 24).drop 24).all (fun c => isCode c || c.before args0 about1) = true := by decide +kernel
theorem w_tables : (allAtoms (Jvm.Cond.code x code maxLocals ret :: tables_1)).before args0 about1 = true := by
  rw [allAtoms_all]
  show words1.all (fun c => c.before args0 about1) = true
  refine all_split ?_ w_codes
  rw [← List.take_append_drop 24 words1, List.all_append, w_t1, ← List.take_append_drop 24 (words1.drop 24), List.all_append, w_t2, ← List.take_append_drop 24 ((words1.drop 24).drop 24), List.all_append, w_t3, w_t4]
  rfl
set_option maxRecDepth 65536 in
theorem w_case : (Jvm.Cond.and given_1 narrow_1).before args0 about1 = true := by decide +kernel
theorem w_applies : (headSpec (Jvm.Cond.code x code maxLocals ret :: tables_1) room_1).applies x e0.platform about1 = true :=
  (Spec.applies_iff w_frames).mpr ⟨w_running, w_runnable, w_alone, w_named, w_hears, w_ripe, w_room, w_tables⟩
theorem atStart : AtStart classFile x code maxLocals ret World_1 tables_1 room_1 Calls_1 rest_1 Pre_1 launch0 p0 e0 about1 theMethod args0 below0 :=
  ⟨lists_1, trivial, launch0.admits_env _ _ _, launch0.least_env, fairChoices_fair.cas, fairChoices_fair.clock, w_frames, w_args, w_heap, w_applies, trivial, trivial, w_case⟩
end start1
theorem witness_1 : WitnessClaimed_1 := ⟨start1.p0, start1.e0, start1.about1, start1.theMethod, start1.args0, start1.below0, start1.atStart⟩
end Jvm.Pilot.@@N@@
