import JvmDerived
import JvmDerived.Pilot.@@N@@Statement
import JvmDerived.Pilot.@@N@@Code
set_option linter.unusedVariables false
set_option linter.unusedSimpArgs false
@@BLOCK:NumsL.lean.txt@@
namespace Jvm.Pilot.@@N@@
open Jvm Jvm.ClassFile Sem Op Lib Jvm.Free Jvm.Stand Jvm.LawKit Jvm.RoadKit Bundle Jvm.Pilot.@@N@@.Jvm.D
/-! OWN 1: a walk in continuation form: 'Go' says that from here the invocation ends well; one law a step carries it backwards -/
section OwnGo
variable {p : Program} {l : Launch} {e : Env} {R : Room} {s : State} {m : MethodId} {args : Array Value} {below : List Frame} {meth : Method} {c : Code} {Z : State} {y : MethodName} {bytes : ByteArray} {mx : Nat} {ret : Option FieldType} {n0 : Nat} {T T' : State} {h h' : Heap} {cells slots : Nat} {Q : Outcome → State → Prop} {pc pc' : Nat} {Ls : Array Slot} {st : List Value} {a0 : Array Value}
def Go (p : Program) (e : Env) (below : List Frame) (Q : Outcome → State → Prop) (t : State) : Prop := ∃ s₂ o, Steps p.tables e below t s₂ ∧ s₂.status = .running ∧ Ended s₂ below o ∧ Q o s₂
theorem Go.of {t t' : State} (k : ∀ u, Steps p.tables e below t' u → Steps p.tables e below t u) (G : Go p e below Q t') : Go p e below Q t := by
  obtain ⟨s₂, o, h1, h2⟩ := G; exact ⟨s₂, o, k _ h1, h2⟩
theorem Go.tr {t t' : State} (k : Steps p.tables e below t t') (G : Go p e below Q t') : Go p e below Q t := Go.of (fun _ h => k.trans h) G
/-- the place: all that a step asks of where the walk stands -/
def Pl (p : Program) (l : Launch) (e : Env) (R : Room) (s : State) (m : MethodId) (args : Array Value) (below : List Frame) (meth : Method) (c : Code) (Z : State) (y : MethodName) (bytes : ByteArray) (mx : Nat) (ret : Option FieldType) (n0 : Nat) (T : State) (h : Heap) (cells slots : Nat) : Prop :=
  (p.tables.exec = Jvm.exec ∧ Z.Warmed39 s.vm ∧ s.vm.findClass y.cls = some m.cls ∧ meth.name = y.name ∧ c.code = bytes ∧ c.maxLocals = mx ∧ meth.sig.returnType = ret ∧ meth.locks = false) ∧ ∃ locs, Stand p l e R s m args below meth c T locs cells slots ∧ Fr n0 locs ∧ T.heap = h
theorem Pl.here (P : Pl p l e R s m args below meth c Z y bytes mx ret n0 T h cells slots) : At T m c below := by obtain ⟨-, _, X, -⟩ := P; exact X.here
theorem Pl.hx (P : Pl p l e R s m args below meth c Z y bytes mx ret n0 T h cells slots) : p.tables.exec = Jvm.exec := P.1.1
theorem Pl.hZ (P : Pl p l e R s m args below meth c Z y bytes mx ret n0 T h cells slots) : Z.Warmed39 s.vm := P.1.2.1
theorem Pl.hown (P : Pl p l e R s m args below meth c Z y bytes mx ret n0 T h cells slots) : s.vm.findClass y.cls = some m.cls := P.1.2.2.1
theorem Pl.hnm (P : Pl p l e R s m args below meth c Z y bytes mx ret n0 T h cells slots) : meth.name = y.name := P.1.2.2.2.1
theorem Pl.hby (P : Pl p l e R s m args below meth c Z y bytes mx ret n0 T h cells slots) : c.code = bytes := P.1.2.2.2.2.1
theorem Pl.hml (P : Pl p l e R s m args below meth c Z y bytes mx ret n0 T h cells slots) : c.maxLocals = mx := P.1.2.2.2.2.2.1
theorem Pl.hrt (P : Pl p l e R s m args below meth c Z y bytes mx ret n0 T h cells slots) : meth.sig.returnType = ret := P.1.2.2.2.2.2.2.1
theorem Pl.hlk (P : Pl p l e R s m args below meth c Z y bytes mx ret n0 T h cells slots) : meth.locks = false := P.1.2.2.2.2.2.2.2
theorem Pl.up (P : Pl p l e R s m args below meth c Z y bytes mx ret n0 T h cells slots) {cells' slots' : Nat} (h1 : cells ≤ cells') (h2 : slots ≤ slots') : Pl p l e R s m args below meth c Z y bytes mx ret n0 T h cells' slots' := by
  obtain ⟨B, locs, X, N, eT⟩ := P
  exact ⟨B, locs, ⟨X.admits, X.cas, X.clock, X.frames, X.room, X.hears, X.method, X.code, X.here, X.tail, X.warmed, X.limits, X.bytes, X.same.mono h1 h2⟩, N, eT⟩
/-- a decode fact, with the place behind it -/
def D (b : ByteArray) (pc : Nat) (i : Instr) (n : Nat) (pc' : Nat) : Prop := decode b pc = .ok (i, n) ∧ pc + n = pc'
theorem Pl.dec (P : Pl p l e R s m args below meth c Z y bytes mx ret n0 T h cells slots) {i : Instr} {n : Nat} (hd : decode bytes pc = .ok (i, n)) : decode c.code pc = .ok (i, n) := by rw [P.hby]; exact hd

theorem g_iloadN (P : Pl p l e R s m args below meth c Z y bytes mx ret n0 T h cells slots) {k : Fin 4} {v : Int32} (hd : D bytes pc (.iload_n k) 1 pc') (hl : Ls[k.val]? = some (.val (.int v))) (G : Go p e below Q (T.setTop (mkF m pc' Ls (.int v :: st)))) : Go p e below Q (T.setTop (mkF m pc Ls st)) := by
  obtain ⟨hd, rfl⟩ := hd; exact Go.of (fun _ => XS.iloadN P.here P.hx rfl (P.dec hd) hl) G
theorem g_iload (P : Pl p l e R s m args below meth c Z y bytes mx ret n0 T h cells slots) {k : Nat} {v : Int32} (hd : D bytes pc (.iload k) 2 pc') (hl : Ls[k]? = some (.val (.int v))) (G : Go p e below Q (T.setTop (mkF m pc' Ls (.int v :: st)))) : Go p e below Q (T.setTop (mkF m pc Ls st)) := by
  obtain ⟨hd, rfl⟩ := hd; exact Go.of (fun _ => XS.iload P.here P.hx rfl (P.dec hd) hl) G
theorem g_lload (P : Pl p l e R s m args below meth c Z y bytes mx ret n0 T h cells slots) {k : Nat} {v : Int64} (hd : D bytes pc (.lload k) 2 pc') (hl : Ls[k]? = some (.val (.long v))) (G : Go p e below Q (T.setTop (mkF m pc' Ls (.long v :: st)))) : Go p e below Q (T.setTop (mkF m pc Ls st)) := by
  obtain ⟨hd, rfl⟩ := hd; exact Go.of (fun _ => XT.lload P.here P.hx rfl (P.dec hd) hl) G
theorem g_aloadN (P : Pl p l e R s m args below meth c Z y bytes mx ret n0 T h cells slots) {k : Fin 4} {v : Value} (hd : D bytes pc (.aload_n k) 1 pc') (hl : Ls[k.val]? = some (.val v)) (hv : v.isRef = true) (G : Go p e below Q (T.setTop (mkF m pc' Ls (v :: st)))) : Go p e below Q (T.setTop (mkF m pc Ls st)) := by
  obtain ⟨hd, rfl⟩ := hd; exact Go.of (fun _ => XS.aloadN P.here P.hx rfl (P.dec hd) hl hv) G
theorem g_aload (P : Pl p l e R s m args below meth c Z y bytes mx ret n0 T h cells slots) {k : Nat} {v : Value} (hd : D bytes pc (.aload k) 2 pc') (hl : Ls[k]? = some (.val v)) (hv : v.isRef = true) (G : Go p e below Q (T.setTop (mkF m pc' Ls (v :: st)))) : Go p e below Q (T.setTop (mkF m pc Ls st)) := by
  obtain ⟨hd, rfl⟩ := hd; exact Go.of (fun _ => XS.aload P.here P.hx rfl (P.dec hd) hl hv) G
theorem g_iconst (P : Pl p l e R s m args below meth c Z y bytes mx ret n0 T h cells slots) {i : Int} {v : Int32} (hd : D bytes pc (.iconst i) 1 pc') (hv : Int32.ofInt i = v) (G : Go p e below Q (T.setTop (mkF m pc' Ls (.int v :: st)))) : Go p e below Q (T.setTop (mkF m pc Ls st)) := by
  obtain ⟨hd, rfl⟩ := hd; subst hv; exact Go.of (fun _ => XS.iconst P.here P.hx rfl (P.dec hd)) G
theorem g_bipush (P : Pl p l e R s m args below meth c Z y bytes mx ret n0 T h cells slots) {i : Int} {v : Int32} (hd : D bytes pc (.bipush i) 2 pc') (hv : (Int8.ofInt i).toInt32 = v) (G : Go p e below Q (T.setTop (mkF m pc' Ls (.int v :: st)))) : Go p e below Q (T.setTop (mkF m pc Ls st)) := by
  obtain ⟨hd, rfl⟩ := hd; subst hv; exact Go.of (fun _ => XS.bipush P.here P.hx rfl (P.dec hd)) G
theorem g_aconstNull (P : Pl p l e R s m args below meth c Z y bytes mx ret n0 T h cells slots) (hd : D bytes pc .aconst_null 1 pc') (G : Go p e below Q (T.setTop (mkF m pc' Ls (.null :: st)))) : Go p e below Q (T.setTop (mkF m pc Ls st)) := by
  obtain ⟨hd, rfl⟩ := hd; exact Go.of (fun _ => XS.aconstNull P.here P.hx rfl (P.dec hd)) G
theorem g_iadd (P : Pl p l e R s m args below meth c Z y bytes mx ret n0 T h cells slots) {x z v : Int32} (hd : D bytes pc .iadd 1 pc') (hv : x + z = v) (G : Go p e below Q (T.setTop (mkF m pc' Ls (.int v :: st)))) : Go p e below Q (T.setTop (mkF m pc Ls (.int z :: .int x :: st))) := by
  obtain ⟨hd, rfl⟩ := hd; subst hv; exact Go.of (fun _ => XS.iadd P.here P.hx rfl (P.dec hd) rfl) G
theorem g_isub (P : Pl p l e R s m args below meth c Z y bytes mx ret n0 T h cells slots) {x z v : Int32} (hd : D bytes pc .isub 1 pc') (hv : x - z = v) (G : Go p e below Q (T.setTop (mkF m pc' Ls (.int v :: st)))) : Go p e below Q (T.setTop (mkF m pc Ls (.int z :: .int x :: st))) := by
  obtain ⟨hd, rfl⟩ := hd; subst hv; exact Go.of (fun _ => XS.isub P.here P.hx rfl (P.dec hd) rfl) G
theorem g_imul (P : Pl p l e R s m args below meth c Z y bytes mx ret n0 T h cells slots) {x z v : Int32} (hd : D bytes pc .imul 1 pc') (hv : x * z = v) (G : Go p e below Q (T.setTop (mkF m pc' Ls (.int v :: st)))) : Go p e below Q (T.setTop (mkF m pc Ls (.int z :: .int x :: st))) := by
  obtain ⟨hd, rfl⟩ := hd; subst hv; exact Go.of (fun _ => XS.imul P.here P.hx rfl (P.dec hd) rfl) G
theorem g_iand (P : Pl p l e R s m args below meth c Z y bytes mx ret n0 T h cells slots) {x z v : Int32} (hd : D bytes pc .iand 1 pc') (hv : x &&& z = v) (G : Go p e below Q (T.setTop (mkF m pc' Ls (.int v :: st)))) : Go p e below Q (T.setTop (mkF m pc Ls (.int z :: .int x :: st))) := by
  obtain ⟨hd, rfl⟩ := hd; subst hv; exact Go.of (fun _ => XS.iand P.here P.hx rfl (P.dec hd) rfl) G
theorem g_irem (P : Pl p l e R s m args below meth c Z y bytes mx ret n0 T h cells slots) {x z v : Int32} (hd : D bytes pc .irem 1 pc') (hz : z ≠ 0) (hv : x % z = v) (G : Go p e below Q (T.setTop (mkF m pc' Ls (.int v :: st)))) : Go p e below Q (T.setTop (mkF m pc Ls (.int z :: .int x :: st))) := by
  obtain ⟨hd, rfl⟩ := hd; subst hv; obtain ⟨-, _, X, -⟩ := id P; exact Go.of (fun _ => iremM X P.hx rfl (P.dec hd) rfl hz) G
theorem g_iushr (P : Pl p l e R s m args below meth c Z y bytes mx ret n0 T h cells slots) {x z v : Int32} (hd : D bytes pc .iushr 1 pc') (hv : XT.ushr x z = v) (G : Go p e below Q (T.setTop (mkF m pc' Ls (.int v :: st)))) : Go p e below Q (T.setTop (mkF m pc Ls (.int z :: .int x :: st))) := by
  obtain ⟨hd, rfl⟩ := hd; subst hv; exact Go.of (fun _ => XT.iushr P.here P.hx rfl (P.dec hd) rfl) G
theorem g_ineg (P : Pl p l e R s m args below meth c Z y bytes mx ret n0 T h cells slots) {x : Int32} (hd : D bytes pc .ineg 1 pc') (G : Go p e below Q (T.setTop (mkF m pc' Ls (.int (-x) :: st)))) : Go p e below Q (T.setTop (mkF m pc Ls (.int x :: st))) := by
  obtain ⟨hd, rfl⟩ := hd; exact Go.of (fun _ => XS.ineg P.here P.hx rfl (P.dec hd) rfl) G
theorem g_dup (P : Pl p l e R s m args below meth c Z y bytes mx ret n0 T h cells slots) {x : Value} (hd : D bytes pc .dup 1 pc') (hc : x.category = 1) (G : Go p e below Q (T.setTop (mkF m pc' Ls (x :: x :: st)))) : Go p e below Q (T.setTop (mkF m pc Ls (x :: st))) := by
  obtain ⟨hd, rfl⟩ := hd; exact Go.of (fun _ => XS.dup P.here P.hx rfl (P.dec hd) rfl hc) G
theorem g_pop (P : Pl p l e R s m args below meth c Z y bytes mx ret n0 T h cells slots) {x : Value} (hd : D bytes pc .pop 1 pc') (hc : x.category = 1) (G : Go p e below Q (T.setTop (mkF m pc' Ls st))) : Go p e below Q (T.setTop (mkF m pc Ls (x :: st))) := by
  obtain ⟨hd, rfl⟩ := hd; exact Go.of (fun _ => XT.pop P.here P.hx rfl (P.dec hd) rfl hc) G
theorem g_istoreN (P : Pl p l e R s m args below meth c Z y bytes mx ret n0 T h cells slots) {k : Fin 4} {x : Int32} (hd : D bytes pc (.istore_n k) 1 pc') (l' : Array Slot) (hl : storeLocals Ls k.val (.int x) = some l') (G : Go p e below Q (T.setTop (mkF m pc' l' st))) : Go p e below Q (T.setTop (mkF m pc Ls (.int x :: st))) := by
  obtain ⟨hd, rfl⟩ := hd; exact Go.of (fun _ => XS.istoreN P.here P.hx rfl (P.dec hd) rfl hl) G
theorem g_istore (P : Pl p l e R s m args below meth c Z y bytes mx ret n0 T h cells slots) {k : Nat} {x : Int32} (hd : D bytes pc (.istore k) 2 pc') (l' : Array Slot) (hl : storeLocals Ls k (.int x) = some l') (G : Go p e below Q (T.setTop (mkF m pc' l' st))) : Go p e below Q (T.setTop (mkF m pc Ls (.int x :: st))) := by
  obtain ⟨hd, rfl⟩ := hd; exact Go.of (fun _ => XS.istore P.here P.hx rfl (P.dec hd) rfl hl) G
theorem g_lstore (P : Pl p l e R s m args below meth c Z y bytes mx ret n0 T h cells slots) {k : Nat} {x : Int64} (hd : D bytes pc (.lstore k) 2 pc') (l' : Array Slot) (hl : storeLocals Ls k (.long x) = some l') (G : Go p e below Q (T.setTop (mkF m pc' l' st))) : Go p e below Q (T.setTop (mkF m pc Ls (.long x :: st))) := by
  obtain ⟨hd, rfl⟩ := hd; exact Go.of (fun _ => XT.lstore P.here P.hx rfl (P.dec hd) rfl hl) G
theorem g_astoreN (P : Pl p l e R s m args below meth c Z y bytes mx ret n0 T h cells slots) {k : Fin 4} {x : Value} (hd : D bytes pc (.astore_n k) 1 pc') (hv : x.isRef = true) (l' : Array Slot) (hl : storeLocals Ls k.val x = some l') (G : Go p e below Q (T.setTop (mkF m pc' l' st))) : Go p e below Q (T.setTop (mkF m pc Ls (x :: st))) := by
  obtain ⟨hd, rfl⟩ := hd; exact Go.of (fun _ => XS.astoreN P.here P.hx rfl (P.dec hd) rfl hv hl) G
theorem g_astore (P : Pl p l e R s m args below meth c Z y bytes mx ret n0 T h cells slots) {k : Nat} {x : Value} (hd : D bytes pc (.astore k) 2 pc') (hv : x.isRef = true) (l' : Array Slot) (hl : storeLocals Ls k x = some l') (G : Go p e below Q (T.setTop (mkF m pc' l' st))) : Go p e below Q (T.setTop (mkF m pc Ls (x :: st))) := by
  obtain ⟨hd, rfl⟩ := hd; exact Go.of (fun _ => XS.astore P.here P.hx rfl (P.dec hd) rfl hv hl) G
theorem g_iinc (P : Pl p l e R s m args below meth c Z y bytes mx ret n0 T h cells slots) {k : Nat} {cst : Int} {x w : Int32} (hd : D bytes pc (.iinc k cst) 3 pc') (hl : Ls[k]? = some (.val (.int x))) (hw : x + Int32.ofInt cst = w) (l' : Array Slot) (hl' : storeLocals Ls k (.int w) = some l') (G : Go p e below Q (T.setTop (mkF m pc' l' st))) : Go p e below Q (T.setTop (mkF m pc Ls st)) := by
  obtain ⟨hd, rfl⟩ := hd; subst hw; exact Go.of (fun _ => XS.iinc P.here P.hx rfl (P.dec hd) hl hl') G
theorem g_goto (P : Pl p l e R s m args below meth c Z y bytes mx ret n0 T h cells slots) {o : Int} {q : Nat} (hd : D bytes pc (.goto o) 3 q) (pc' : Nat) (ho : 0 ≤ (pc : Int) + o) (hp : ((pc : Int) + o).toNat = pc') (G : Go p e below Q (T.setTop (mkF m pc' Ls st))) : Go p e below Q (T.setTop (mkF m pc Ls st)) := by
  obtain ⟨hd, -⟩ := hd; exact Go.of (fun _ => XS.goto P.here P.hx rfl rfl (P.dec hd) ho hp) G
theorem g_ifYes (P : Pl p l e R s m args below meth c Z y bytes mx ret n0 T h cells slots) {cd : ClassFile.Cond} {x : Int32} {o : Int} {q : Nat} (hd : D bytes pc (.ifCond cd o) 3 q) (hc : ifCond.holds cd x = true) (pc' : Nat) (ho : 0 ≤ (pc : Int) + o) (hp : ((pc : Int) + o).toNat = pc') (G : Go p e below Q (T.setTop (mkF m pc' Ls st))) : Go p e below Q (T.setTop (mkF m pc Ls (.int x :: st))) := by
  obtain ⟨hd, -⟩ := hd; exact Go.of (fun _ => XS.ifYes P.here P.hx rfl rfl (P.dec hd) rfl hc ho hp) G
theorem g_ifNo (P : Pl p l e R s m args below meth c Z y bytes mx ret n0 T h cells slots) {cd : ClassFile.Cond} {x : Int32} {o : Int} (hd : D bytes pc (.ifCond cd o) 3 pc') (hc : ifCond.holds cd x = false) (G : Go p e below Q (T.setTop (mkF m pc' Ls st))) : Go p e below Q (T.setTop (mkF m pc Ls (.int x :: st))) := by
  obtain ⟨hd, rfl⟩ := hd; exact Go.of (fun _ => XS.ifNo P.here P.hx rfl (P.dec hd) rfl hc) G
theorem g_icmpYes (P : Pl p l e R s m args below meth c Z y bytes mx ret n0 T h cells slots) {cd : ClassFile.Cond} {x z : Int32} {o : Int} {q : Nat} (hd : D bytes pc (.if_icmp cd o) 3 q) (hc : if_icmp.holds cd x z = true) (pc' : Nat) (ho : 0 ≤ (pc : Int) + o) (hp : ((pc : Int) + o).toNat = pc') (G : Go p e below Q (T.setTop (mkF m pc' Ls st))) : Go p e below Q (T.setTop (mkF m pc Ls (.int z :: .int x :: st))) := by
  obtain ⟨hd, -⟩ := hd; exact Go.of (fun _ => XS.icmpYes P.here P.hx rfl rfl (P.dec hd) rfl hc ho hp) G
theorem g_icmpNo (P : Pl p l e R s m args below meth c Z y bytes mx ret n0 T h cells slots) {cd : ClassFile.Cond} {x z : Int32} {o : Int} (hd : D bytes pc (.if_icmp cd o) 3 pc') (hc : if_icmp.holds cd x z = false) (G : Go p e below Q (T.setTop (mkF m pc' Ls st))) : Go p e below Q (T.setTop (mkF m pc Ls (.int z :: .int x :: st))) := by
  obtain ⟨hd, rfl⟩ := hd; exact Go.of (fun _ => XS.icmpNo P.here P.hx rfl (P.dec hd) rfl hc) G
theorem g_acmpYes (P : Pl p l e R s m args below meth c Z y bytes mx ret n0 T h cells slots) {cd : ClassFile.ACond} {x z : Value} {o : Int} {q : Nat} (hd : D bytes pc (.if_acmp cd o) 3 q) (hx' : x.isRef = true) (hz' : z.isRef = true) (hc : XT.acmp cd x z = true) (pc' : Nat) (ho : 0 ≤ (pc : Int) + o) (hp : ((pc : Int) + o).toNat = pc') (G : Go p e below Q (T.setTop (mkF m pc' Ls st))) : Go p e below Q (T.setTop (mkF m pc Ls (z :: x :: st))) := by
  obtain ⟨hd, -⟩ := hd; exact Go.of (fun _ => XT.acmpYes P.here P.hx rfl rfl (P.dec hd) rfl hx' hz' hc ho hp) G
theorem g_acmpNo (P : Pl p l e R s m args below meth c Z y bytes mx ret n0 T h cells slots) {cd : ClassFile.ACond} {x z : Value} {o : Int} (hd : D bytes pc (.if_acmp cd o) 3 pc') (hx' : x.isRef = true) (hz' : z.isRef = true) (hc : XT.acmp cd x z = false) (G : Go p e below Q (T.setTop (mkF m pc' Ls st))) : Go p e below Q (T.setTop (mkF m pc Ls (z :: x :: st))) := by
  obtain ⟨hd, rfl⟩ := hd; exact Go.of (fun _ => XT.acmpNo P.here P.hx rfl (P.dec hd) rfl hx' hz' hc) G
theorem g_ldc (P : Pl p l e R s m args below meth c Z y bytes mx ret n0 T h cells slots) {index : Nat} {v : Int32} (hd : D bytes pc (.ldc index) 2 pc') (w : (Cond.constant y.cls index v).before a0 Z = true) (G : Go p e below Q (T.setTop (mkF m pc' Ls (.int v :: st)))) : Go p e below Q (T.setTop (mkF m pc Ls st)) := by
  obtain ⟨hd, rfl⟩ := hd; obtain ⟨-, _, X, -⟩ := id P; exact Go.of (fun _ => X.ldcI P.hx P.hown (mvT P.hZ w) rfl (P.dec hd)) G
/-! what the heap or the tables are asked -/
theorem g_getF (P : Pl p l e R s m args below meth c Z y bytes mx ret n0 T h cells slots) {R0 O n d host : String} {index : Nat} {a : Addr} {v : Value} (hd : D bytes pc (.getfield index) 3 pc') (w : (Cond.fieldLink y.cls index R0 n d).before a0 Z = true ∨ (Cond.fieldLinkNest y.cls index R0 n d host).before a0 Z = true) (via : Via Z R0 O n d) (F : Fld Z h a O n d v)
    (G : ∀ T', Pl p l e R s m args below meth c Z y bytes mx ret n0 T' h cells slots → Go p e below Q (T'.setTop (mkF m pc' Ls (v :: st)))) : Go p e below Q (T.setTop (mkF m pc Ls (.ref a :: st))) := by
  obtain ⟨hd, rfl⟩ := hd; obtain ⟨B, locs, X, N, eT⟩ := id P
  obtain ⟨T', X', e', stp⟩ := getF X P.hx P.hZ P.hown w via eT F (g := mkF m pc Ls (.ref a :: st)) rfl rfl (P.dec hd)
  exact Go.of stp (G T' ⟨B, locs, X', N, e'⟩)
theorem g_getS (P : Pl p l e R s m args below meth c Z y bytes mx ret n0 T h cells slots) {R0 O n d host : String} {index : Nat} {v : Value} (hd : D bytes pc (.getstatic index) 3 pc') (w : (Cond.fieldLink y.cls index R0 n d).before a0 Z = true ∨ (Cond.fieldLinkNest y.cls index R0 n d host).before a0 Z = true) (via : Via Z R0 O n d) (F : Sta Z h O n d v)
    (G : ∀ T', Pl p l e R s m args below meth c Z y bytes mx ret n0 T' h cells slots → Go p e below Q (T'.setTop (mkF m pc' Ls (v :: st)))) : Go p e below Q (T.setTop (mkF m pc Ls st)) := by
  obtain ⟨hd, rfl⟩ := hd; obtain ⟨B, locs, X, N, eT⟩ := id P
  obtain ⟨T', X', e', stp⟩ := getS2 X P.hx P.hZ P.hown w via eT F (g := mkF m pc Ls st) rfl (P.dec hd)
  exact Go.of stp (G T' ⟨B, locs, X', N, e'⟩)
theorem g_putF (P : Pl p l e R s m args below meth c Z y bytes mx ret n0 T h cells slots) {R0 O n d host C : String} {index kk : Nat} {ty : FieldType} {a : Addr} {v old : Value} (hd : D bytes pc (.putfield index) 3 pc') (w : (Cond.fieldLink y.cls index R0 n d).before a0 Z = true ∨ (Cond.fieldLinkNest y.cls index R0 n d host).before a0 Z = true) (via : Via Z R0 O n d) (F : Fld Z h a O n d old) (E : Exa Z h a C)
    (L : (Cond.lays C O n d).before a0 Z = true ∨ ((Cond.laysFinal C O n d).before a0 Z = true ∧ y.cls = O ∧ y.name = "<init>")) (wi : (Cond.instantiable C kk).before a0 Z = true) (hty : parseFieldDescriptor d = some ty) (hn : narrow ty v = v) (hf : fits ty v = true) (ge : n0 ≤ a)
    (G : ∀ T' h', Pl p l e R s m args below meth c Z y bytes mx ret n0 T' h' cells slots → Wr h h' a (Jvm.RoadKit.slotOf Z O n d) v → Go p e below Q (T'.setTop (mkF m pc' Ls st))) : Go p e below Q (T.setTop (mkF m pc Ls (v :: .ref a :: st))) := by
  obtain ⟨hd, rfl⟩ := hd; obtain ⟨B, locs, X, N, eT⟩ := id P
  obtain ⟨T', h', X', e', W, stp⟩ := putF X P.hx P.hZ P.hown w via eT F E (L.imp id fun q => ⟨q.1, q.2.1, P.hnm.trans q.2.2⟩) wi hty hn hf (g := mkF m pc Ls (v :: .ref a :: st)) rfl rfl (P.dec hd)
  exact Go.of stp (G T' h' ⟨B, _, X', Fr.snoc X' N ge, e'⟩ W)
theorem g_new (P : Pl p l e R s m args below meth c Z y bytes mx ret n0 T h cells slots) {C : String} {index n : Nat} (hd : D bytes pc (.new index) 3 pc') (w : (Cond.classLink y.cls index C).before a0 Z = true) (wi : (Cond.instantiable C n).before a0 Z = true) (wz : (Cond.initialized C).before a0 Z = true) (hc : cells + 1 ≤ R.cells) (hl : slots + n ≤ R.slots)
    (G : ∀ T' h' a, Pl p l e R s m args below meth c Z y bytes mx ret n0 T' h' (cells + 1) (slots + n) → a = h.size → Ext h h' → Exa Z h' a C → (∀ {O nm d : String} {ty : FieldType}, Laid Z a0 C O nm d → parseFieldDescriptor d = some ty → Fld Z h' a O nm d (defaultValue ty)) → Go p e below Q (T'.setTop (mkF m pc' Ls (.ref a :: st)))) : Go p e below Q (T.setTop (mkF m pc Ls st)) := by
  obtain ⟨hd, rfl⟩ := hd; obtain ⟨B, locs, X, N, eT⟩ := id P
  obtain ⟨T', h', X', e', E, A, F, -, stp⟩ := newO X P.hx P.hZ P.hown w wi wz eT (g := mkF m pc Ls st) rfl (P.dec hd) hc hl
  exact Go.of stp (G T' h' _ ⟨B, locs, X', N, e'⟩ rfl E A F)
theorem g_init (P : Pl p l e R s m args below meth c Z y bytes mx ret n0 T h cells slots) {idx : Nat} {a : Addr} (hd : D bytes pc (.invokespecial idx) 3 pc') (w1 : (Cond.methodLink y.cls idx Lib.objectInit).before a0 Z = true) (w2 : (Cond.instanceMethod Lib.objectInit).before a0 Z = true) (w3 : (Cond.code Lib.objectInit ⟨#[0xb1]⟩ 1 none).before a0 Z = true)
    (hs : Ls.size = mx) (hf : 1 ≤ R.frames) {W : Nat} (hW : (st.map fun v => v.category).sum = W) (hl : W + 12 ≤ R.locals)
    (G : ∀ T', Pl p l e R s m args below meth c Z y bytes mx ret n0 T' h cells slots → Go p e below Q (T'.setTop (mkF m pc' Ls st))) : Go p e below Q (T.setTop (mkF m pc Ls (.ref a :: st))) := by
  obtain ⟨hd, rfl⟩ := hd; obtain ⟨B, locs, X, N, eT⟩ := id P
  obtain ⟨T', X', e', stp⟩ := initO X P.hx P.hZ P.hown w1 w2 w3 eT (g := mkF m pc Ls (.ref a :: st)) rfl (by rw [P.hml]; exact hs) rfl (P.dec hd) hf (W := W) (by show 2 * 0 + _ ≤ W; omega) hl
  exact Go.of stp (G T' ⟨B, locs, X', N, e'⟩)
/-! what a body leaves; its contract; the ends -/
def Fin (s : State) (R : Room) (n0 : Nat) (Qc : Option Value → Heap → Prop) (o : Outcome) (U : State) : Prop := ∃ v L, o = .returned v ∧ (Fr n0 L ∧ Qc v U.heap) ∧ FrameEnd s o U L R.cells R.slots
def Met (l : Launch) (Z : State) (y : MethodName) (bytes : ByteArray) (mx : Nat) (ret : Option FieldType) (rm : Room) (n0 : Nat) (as' : Array Value) (h : Heap) (Qc : Option Value → Heap → Prop) : Prop :=
  ∀ ws, MetFree l y (head1 (Jvm.Cond.code y bytes mx ret :: ws) rm) (fun a U => a = as' ∧ Z.Warmed39 U.vm ∧ U.heap = h) (fun _ _ _ _ _ => True) (fun _ U o U' => ∃ v L, o = .returned v ∧ (Fr n0 L ∧ Qc v U'.heap) ∧ FrameEnd U o U' L rm.cells rm.slots)
theorem Met.intro {Qc : Option Value → Heap → Prop} {rm : Room} {as' : Array Value} (pn : plainName y.cls = true)
    (body : ∀ p e s m below meth c T, Pl p l e rm s m as' below meth c Z y bytes mx ret n0 T h 0 0 → Go p e below (Fin s rm n0 Qc) (T.setTop (entryFrame m as' mx))) : Met l Z y bytes mx ret rm n0 as' h Qc := by
  intro ws
  refine MetFree.of_bodySF (plainFor_of_name pn) hisR ?_
  intro p e s m args below meth c s₁ Bd hml0 hP hK
  obtain ⟨rfl, hZ, hh⟩ := hP
  have X0 : Stand p l e rm s m args below meth c s₁ [] 0 0 := Stand.of_body Bd
  have e0 : s₁.heap = h := by rw [← hh, Bd.state]; rfl
  exact body p e s m below meth c s₁ ⟨⟨Bd.exec, hZ, findClass_of_methodNamed Bd.named, (name_of_methodNamed Bd.named Bd.method).1, Bd.bytes, hml0, Bd.returns, BodyLoose.notSynchronized Bd⟩, [], X0, Fr.nil n0, e0⟩
theorem Go.cast {g g' : JFrame} (q : g = g') (G : Go p e below Q (T.setTop g')) : Go p e below Q (T.setTop g) := q ▸ G
theorem Go.fin {Qc : Option Value → Heap → Prop} {v : Option Value} {g : JFrame} (P : Pl p l e R s m args below meth c Z y bytes mx ret n0 T h cells slots) (hv : ret = none → v = none) (hc : cells ≤ R.cells) (hl : slots ≤ R.slots)
    (k : ∀ fs, (∀ (f : JFrame) (acts : List Action), f.method = m → f.locked = none → f.entered = [] → (doReturn e (T.setTop f) acts v).1 = T.setFrames fs) → Steps p.tables e below (T.setTop g) (T.setFrames fs)) (q : Qc v h) : Go p e below (Fin s R n0 Qc) (T.setTop g) := by
  obtain ⟨B, locs, X, N, eT⟩ := id P
  obtain ⟨fs, hr, hrun, hended, hW, hsame⟩ := X.leave (v := v) (fun q => hv (P.hrt.symm.trans q)) P.hlk
  exact ⟨_, _, k fs hr, hrun, hended, v, locs, rfl, ⟨N, by show Qc v T.heap; rw [eT]; exact q⟩, ⟨_, rfl⟩, hW, hsame.mono hc hl⟩
theorem g_retI {Qc : Option Value → Heap → Prop} {z : Int32} (P : Pl p l e R s m args below meth c Z y bytes mx (some .int) n0 T h cells slots) (hd : D bytes pc .ireturn 1 pc') (hc : cells ≤ R.cells) (hl : slots ≤ R.slots) (q : Qc (some (.int z)) h) : Go p e below (Fin s R n0 Qc) (T.setTop (mkF m pc Ls (.int z :: st))) := by
  obtain ⟨B, locs, X, N, eT⟩ := id P
  exact Go.fin P (fun q => by cases q) hc hl (fun fs hr => retOut X P.hx P.hrt rfl (Or.inl ⟨rfl, Or.inl rfl, _, rfl⟩) (P.dec hd.1) hr) q
theorem g_retZ {Qc : Option Value → Heap → Prop} {z : Int32} (P : Pl p l e R s m args below meth c Z y bytes mx (some .boolean) n0 T h cells slots) (hd : D bytes pc .ireturn 1 pc') (hz : z &&& 1 = z) (hc : cells ≤ R.cells) (hl : slots ≤ R.slots) (q : Qc (some (.int z)) h) : Go p e below (Fin s R n0 Qc) (T.setTop (mkF m pc Ls (.int z :: st))) := by
  obtain ⟨B, locs, X, N, eT⟩ := id P
  exact Go.fin P (fun q => by cases q) hc hl (fun fs hr => retN X P.hx (t := .boolean) P.hrt (by simp) (P.dec hd.1) (by show ∀ (f : JFrame) (acts : List Action), _ → _ → _ → (doReturn e (T.setTop f) acts (some (.int (z &&& 1)))).1 = _; rw [hz]; exact hr)) q
theorem g_retA {Qc : Option Value → Heap → Prop} {w : Value} {t : FieldType} (P : Pl p l e R s m args below meth c Z y bytes mx (some t) n0 T h cells slots) (hd : D bytes pc .areturn 1 pc') (ht : t.isReference = true) (hw : w.isRef = true) (hn : narrow t w = w) (hc : cells ≤ R.cells) (hl : slots ≤ R.slots) (q : Qc (some w) h) : Go p e below (Fin s R n0 Qc) (T.setTop (mkF m pc Ls (w :: st))) := by
  obtain ⟨B, locs, X, N, eT⟩ := id P
  exact Go.fin P (fun q => by cases q) hc hl (fun fs hr => retOut X P.hx P.hrt hn (Or.inr (Or.inr (Or.inr (Or.inr ⟨rfl, ht, hw⟩)))) (P.dec hd.1) hr) q
theorem g_ret {Qc : Option Value → Heap → Prop} (P : Pl p l e R s m args below meth c Z y bytes mx none n0 T h cells slots) (hd : D bytes pc .return_ 1 pc') (hc : cells ≤ R.cells) (hl : slots ≤ R.slots) (q : Qc none h) : Go p e below (Fin s R n0 Qc) (T.setTop (mkF m pc Ls [])) := by
  obtain ⟨B, locs, X, N, eT⟩ := id P
  exact Go.fin P (fun _ => rfl) hc hl (fun fs hr => X.returnOut P.hx P.hrt (P.dec hd.1) hr) q
/-! the calls -/
theorem g_static (P : Pl p l e R s m args below meth c Z y bytes mx ret n0 T h cells slots) {y' : MethodName} {bytes' : ByteArray} {mx' : Nat} {ret' : Option FieldType} {rm : Room} {Qc : Option Value → Heap → Prop} {index : Nat} {ps : List FieldType} {r : Option FieldType} (argsL : List Value) {stk rest : List Value} {W : Nat}
    (hd : D bytes pc (.invokestatic index) 3 pc') (w1 : (Cond.methodLink y.cls index y').before a0 Z = true) (w2 : (Cond.static y').before a0 Z = true) (w3 : (Cond.initialized y'.cls).before a0 Z = true) (w4 : (Cond.code y' bytes' mx' ret').before a0 Z = true) (hy : y'.cls ≠ "java/lang/invoke/MethodHandle" ∧ y'.cls ≠ "java/lang/invoke/VarHandle")
    (M : Met l Z y' bytes' mx' ret' rm n0 argsL.toArray h Qc) (pd : parseMethodDescriptor y'.desc = some ⟨ps, r⟩) (hl : argsL.length = ps.length) (hs : stk = argsL.reverse ++ rest) (hmx : Ls.size = mx) (hW : (rest.map fun v => v.category).sum = W)
    (hf : rm.frames + 1 ≤ R.frames) (hlo : W + (mx' + 11) + rm.locals ≤ R.locals) (hc : cells + rm.cells ≤ R.cells) (hsl : slots + rm.slots ≤ R.slots)
    (G : ∀ v T' h', Pl p l e R s m args below meth c Z y bytes mx ret n0 T' h' (cells + rm.cells) (slots + rm.slots) → Qc v h' → Go p e below Q (T'.setTop (mkF m pc' Ls (v.toList ++ rest)))) : Go p e below Q (T.setTop (mkF m pc Ls stk)) := by
  obtain ⟨hd, rfl⟩ := hd; obtain ⟨B, locs, X, N, eT⟩ := id P
  obtain ⟨v, _, ⟨T', L', k', n'⟩, -, X', ⟨Lc, hQ, l', y'', z'⟩, stp⟩ := Jvm.LawKit.callS X P.hx (y := y') P.hown (mvT P.hZ w1) (mvT P.hZ w2) (mvT P.hZ w3) (mvT P.hZ w4) hy (backOf (W := W) (Q := fun v h L => Fr n0 L ∧ Qc v h) (M []) P.hZ w4 w3 hf hlo) (g := mkF m pc Ls stk) rfl (by rw [P.hml]; exact hmx) (argsL := argsL) (rest := rest) (lenOf pd hl) hs (by show 2 * 0 + _ ≤ W; omega) (P.dec hd) (fun _ _ => ⟨rfl, eT, hc, hsl⟩)
  dsimp only [Pt.U, Pt.locs, Pt.cells, Pt.slots] at X' l' y'' z' stp hQ
  subst l' y'' z'
  exact Go.of stp (G v T' T'.heap ⟨B, _, X', Fr.app N hQ.1, rfl⟩ hQ.2)
theorem g_special (P : Pl p l e R s m args below meth c Z y bytes mx ret n0 T h cells slots) {y' : MethodName} {bytes' : ByteArray} {mx' : Nat} {rm : Room} {Qc : Option Value → Heap → Prop} {index : Nat} {ps : List FieldType} {r : Option FieldType} (a : Addr) (argsL : List Value) {stk rest : List Value} {W : Nat}
    (hd : D bytes pc (.invokespecial index) 3 pc') (hin : y'.name = "<init>") (w1 : (Cond.methodLink y.cls index y').before a0 Z = true) (w2 : (Cond.instanceMethod y').before a0 Z = true) (w3 : (Cond.initialized y'.cls).before a0 Z = true) (w4 : (Cond.code y' bytes' mx' none).before a0 Z = true) (hy : y'.cls ≠ "java/lang/invoke/MethodHandle" ∧ y'.cls ≠ "java/lang/invoke/VarHandle")
    (M : Met l Z y' bytes' mx' none rm n0 (.ref a :: argsL).toArray h Qc) (pd : parseMethodDescriptor y'.desc = some ⟨ps, r⟩) (hl : argsL.length = ps.length) (hs : stk = argsL.reverse ++ .ref a :: rest) (hmx : Ls.size = mx) (hW : (rest.map fun v => v.category).sum = W)
    (hf : rm.frames + 1 ≤ R.frames) (hlo : W + (mx' + 11) + rm.locals ≤ R.locals) (hc : cells + rm.cells ≤ R.cells) (hsl : slots + rm.slots ≤ R.slots)
    (G : ∀ v T' h', Pl p l e R s m args below meth c Z y bytes mx ret n0 T' h' (cells + rm.cells) (slots + rm.slots) → Qc v h' → Go p e below Q (T'.setTop (mkF m pc' Ls (v.toList ++ rest)))) : Go p e below Q (T.setTop (mkF m pc Ls stk)) := by
  obtain ⟨hd, rfl⟩ := hd; obtain ⟨B, locs, X, N, eT⟩ := id P
  obtain ⟨v, _, ⟨T', L', k', n'⟩, -, X', ⟨Lc, hQ, l', y'', z'⟩, stp⟩ := X.specialBack P.hx (y := y') hin P.hown (mvT P.hZ w1) (mvT P.hZ w2) (mvT P.hZ w4) hy (backOf (W := W) (Q := fun v h L => Fr n0 L ∧ Qc v h) (M []) P.hZ w4 w3 hf hlo) (g := mkF m pc Ls stk) rfl (by rw [P.hml]; exact hmx) (Steps.refl _) (a := a) (argsL := argsL) (rest := rest) (lenOf pd hl) hs (by show 2 * 0 + _ ≤ W; omega) (P.dec hd) (fun _ _ => ⟨rfl, eT, hc, hsl⟩)
  dsimp only [Pt.U, Pt.locs, Pt.cells, Pt.slots] at X' l' y'' z' stp hQ
  subst l' y'' z'
  exact Go.tr stp (G v T' T'.heap ⟨B, _, X', Fr.app N hQ.1, rfl⟩ hQ.2)
theorem g_virtual (P : Pl p l e R s m args below meth c Z y bytes mx ret n0 T h cells slots) {y' : MethodName} {C : String} {bytes' : ByteArray} {mx' : Nat} {ret' : Option FieldType} {rm : Room} {Qc : Option Value → Heap → Prop} {index : Nat} {ps : List FieldType} {r : Option FieldType} (a : Addr) (argsL : List Value) {stk rest : List Value} {W : Nat}
    (hd : D bytes pc (.invokevirtual index) 3 pc') (w1 : (Cond.methodLink y.cls index y').before a0 Z = true) (w2 : (Cond.declares y').before a0 Z = true) (w3 : (Cond.selects C y' y').before a0 Z = true) (w4 : (Cond.instanceMethod y').before a0 Z = true) (w5 : (Cond.initialized y'.cls).before a0 Z = true) (w6 : (Cond.code y' bytes' mx' ret').before a0 Z = true) (hy : y'.cls ≠ "java/lang/invoke/MethodHandle" ∧ y'.cls ≠ "java/lang/invoke/VarHandle")
    (E : Exa Z h a C) (M : Met l Z y' bytes' mx' ret' rm n0 (.ref a :: argsL).toArray h Qc) (pd : parseMethodDescriptor y'.desc = some ⟨ps, r⟩) (hl : argsL.length = ps.length) (hs : stk = argsL.reverse ++ .ref a :: rest) (hmx : Ls.size = mx) (hW : (rest.map fun v => v.category).sum = W)
    (hf : rm.frames + 1 ≤ R.frames) (hlo : W + (mx' + 11) + rm.locals ≤ R.locals) (hc : cells + rm.cells ≤ R.cells) (hsl : slots + rm.slots ≤ R.slots)
    (G : ∀ v T' h', Pl p l e R s m args below meth c Z y bytes mx ret n0 T' h' (cells + rm.cells) (slots + rm.slots) → Qc v h' → Go p e below Q (T'.setTop (mkF m pc' Ls (v.toList ++ rest)))) : Go p e below Q (T.setTop (mkF m pc Ls stk)) := by
  obtain ⟨hd, rfl⟩ := hd; obtain ⟨B, locs, X, N, eT⟩ := id P
  obtain ⟨cq, kq, qa, qb, qc⟩ := isOf P.hZ eT E
  obtain ⟨v, _, ⟨T', L', k', n'⟩, -, X', ⟨Lc, hQ, l', y'', z'⟩, stp⟩ := X.virtualBack P.hx (y := y') (z := y') P.hown (mvT P.hZ w1) (mvT P.hZ w2) (notFace_of_selects (args := #[]) (mvT P.hZ w3)) (mvT P.hZ w3) (mvT P.hZ w4) hy (backOf (W := W) (Q := fun v h L => Fr n0 L ∧ Qc v h) (M []) P.hZ w6 w5 hf hlo) qa qc (g := mkF m pc Ls stk) rfl (by rw [P.hml]; exact hmx) (Steps.refl _) (argsL := argsL) (rest := rest) (lenOf pd hl) hs (by show 2 * 0 + _ ≤ W; omega) (P.dec hd) (fun _ _ => ⟨rfl, eT, hc, hsl⟩)
  dsimp only [Pt.U, Pt.locs, Pt.cells, Pt.slots] at X' l' y'' z' stp hQ
  subst l' y'' z'
  exact Go.tr stp (G v T' T'.heap ⟨B, _, X', Fr.app N hQ.1, rfl⟩ hQ.2)
end OwnGo
/-! OWN 2: small facts -/
section OwnSmall
variable {args : Array Value} {Z : State} {a b : Addr}
theorem ac_t (h : a = b) : XT.acmp .eq (.ref a) (.ref b) = true ∧ XT.acmp .ne (.ref a) (.ref b) = false := ⟨decide_eq_true (by rw [h]), decide_eq_false (fun q => q (by rw [h]))⟩
theorem ac_f (h : ¬ a = b) : XT.acmp .eq (.ref a) (.ref b) = false ∧ XT.acmp .ne (.ref a) (.ref b) = true := ⟨decide_eq_false (fun q => h (by cases q; rfl)), decide_eq_true (fun q => h (by cases q; rfl))⟩
theorem eqI {t : Term} {z : Int32} (h : (Cond.eq t (.int z)).value args Z none Z [] = some true) : t.eval args Z none [] Z = some (.int z) := Cond.eq_int (Cond.before_iff.mpr h) rfl
theorem i32_of {i j : Int32} (h : i.toInt = j.toInt) : i = j := Int32.toInt_inj.mp h
theorem rem_mask (k n : Int32) (hn : 0 < n.toInt) : 0 ≤ ((k &&& 2147483647) % n).toInt ∧ ((k &&& 2147483647) % n).toInt < n.toInt := by
  rw [Jvm.Kit.i32_rem_nonneg (by rw [Jvm.Kit.i32_mask k 2147483647 (k := 31) (by decide) (by decide)]; exact Int.emod_nonneg _ (by decide))]
  exact ⟨Int.emod_nonneg _ (by omega), Int.emod_lt_of_pos _ hn⟩
theorem mask_nn (k : Int32) : ¬ (k &&& (2147483647 : Int32)) < 0 := by
  rw [Int32.lt_iff_toInt_lt, Jvm.Kit.i32_mask k 2147483647 (k := 31) (by decide) (by decide)]
  have : (0 : Int32).toInt = 0 := rfl
  have := Int.emod_nonneg k.toInt (show (2 ^ 31 : Int) ≠ 0 by decide)
  omega
theorem cases3 {i : Int32} (h : 0 ≤ i.toInt ∧ i.toInt < (3 : Int32).toInt) : i = 0 ∨ i = 1 ∨ i = 2 := by
  have h5 : (3 : Int32).toInt = 3 := rfl
  rcases (by omega : i.toInt = 0 ∨ i.toInt = 1 ∨ i.toInt = 2) with q | q | q
  · exact Or.inl (i32_of q)
  · exact Or.inr (Or.inl (i32_of q))
  · exact Or.inr (Or.inr (i32_of q))
theorem sta_keep {h h' : Heap} {C n d : String} {v : Value} {ws : List Addr} (F : Sta Z h C n d v) (K : Keep h h' ws) (q : ∀ x ∈ ws, ∃ c : Cell, h[x]? = some c ∧ c.vm.isStatics = false) : Sta Z h' C n d v := by
  obtain ⟨cf, i, k, f, st, cell, h1, h2, h3, h4, h5, h6, h7⟩ := F
  refine ⟨cf, i, k, f, st, cell, h1, h2, h3, h4, K.2.1 st cell h5 fun r => ?_, h6, h7⟩
  obtain ⟨c, q1, q2⟩ := q st r
  cases h5.symm.trans q1
  rw [h6] at q2; cases q2
theorem plain1 {h : Heap} {C : String} (A : Exa Z h a C) : ∀ x ∈ [a], ∃ c : Cell, h[x]? = some c ∧ c.vm.isStatics = false := fun x hx => by
  cases List.mem_singleton.mp hx; obtain ⟨c, _, q, -, -, r, -⟩ := A; exact ⟨c, q, r⟩
theorem cases4 {i : Int32} (h : 0 ≤ i.toInt ∧ i.toInt < (4 : Int32).toInt) : i = 0 ∨ i = 1 ∨ i = 2 ∨ i = 3 := by
  have h5 : (4 : Int32).toInt = 4 := rfl
  rcases (by omega : i.toInt = 0 ∨ i.toInt = 1 ∨ i.toInt = 2 ∨ i.toInt = 3) with q | q | q | q
  · exact Or.inl (i32_of q)
  · exact Or.inr (Or.inl (i32_of q))
  · exact Or.inr (Or.inr (Or.inl (i32_of q)))
  · exact Or.inr (Or.inr (Or.inr (i32_of q)))
theorem cases5 {i : Int32} (h : 0 ≤ i.toInt ∧ i.toInt < (5 : Int32).toInt) : i = 0 ∨ i = 1 ∨ i = 2 ∨ i = 3 ∨ i = 4 := by
  have h5 : (5 : Int32).toInt = 5 := rfl
  rcases (by omega : i.toInt = 0 ∨ i.toInt = 1 ∨ i.toInt = 2 ∨ i.toInt = 3 ∨ i.toInt = 4) with q | q | q | q | q
  · exact Or.inl (i32_of q)
  · exact Or.inr (Or.inl (i32_of q))
  · exact Or.inr (Or.inr (Or.inl (i32_of q)))
  · exact Or.inr (Or.inr (Or.inr (Or.inl (i32_of q))))
  · exact Or.inr (Or.inr (Or.inr (Or.inr (i32_of q))))
theorem cases7 {i : Int32} (h : 0 ≤ i.toInt ∧ i.toInt < (7 : Int32).toInt) : i = 0 ∨ i = 1 ∨ i = 2 ∨ i = 3 ∨ i = 4 ∨ i = 5 ∨ i = 6 := by
  have h5 : (7 : Int32).toInt = 7 := rfl
  rcases (by omega : i.toInt = 0 ∨ i.toInt = 1 ∨ i.toInt = 2 ∨ i.toInt = 3 ∨ i.toInt = 4 ∨ i.toInt = 5 ∨ i.toInt = 6) with q | q | q | q | q | q | q
  · exact Or.inl (i32_of q)
  · exact Or.inr (Or.inl (i32_of q))
  · exact Or.inr (Or.inr (Or.inl (i32_of q)))
  · exact Or.inr (Or.inr (Or.inr (Or.inl (i32_of q))))
  · exact Or.inr (Or.inr (Or.inr (Or.inr (Or.inl (i32_of q)))))
  · exact Or.inr (Or.inr (Or.inr (Or.inr (Or.inr (Or.inl (i32_of q))))))
  · exact Or.inr (Or.inr (Or.inr (Or.inr (Or.inr (Or.inr (i32_of q))))))
end OwnSmall
theorem d0_0 : D code 0 (.iload_n 0) 1 1 := ⟨at_0, rfl⟩
theorem d0_1 : D code 1 (.ldc 31) 2 3 := ⟨at_1, rfl⟩
theorem d0_3 : D code 3 (.iand) 1 4 := ⟨at_3, rfl⟩
theorem d0_4 : D code 4 (.bipush 7) 2 6 := ⟨at_4, rfl⟩
theorem d0_6 : D code 6 (.irem) 1 7 := ⟨at_6, rfl⟩
theorem d0_7 : D code 7 (.istore_n 1) 1 8 := ⟨at_7, rfl⟩
theorem d0_8 : D code 8 (.iload_n 1) 1 9 := ⟨at_8, rfl⟩
theorem d0_9 : D code 9 (.invokestatic 32) 3 12 := ⟨at_9, rfl⟩
theorem d0_12 : D code 12 (.astore_n 2) 1 13 := ⟨at_12, rfl⟩
theorem d0_13 : D code 13 (.iload_n 1) 1 14 := ⟨at_13, rfl⟩
theorem d0_14 : D code 14 (.ifCond .eq 8) 3 17 := ⟨at_14, rfl⟩
theorem d0_17 : D code 17 (.iload_n 1) 1 18 := ⟨at_17, rfl⟩
theorem d0_18 : D code 18 (.iconst 1) 1 19 := ⟨at_18, rfl⟩
theorem d0_19 : D code 19 (.if_icmp .ne 7) 3 22 := ⟨at_19, rfl⟩
theorem d0_22 : D code 22 (.iconst 1) 1 23 := ⟨at_22, rfl⟩
theorem d0_23 : D code 23 (.goto 4) 3 26 := ⟨at_23, rfl⟩
theorem d0_26 : D code 26 (.iconst 0) 1 27 := ⟨at_26, rfl⟩
theorem d0_27 : D code 27 (.istore_n 3) 1 28 := ⟨at_27, rfl⟩
theorem d0_28 : D code 28 (.aload_n 2) 1 29 := ⟨at_28, rfl⟩
theorem d0_29 : D code 29 (.invokevirtual 38) 3 32 := ⟨at_29, rfl⟩
theorem d0_32 : D code 32 (.iload_n 3) 1 33 := ⟨at_32, rfl⟩
theorem d0_33 : D code 33 (.if_icmp .ne 7) 3 36 := ⟨at_33, rfl⟩
theorem d0_36 : D code 36 (.iconst 1) 1 37 := ⟨at_36, rfl⟩
theorem d0_37 : D code 37 (.goto 4) 3 40 := ⟨at_37, rfl⟩
theorem d0_41 : D code 41 (.ireturn) 1 42 := ⟨at_41, rfl⟩
theorem d1_0 : D method_2_code 0 (.iload_n 0) 1 1 := ⟨by decide +kernel, rfl⟩
theorem d1_1 : D method_2_code 1 (.ifCond .ne 7) 3 4 := ⟨by decide +kernel, rfl⟩
theorem d1_4 : D method_2_code 4 (.getstatic 7) 3 7 := ⟨by decide +kernel, rfl⟩
theorem d1_7 : D method_2_code 7 (.areturn) 1 8 := ⟨by decide +kernel, rfl⟩
theorem d1_8 : D method_2_code 8 (.iload_n 0) 1 9 := ⟨by decide +kernel, rfl⟩
theorem d1_9 : D method_2_code 9 (.iconst 1) 1 10 := ⟨by decide +kernel, rfl⟩
theorem d1_10 : D method_2_code 10 (.if_icmp .ne 7) 3 13 := ⟨by decide +kernel, rfl⟩
theorem d1_13 : D method_2_code 13 (.getstatic 13) 3 16 := ⟨by decide +kernel, rfl⟩
theorem d1_16 : D method_2_code 16 (.areturn) 1 17 := ⟨by decide +kernel, rfl⟩
theorem d1_17 : D method_2_code 17 (.iload_n 0) 1 18 := ⟨by decide +kernel, rfl⟩
theorem d1_18 : D method_2_code 18 (.iconst 2) 1 19 := ⟨by decide +kernel, rfl⟩
theorem d1_19 : D method_2_code 19 (.if_icmp .ne 7) 3 22 := ⟨by decide +kernel, rfl⟩
theorem d1_22 : D method_2_code 22 (.getstatic 16) 3 25 := ⟨by decide +kernel, rfl⟩
theorem d1_25 : D method_2_code 25 (.areturn) 1 26 := ⟨by decide +kernel, rfl⟩
theorem d1_26 : D method_2_code 26 (.iload_n 0) 1 27 := ⟨by decide +kernel, rfl⟩
theorem d1_27 : D method_2_code 27 (.iconst 3) 1 28 := ⟨by decide +kernel, rfl⟩
theorem d1_28 : D method_2_code 28 (.if_icmp .ne 7) 3 31 := ⟨by decide +kernel, rfl⟩
theorem d1_31 : D method_2_code 31 (.getstatic 19) 3 34 := ⟨by decide +kernel, rfl⟩
theorem d1_34 : D method_2_code 34 (.areturn) 1 35 := ⟨by decide +kernel, rfl⟩
theorem d1_35 : D method_2_code 35 (.iload_n 0) 1 36 := ⟨by decide +kernel, rfl⟩
theorem d1_36 : D method_2_code 36 (.iconst 4) 1 37 := ⟨by decide +kernel, rfl⟩
theorem d1_37 : D method_2_code 37 (.if_icmp .ne 7) 3 40 := ⟨by decide +kernel, rfl⟩
theorem d1_40 : D method_2_code 40 (.getstatic 22) 3 43 := ⟨by decide +kernel, rfl⟩
theorem d1_43 : D method_2_code 43 (.areturn) 1 44 := ⟨by decide +kernel, rfl⟩
theorem d1_44 : D method_2_code 44 (.iload_n 0) 1 45 := ⟨by decide +kernel, rfl⟩
theorem d1_45 : D method_2_code 45 (.iconst 5) 1 46 := ⟨by decide +kernel, rfl⟩
theorem d1_46 : D method_2_code 46 (.if_icmp .ne 7) 3 49 := ⟨by decide +kernel, rfl⟩
theorem d1_49 : D method_2_code 49 (.getstatic 25) 3 52 := ⟨by decide +kernel, rfl⟩
theorem d1_52 : D method_2_code 52 (.areturn) 1 53 := ⟨by decide +kernel, rfl⟩
theorem d1_53 : D method_2_code 53 (.getstatic 28) 3 56 := ⟨by decide +kernel, rfl⟩
theorem d1_56 : D method_2_code 56 (.areturn) 1 57 := ⟨by decide +kernel, rfl⟩
theorem d2_0 : D prog_16_method_5_code 0 (.aload_n 0) 1 1 := ⟨by decide +kernel, rfl⟩
theorem d2_1 : D prog_16_method_5_code 1 (.getstatic 3) 3 4 := ⟨by decide +kernel, rfl⟩
theorem d2_4 : D prog_16_method_5_code 4 (.if_acmp .eq 10) 3 7 := ⟨by decide +kernel, rfl⟩
theorem d2_7 : D prog_16_method_5_code 7 (.aload_n 0) 1 8 := ⟨by decide +kernel, rfl⟩
theorem d2_8 : D prog_16_method_5_code 8 (.getstatic 7) 3 11 := ⟨by decide +kernel, rfl⟩
theorem d2_11 : D prog_16_method_5_code 11 (.if_acmp .ne 7) 3 14 := ⟨by decide +kernel, rfl⟩
theorem d2_14 : D prog_16_method_5_code 14 (.iconst 1) 1 15 := ⟨by decide +kernel, rfl⟩
theorem d2_15 : D prog_16_method_5_code 15 (.goto 4) 3 18 := ⟨by decide +kernel, rfl⟩
theorem d2_18 : D prog_16_method_5_code 18 (.iconst 0) 1 19 := ⟨by decide +kernel, rfl⟩
theorem d2_19 : D prog_16_method_5_code 19 (.ireturn) 1 20 := ⟨by decide +kernel, rfl⟩
theorem pd_0 : parseMethodDescriptor "(I)Lcom/example/lintel/lintel/model/event/EventKind;" = some ⟨[.int], some (.object "com/example/lintel/lintel/model/event/EventKind")⟩ := by decide +kernel
theorem pd_1 : parseMethodDescriptor "()Z" = some ⟨[], some .boolean⟩ := by decide +kernel
set_option maxRecDepth 65536 in
set_option maxHeartbeats 40000000 in
theorem rm_pick (l : Launch) (Z : State) (a0 : Array Value) (hw : ∀ d ∈ tables_1, d.before a0 Z = true) (h0 : Heap) (n0 : Nat) (a_SALE a_TRANSFER a_REFINANCE a_FORECLOSURE a_DEED_IN_LIEU a_FHA_ASSIGNMENT a_DEATH : Addr) (p1 : Int32) (r : Addr) (S_SALE : Sta Z h0 "com/example/lintel/lintel/model/event/EventKind" "SALE" "Lcom/example/lintel/lintel/model/event/EventKind;" (.ref a_SALE)) (S_TRANSFER : Sta Z h0 "com/example/lintel/lintel/model/event/EventKind" "TRANSFER" "Lcom/example/lintel/lintel/model/event/EventKind;" (.ref a_TRANSFER)) (S_REFINANCE : Sta Z h0 "com/example/lintel/lintel/model/event/EventKind" "REFINANCE" "Lcom/example/lintel/lintel/model/event/EventKind;" (.ref a_REFINANCE)) (S_FORECLOSURE : Sta Z h0 "com/example/lintel/lintel/model/event/EventKind" "FORECLOSURE" "Lcom/example/lintel/lintel/model/event/EventKind;" (.ref a_FORECLOSURE)) (S_DEED_IN_LIEU : Sta Z h0 "com/example/lintel/lintel/model/event/EventKind" "DEED_IN_LIEU" "Lcom/example/lintel/lintel/model/event/EventKind;" (.ref a_DEED_IN_LIEU)) (S_FHA_ASSIGNMENT : Sta Z h0 "com/example/lintel/lintel/model/event/EventKind" "FHA_ASSIGNMENT" "Lcom/example/lintel/lintel/model/event/EventKind;" (.ref a_FHA_ASSIGNMENT)) (S_DEATH : Sta Z h0 "com/example/lintel/lintel/model/event/EventKind" "DEATH" "Lcom/example/lintel/lintel/model/event/EventKind;" (.ref a_DEATH)) (hr : r = (if p1 = 0 then a_SALE else (if p1 = 1 then a_TRANSFER else (if p1 = 2 then a_REFINANCE else (if p1 = 3 then a_FORECLOSURE else (if p1 = 4 then a_DEED_IN_LIEU else (if p1 = 5 then a_FHA_ASSIGNMENT else a_DEATH))))))) :
    Met l Z (⟨"com/example/lintel/lintel/model/event/EventKindIsSaleOrTransferPinLaw", "pick", "(I)Lcom/example/lintel/lintel/model/event/EventKind;"⟩ : MethodName) method_2_code 1 (some (.object "com/example/lintel/lintel/model/event/EventKind")) ({ frames := 0, cells := 0, slots := 0, locals := 0 } : Room) n0 #[(.int p1)] h0 (fun v h => v = some (.ref r) ∧ h = h0) := by
  refine Met.intro (by first | (simp [plainName, overriddenIn, x]; done) | decide +kernel) ?_
  intro p e s m below meth c T0 P0
  refine Go.cast (g' := mkF m 0 #[.val (.int p1)] []) (by first | (simp [entryFrame, mkF, argsToLocals, Value.category, maxLocals]; done) | rfl) ?_
  refine g_iloadN P0 d1_0 rfl ?_
  by_cases hc1 : p1 = (0 : Int32)
  · refine g_ifNo P0 d1_1 ((if0 _ _).trans (teq hc1).2) ?_
    refine g_getS (host := "") P0 d1_4 (Or.inl (hw _ (List.mem_of_getElem? (i := 5) rfl))) Via.refl S_SALE fun T1 P1 => ?_
    exact g_retA P1 d1_7 rfl rfl rfl (by decide) (by decide) ⟨by rw [hr, if_pos hc1], rfl⟩
  · refine g_ifYes P0 d1_1 ((if0 _ _).trans (feq hc1).2) 8 (by decide) (by decide) ?_
    refine g_iloadN P0 d1_8 rfl ?_
    refine g_iconst (v := (1 : Int32)) P0 d1_9 (by rfl) ?_
    by_cases hc10 : p1 = (1 : Int32)
    · refine g_icmpNo P0 d1_10 (teq hc10).2 ?_
      refine g_getS (host := "") P0 d1_13 (Or.inl (hw _ (List.mem_of_getElem? (i := 26) rfl))) Via.refl S_TRANSFER fun T2 P2 => ?_
      exact g_retA P2 d1_16 rfl rfl rfl (by decide) (by decide) ⟨by rw [hr, if_neg hc1, if_pos hc10], rfl⟩
    · refine g_icmpYes P0 d1_10 (feq hc10).2 17 (by decide) (by decide) ?_
      refine g_iloadN P0 d1_17 rfl ?_
      refine g_iconst (v := (2 : Int32)) P0 d1_18 (by rfl) ?_
      by_cases hc19 : p1 = (2 : Int32)
      · refine g_icmpNo P0 d1_19 (teq hc19).2 ?_
        refine g_getS (host := "") P0 d1_22 (Or.inl (hw _ (List.mem_of_getElem? (i := 24) rfl))) Via.refl S_REFINANCE fun T3 P3 => ?_
        exact g_retA P3 d1_25 rfl rfl rfl (by decide) (by decide) ⟨by rw [hr, if_neg hc1, if_neg hc10, if_pos hc19], rfl⟩
      · refine g_icmpYes P0 d1_19 (feq hc19).2 26 (by decide) (by decide) ?_
        refine g_iloadN P0 d1_26 rfl ?_
        refine g_iconst (v := (3 : Int32)) P0 d1_27 (by rfl) ?_
        by_cases hc28 : p1 = (3 : Int32)
        · refine g_icmpNo P0 d1_28 (teq hc28).2 ?_
          refine g_getS (host := "") P0 d1_31 (Or.inl (hw _ (List.mem_of_getElem? (i := 14) rfl))) Via.refl S_FORECLOSURE fun T4 P4 => ?_
          exact g_retA P4 d1_34 rfl rfl rfl (by decide) (by decide) ⟨by rw [hr, if_neg hc1, if_neg hc10, if_neg hc19, if_pos hc28], rfl⟩
        · refine g_icmpYes P0 d1_28 (feq hc28).2 35 (by decide) (by decide) ?_
          refine g_iloadN P0 d1_35 rfl ?_
          refine g_iconst (v := (4 : Int32)) P0 d1_36 (by rfl) ?_
          by_cases hc37 : p1 = (4 : Int32)
          · refine g_icmpNo P0 d1_37 (teq hc37).2 ?_
            refine g_getS (host := "") P0 d1_40 (Or.inl (hw _ (List.mem_of_getElem? (i := 22) rfl))) Via.refl S_DEED_IN_LIEU fun T5 P5 => ?_
            exact g_retA P5 d1_43 rfl rfl rfl (by decide) (by decide) ⟨by rw [hr, if_neg hc1, if_neg hc10, if_neg hc19, if_neg hc28, if_pos hc37], rfl⟩
          · refine g_icmpYes P0 d1_37 (feq hc37).2 44 (by decide) (by decide) ?_
            refine g_iloadN P0 d1_44 rfl ?_
            refine g_iconst (v := (5 : Int32)) P0 d1_45 (by rfl) ?_
            by_cases hc46 : p1 = (5 : Int32)
            · refine g_icmpNo P0 d1_46 (teq hc46).2 ?_
              refine g_getS (host := "") P0 d1_49 (Or.inl (hw _ (List.mem_of_getElem? (i := 18) rfl))) Via.refl S_FHA_ASSIGNMENT fun T6 P6 => ?_
              exact g_retA P6 d1_52 rfl rfl rfl (by decide) (by decide) ⟨by rw [hr, if_neg hc1, if_neg hc10, if_neg hc19, if_neg hc28, if_neg hc37, if_pos hc46], rfl⟩
            · refine g_icmpYes P0 d1_46 (feq hc46).2 53 (by decide) (by decide) ?_
              refine g_getS (host := "") P0 d1_53 (Or.inl (hw _ (List.mem_of_getElem? (i := 20) rfl))) Via.refl S_DEATH fun T7 P7 => ?_
              exact g_retA P7 d1_56 rfl rfl rfl (by decide) (by decide) ⟨by rw [hr, if_neg hc1, if_neg hc10, if_neg hc19, if_neg hc28, if_neg hc37, if_neg hc46], rfl⟩
set_option maxRecDepth 65536 in
set_option maxHeartbeats 40000000 in
theorem rm_test (l : Launch) (Z : State) (a0 : Array Value) (hw : ∀ d ∈ tables_1, d.before a0 Z = true) (h0 : Heap) (n0 : Nat) (a_SALE a_TRANSFER a_REFINANCE a_FORECLOSURE a_DEED_IN_LIEU a_FHA_ASSIGNMENT a_DEATH : Addr) (r : Addr) (z : Int32) (S_SALE : Sta Z h0 "com/example/lintel/lintel/model/event/EventKind" "SALE" "Lcom/example/lintel/lintel/model/event/EventKind;" (.ref a_SALE)) (S_TRANSFER : Sta Z h0 "com/example/lintel/lintel/model/event/EventKind" "TRANSFER" "Lcom/example/lintel/lintel/model/event/EventKind;" (.ref a_TRANSFER)) (S_REFINANCE : Sta Z h0 "com/example/lintel/lintel/model/event/EventKind" "REFINANCE" "Lcom/example/lintel/lintel/model/event/EventKind;" (.ref a_REFINANCE)) (S_FORECLOSURE : Sta Z h0 "com/example/lintel/lintel/model/event/EventKind" "FORECLOSURE" "Lcom/example/lintel/lintel/model/event/EventKind;" (.ref a_FORECLOSURE)) (S_DEED_IN_LIEU : Sta Z h0 "com/example/lintel/lintel/model/event/EventKind" "DEED_IN_LIEU" "Lcom/example/lintel/lintel/model/event/EventKind;" (.ref a_DEED_IN_LIEU)) (S_FHA_ASSIGNMENT : Sta Z h0 "com/example/lintel/lintel/model/event/EventKind" "FHA_ASSIGNMENT" "Lcom/example/lintel/lintel/model/event/EventKind;" (.ref a_FHA_ASSIGNMENT)) (S_DEATH : Sta Z h0 "com/example/lintel/lintel/model/event/EventKind" "DEATH" "Lcom/example/lintel/lintel/model/event/EventKind;" (.ref a_DEATH)) (hz : z = if r = a_SALE ∨ r = a_TRANSFER then 1 else 0) :
    Met l Z (⟨"com/example/lintel/lintel/model/event/EventKind", "isSaleOrTransfer", "()Z"⟩ : MethodName) prog_16_method_5_code 1 (some .boolean) ({ frames := 0, cells := 0, slots := 0, locals := 0 } : Room) n0 #[(.ref r)] h0 (fun v h => v = some (.int z) ∧ h = h0) := by
  refine Met.intro (by first | (simp [plainName, overriddenIn, x]; done) | decide +kernel) ?_
  intro p e s m below meth c T0 P0
  refine Go.cast (g' := mkF m 0 #[.val (.ref r)] []) (by first | (simp [entryFrame, mkF, argsToLocals, Value.category, maxLocals]; done) | rfl) ?_
  refine g_aloadN P0 d2_0 rfl rfl ?_
  refine g_getS (host := "") P0 d2_1 (Or.inl (hw _ (List.mem_of_getElem? (i := 13) rfl))) Via.refl S_SALE fun T8 P8 => ?_
  by_cases hc4 : r = a_SALE
  · refine g_acmpYes P8 d2_4 rfl rfl (ac_t hc4).1 14 (by decide) (by decide) ?_
    refine g_iconst (v := (1 : Int32)) P8 d2_14 (by rfl) ?_
    refine g_goto P8 d2_15 19 (by decide) (by decide) ?_
    exact g_retZ P8 d2_19 (by decide) (by decide) (by decide) ⟨by rw [hz, if_pos (Or.inl hc4)], rfl⟩
  · refine g_acmpNo P8 d2_4 rfl rfl (ac_f hc4).1 ?_
    refine g_aloadN P8 d2_7 rfl rfl ?_
    refine g_getS (host := "") P8 d2_8 (Or.inl (hw _ (List.mem_of_getElem? (i := 16) rfl))) Via.refl S_TRANSFER fun T9 P9 => ?_
    by_cases hc11 : r = a_TRANSFER
    · refine g_acmpNo P9 d2_11 rfl rfl (ac_t hc11).2 ?_
      refine g_iconst (v := (1 : Int32)) P9 d2_14 (by rfl) ?_
      refine g_goto P9 d2_15 19 (by decide) (by decide) ?_
      exact g_retZ P9 d2_19 (by decide) (by decide) (by decide) ⟨by rw [hz, if_pos (Or.inr hc11)], rfl⟩
    · refine g_acmpYes P9 d2_11 rfl rfl (ac_f hc11).2 18 (by decide) (by decide) ?_
      refine g_iconst (v := (0 : Int32)) P9 d2_18 (by rfl) ?_
      exact g_retZ P9 d2_19 (by decide) (by decide) (by decide) ⟨by rw [hz, if_neg (not_or.mpr ⟨hc4, hc11⟩)], rfl⟩
set_option maxRecDepth 65536 in
set_option maxHeartbeats 40000000 in
theorem rm_law (l : Launch) (Z : State) (a0 : Array Value) (hw : ∀ d ∈ tables_1, d.before a0 Z = true) (h0 : Heap) (n0 : Nat) (a_SALE a_TRANSFER a_REFINANCE a_FORECLOSURE a_DEED_IN_LIEU a_FHA_ASSIGNMENT a_DEATH : Addr) (p1 : Int32) (S_SALE : Sta Z h0 "com/example/lintel/lintel/model/event/EventKind" "SALE" "Lcom/example/lintel/lintel/model/event/EventKind;" (.ref a_SALE)) (S_TRANSFER : Sta Z h0 "com/example/lintel/lintel/model/event/EventKind" "TRANSFER" "Lcom/example/lintel/lintel/model/event/EventKind;" (.ref a_TRANSFER)) (S_REFINANCE : Sta Z h0 "com/example/lintel/lintel/model/event/EventKind" "REFINANCE" "Lcom/example/lintel/lintel/model/event/EventKind;" (.ref a_REFINANCE)) (S_FORECLOSURE : Sta Z h0 "com/example/lintel/lintel/model/event/EventKind" "FORECLOSURE" "Lcom/example/lintel/lintel/model/event/EventKind;" (.ref a_FORECLOSURE)) (S_DEED_IN_LIEU : Sta Z h0 "com/example/lintel/lintel/model/event/EventKind" "DEED_IN_LIEU" "Lcom/example/lintel/lintel/model/event/EventKind;" (.ref a_DEED_IN_LIEU)) (S_FHA_ASSIGNMENT : Sta Z h0 "com/example/lintel/lintel/model/event/EventKind" "FHA_ASSIGNMENT" "Lcom/example/lintel/lintel/model/event/EventKind;" (.ref a_FHA_ASSIGNMENT)) (S_DEATH : Sta Z h0 "com/example/lintel/lintel/model/event/EventKind" "DEATH" "Lcom/example/lintel/lintel/model/event/EventKind;" (.ref a_DEATH)) (E_SALE : Exa Z h0 a_SALE "com/example/lintel/lintel/model/event/EventKind") (E_TRANSFER : Exa Z h0 a_TRANSFER "com/example/lintel/lintel/model/event/EventKind") (E_REFINANCE : Exa Z h0 a_REFINANCE "com/example/lintel/lintel/model/event/EventKind") (E_FORECLOSURE : Exa Z h0 a_FORECLOSURE "com/example/lintel/lintel/model/event/EventKind") (E_DEED_IN_LIEU : Exa Z h0 a_DEED_IN_LIEU "com/example/lintel/lintel/model/event/EventKind") (E_FHA_ASSIGNMENT : Exa Z h0 a_FHA_ASSIGNMENT "com/example/lintel/lintel/model/event/EventKind") (E_DEATH : Exa Z h0 a_DEATH "com/example/lintel/lintel/model/event/EventKind") (F_SALE : Fld Z h0 a_SALE "java/lang/Enum" "ordinal" "I" (.int (0 : Int32))) (F_TRANSFER : Fld Z h0 a_TRANSFER "java/lang/Enum" "ordinal" "I" (.int (1 : Int32))) (F_REFINANCE : Fld Z h0 a_REFINANCE "java/lang/Enum" "ordinal" "I" (.int (2 : Int32))) (F_FORECLOSURE : Fld Z h0 a_FORECLOSURE "java/lang/Enum" "ordinal" "I" (.int (3 : Int32))) (F_DEED_IN_LIEU : Fld Z h0 a_DEED_IN_LIEU "java/lang/Enum" "ordinal" "I" (.int (4 : Int32))) (F_FHA_ASSIGNMENT : Fld Z h0 a_FHA_ASSIGNMENT "java/lang/Enum" "ordinal" "I" (.int (5 : Int32))) (F_DEATH : Fld Z h0 a_DEATH "java/lang/Enum" "ordinal" "I" (.int (6 : Int32))) :
    Met l Z x code maxLocals ret room_1 n0 #[(.int p1)] h0 (fun v _ => v = some (.int 1)) := by
  refine Met.intro (by first | (simp [plainName, overriddenIn, x]; done) | decide +kernel) ?_
  intro p e s m below meth c T0 P0
  refine Go.cast (g' := mkF m 0 #[.val (.int p1), .unset, .unset, .unset] []) (by first | (simp [entryFrame, mkF, argsToLocals, Value.category, maxLocals]; done) | rfl) ?_
  refine g_iloadN P0 d0_0 rfl ?_
  refine g_ldc (v := (2147483647 : Int32)) P0 d0_1 (hw _ (List.mem_of_getElem? (i := 0) rfl)) ?_
  refine g_iand (v := (p1 &&& (2147483647 : Int32))) P0 d0_3 rfl ?_
  refine g_bipush (v := (7 : Int32)) P0 d0_4 (by rfl) ?_
  refine g_irem (v := ((p1 &&& (2147483647 : Int32)) % (7 : Int32))) P0 d0_6 (by decide) rfl ?_
  have hi := rem_mask p1 7 (by decide)
  generalize ((p1 &&& (2147483647 : Int32)) % (7 : Int32)) = i at hi ⊢
  rcases cases7 hi with rfl | rfl | rfl | rfl | rfl | rfl | rfl
  · refine g_istoreN P0 d0_7 #[.val (.int p1), .val (.int (0 : Int32)), .unset, .unset] rfl ?_
    refine g_iloadN P0 d0_8 rfl ?_
    refine g_static P0 [(.int (0 : Int32))] (rest := []) d0_9 (hw _ (List.mem_of_getElem? (i := 1) rfl)) (hw _ (List.mem_of_getElem? (i := 2) rfl)) (hw _ (List.mem_of_getElem? (i := 3) rfl)) (hw _ (List.mem_of_getElem? (i := 4) rfl)) (by decide) (rm_pick l Z a0 hw h0 n0 a_SALE a_TRANSFER a_REFINANCE a_FORECLOSURE a_DEED_IN_LIEU a_FHA_ASSIGNMENT a_DEATH (0 : Int32) a_SALE S_SALE S_TRANSFER S_REFINANCE S_FORECLOSURE S_DEED_IN_LIEU S_FHA_ASSIGNMENT S_DEATH (by simp)) pd_0 rfl rfl rfl rfl (by decide) (by decide) (by decide) (by decide) fun v10 T10 h10 P10 q10 => ?_
    obtain ⟨rfl, rfl⟩ := q10
    refine g_astoreN P10 d0_12 rfl #[.val (.int p1), .val (.int (0 : Int32)), .val (.ref a_SALE), .unset] rfl ?_
    refine g_iloadN P10 d0_13 rfl ?_
    refine g_ifYes P10 d0_14 (by decide) 22 (by decide) (by decide) ?_
    refine g_iconst (v := (1 : Int32)) P10 d0_22 (by rfl) ?_
    refine g_goto P10 d0_23 27 (by decide) (by decide) ?_
    refine g_istoreN P10 d0_27 #[.val (.int p1), .val (.int (0 : Int32)), .val (.ref a_SALE), .val (.int (1 : Int32))] rfl ?_
    refine g_aloadN P10 d0_28 rfl rfl ?_
    refine g_virtual P10 a_SALE [] (rest := []) d0_29 (hw _ (List.mem_of_getElem? (i := 8) rfl)) (hw _ (List.mem_of_getElem? (i := 9) rfl)) (hw _ (List.mem_of_getElem? (i := 11) rfl)) (hw _ (List.mem_of_getElem? (i := 10) rfl)) (hw _ (List.mem_of_getElem? (i := 6) rfl)) (hw _ (List.mem_of_getElem? (i := 12) rfl)) (by decide) E_SALE (rm_test l Z a0 hw _ n0 a_SALE a_TRANSFER a_REFINANCE a_FORECLOSURE a_DEED_IN_LIEU a_FHA_ASSIGNMENT a_DEATH a_SALE (1 : Int32) S_SALE S_TRANSFER S_REFINANCE S_FORECLOSURE S_DEED_IN_LIEU S_FHA_ASSIGNMENT S_DEATH ((if_pos (Or.inl rfl)).symm)) pd_1 rfl rfl rfl rfl (by decide) (by decide) (by decide) (by decide) fun v11 T11 h11 P11 q11 => ?_
    obtain ⟨rfl, rfl⟩ := q11
    refine g_iloadN P11 d0_32 rfl ?_
    refine g_icmpNo P11 d0_33 (by decide) ?_
    refine g_iconst (v := (1 : Int32)) P11 d0_36 (by rfl) ?_
    refine g_goto P11 d0_37 41 (by decide) (by decide) ?_
    exact g_retZ P11 d0_41 (by decide) (by decide) (by decide) rfl
  · refine g_istoreN P0 d0_7 #[.val (.int p1), .val (.int (1 : Int32)), .unset, .unset] rfl ?_
    refine g_iloadN P0 d0_8 rfl ?_
    refine g_static P0 [(.int (1 : Int32))] (rest := []) d0_9 (hw _ (List.mem_of_getElem? (i := 1) rfl)) (hw _ (List.mem_of_getElem? (i := 2) rfl)) (hw _ (List.mem_of_getElem? (i := 3) rfl)) (hw _ (List.mem_of_getElem? (i := 4) rfl)) (by decide) (rm_pick l Z a0 hw h0 n0 a_SALE a_TRANSFER a_REFINANCE a_FORECLOSURE a_DEED_IN_LIEU a_FHA_ASSIGNMENT a_DEATH (1 : Int32) a_TRANSFER S_SALE S_TRANSFER S_REFINANCE S_FORECLOSURE S_DEED_IN_LIEU S_FHA_ASSIGNMENT S_DEATH (by simp)) pd_0 rfl rfl rfl rfl (by decide) (by decide) (by decide) (by decide) fun v12 T12 h12 P12 q12 => ?_
    obtain ⟨rfl, rfl⟩ := q12
    refine g_astoreN P12 d0_12 rfl #[.val (.int p1), .val (.int (1 : Int32)), .val (.ref a_TRANSFER), .unset] rfl ?_
    refine g_iloadN P12 d0_13 rfl ?_
    refine g_ifNo P12 d0_14 (by decide) ?_
    refine g_iloadN P12 d0_17 rfl ?_
    refine g_iconst (v := (1 : Int32)) P12 d0_18 (by rfl) ?_
    refine g_icmpNo P12 d0_19 (by decide) ?_
    refine g_iconst (v := (1 : Int32)) P12 d0_22 (by rfl) ?_
    refine g_goto P12 d0_23 27 (by decide) (by decide) ?_
    refine g_istoreN P12 d0_27 #[.val (.int p1), .val (.int (1 : Int32)), .val (.ref a_TRANSFER), .val (.int (1 : Int32))] rfl ?_
    refine g_aloadN P12 d0_28 rfl rfl ?_
    refine g_virtual P12 a_TRANSFER [] (rest := []) d0_29 (hw _ (List.mem_of_getElem? (i := 8) rfl)) (hw _ (List.mem_of_getElem? (i := 9) rfl)) (hw _ (List.mem_of_getElem? (i := 11) rfl)) (hw _ (List.mem_of_getElem? (i := 10) rfl)) (hw _ (List.mem_of_getElem? (i := 6) rfl)) (hw _ (List.mem_of_getElem? (i := 12) rfl)) (by decide) E_TRANSFER (rm_test l Z a0 hw _ n0 a_SALE a_TRANSFER a_REFINANCE a_FORECLOSURE a_DEED_IN_LIEU a_FHA_ASSIGNMENT a_DEATH a_TRANSFER (1 : Int32) S_SALE S_TRANSFER S_REFINANCE S_FORECLOSURE S_DEED_IN_LIEU S_FHA_ASSIGNMENT S_DEATH ((if_pos (Or.inr rfl)).symm)) pd_1 rfl rfl rfl rfl (by decide) (by decide) (by decide) (by decide) fun v13 T13 h13 P13 q13 => ?_
    obtain ⟨rfl, rfl⟩ := q13
    refine g_iloadN P13 d0_32 rfl ?_
    refine g_icmpNo P13 d0_33 (by decide) ?_
    refine g_iconst (v := (1 : Int32)) P13 d0_36 (by rfl) ?_
    refine g_goto P13 d0_37 41 (by decide) (by decide) ?_
    exact g_retZ P13 d0_41 (by decide) (by decide) (by decide) rfl
  · refine g_istoreN P0 d0_7 #[.val (.int p1), .val (.int (2 : Int32)), .unset, .unset] rfl ?_
    refine g_iloadN P0 d0_8 rfl ?_
    refine g_static P0 [(.int (2 : Int32))] (rest := []) d0_9 (hw _ (List.mem_of_getElem? (i := 1) rfl)) (hw _ (List.mem_of_getElem? (i := 2) rfl)) (hw _ (List.mem_of_getElem? (i := 3) rfl)) (hw _ (List.mem_of_getElem? (i := 4) rfl)) (by decide) (rm_pick l Z a0 hw h0 n0 a_SALE a_TRANSFER a_REFINANCE a_FORECLOSURE a_DEED_IN_LIEU a_FHA_ASSIGNMENT a_DEATH (2 : Int32) a_REFINANCE S_SALE S_TRANSFER S_REFINANCE S_FORECLOSURE S_DEED_IN_LIEU S_FHA_ASSIGNMENT S_DEATH (by simp)) pd_0 rfl rfl rfl rfl (by decide) (by decide) (by decide) (by decide) fun v14 T14 h14 P14 q14 => ?_
    obtain ⟨rfl, rfl⟩ := q14
    refine g_astoreN P14 d0_12 rfl #[.val (.int p1), .val (.int (2 : Int32)), .val (.ref a_REFINANCE), .unset] rfl ?_
    refine g_iloadN P14 d0_13 rfl ?_
    refine g_ifNo P14 d0_14 (by decide) ?_
    refine g_iloadN P14 d0_17 rfl ?_
    refine g_iconst (v := (1 : Int32)) P14 d0_18 (by rfl) ?_
    refine g_icmpYes P14 d0_19 (by decide) 26 (by decide) (by decide) ?_
    refine g_iconst (v := (0 : Int32)) P14 d0_26 (by rfl) ?_
    refine g_istoreN P14 d0_27 #[.val (.int p1), .val (.int (2 : Int32)), .val (.ref a_REFINANCE), .val (.int (0 : Int32))] rfl ?_
    refine g_aloadN P14 d0_28 rfl rfl ?_
    refine g_virtual P14 a_REFINANCE [] (rest := []) d0_29 (hw _ (List.mem_of_getElem? (i := 8) rfl)) (hw _ (List.mem_of_getElem? (i := 9) rfl)) (hw _ (List.mem_of_getElem? (i := 11) rfl)) (hw _ (List.mem_of_getElem? (i := 10) rfl)) (hw _ (List.mem_of_getElem? (i := 6) rfl)) (hw _ (List.mem_of_getElem? (i := 12) rfl)) (by decide) E_REFINANCE (rm_test l Z a0 hw _ n0 a_SALE a_TRANSFER a_REFINANCE a_FORECLOSURE a_DEED_IN_LIEU a_FHA_ASSIGNMENT a_DEATH a_REFINANCE (0 : Int32) S_SALE S_TRANSFER S_REFINANCE S_FORECLOSURE S_DEED_IN_LIEU S_FHA_ASSIGNMENT S_DEATH ((if_neg (not_or.mpr ⟨F_REFINANCE.ne F_SALE (by decide), F_REFINANCE.ne F_TRANSFER (by decide)⟩)).symm)) pd_1 rfl rfl rfl rfl (by decide) (by decide) (by decide) (by decide) fun v15 T15 h15 P15 q15 => ?_
    obtain ⟨rfl, rfl⟩ := q15
    refine g_iloadN P15 d0_32 rfl ?_
    refine g_icmpNo P15 d0_33 (by decide) ?_
    refine g_iconst (v := (1 : Int32)) P15 d0_36 (by rfl) ?_
    refine g_goto P15 d0_37 41 (by decide) (by decide) ?_
    exact g_retZ P15 d0_41 (by decide) (by decide) (by decide) rfl
  · refine g_istoreN P0 d0_7 #[.val (.int p1), .val (.int (3 : Int32)), .unset, .unset] rfl ?_
    refine g_iloadN P0 d0_8 rfl ?_
    refine g_static P0 [(.int (3 : Int32))] (rest := []) d0_9 (hw _ (List.mem_of_getElem? (i := 1) rfl)) (hw _ (List.mem_of_getElem? (i := 2) rfl)) (hw _ (List.mem_of_getElem? (i := 3) rfl)) (hw _ (List.mem_of_getElem? (i := 4) rfl)) (by decide) (rm_pick l Z a0 hw h0 n0 a_SALE a_TRANSFER a_REFINANCE a_FORECLOSURE a_DEED_IN_LIEU a_FHA_ASSIGNMENT a_DEATH (3 : Int32) a_FORECLOSURE S_SALE S_TRANSFER S_REFINANCE S_FORECLOSURE S_DEED_IN_LIEU S_FHA_ASSIGNMENT S_DEATH (by simp)) pd_0 rfl rfl rfl rfl (by decide) (by decide) (by decide) (by decide) fun v16 T16 h16 P16 q16 => ?_
    obtain ⟨rfl, rfl⟩ := q16
    refine g_astoreN P16 d0_12 rfl #[.val (.int p1), .val (.int (3 : Int32)), .val (.ref a_FORECLOSURE), .unset] rfl ?_
    refine g_iloadN P16 d0_13 rfl ?_
    refine g_ifNo P16 d0_14 (by decide) ?_
    refine g_iloadN P16 d0_17 rfl ?_
    refine g_iconst (v := (1 : Int32)) P16 d0_18 (by rfl) ?_
    refine g_icmpYes P16 d0_19 (by decide) 26 (by decide) (by decide) ?_
    refine g_iconst (v := (0 : Int32)) P16 d0_26 (by rfl) ?_
    refine g_istoreN P16 d0_27 #[.val (.int p1), .val (.int (3 : Int32)), .val (.ref a_FORECLOSURE), .val (.int (0 : Int32))] rfl ?_
    refine g_aloadN P16 d0_28 rfl rfl ?_
    refine g_virtual P16 a_FORECLOSURE [] (rest := []) d0_29 (hw _ (List.mem_of_getElem? (i := 8) rfl)) (hw _ (List.mem_of_getElem? (i := 9) rfl)) (hw _ (List.mem_of_getElem? (i := 11) rfl)) (hw _ (List.mem_of_getElem? (i := 10) rfl)) (hw _ (List.mem_of_getElem? (i := 6) rfl)) (hw _ (List.mem_of_getElem? (i := 12) rfl)) (by decide) E_FORECLOSURE (rm_test l Z a0 hw _ n0 a_SALE a_TRANSFER a_REFINANCE a_FORECLOSURE a_DEED_IN_LIEU a_FHA_ASSIGNMENT a_DEATH a_FORECLOSURE (0 : Int32) S_SALE S_TRANSFER S_REFINANCE S_FORECLOSURE S_DEED_IN_LIEU S_FHA_ASSIGNMENT S_DEATH ((if_neg (not_or.mpr ⟨F_FORECLOSURE.ne F_SALE (by decide), F_FORECLOSURE.ne F_TRANSFER (by decide)⟩)).symm)) pd_1 rfl rfl rfl rfl (by decide) (by decide) (by decide) (by decide) fun v17 T17 h17 P17 q17 => ?_
    obtain ⟨rfl, rfl⟩ := q17
    refine g_iloadN P17 d0_32 rfl ?_
    refine g_icmpNo P17 d0_33 (by decide) ?_
    refine g_iconst (v := (1 : Int32)) P17 d0_36 (by rfl) ?_
    refine g_goto P17 d0_37 41 (by decide) (by decide) ?_
    exact g_retZ P17 d0_41 (by decide) (by decide) (by decide) rfl
  · refine g_istoreN P0 d0_7 #[.val (.int p1), .val (.int (4 : Int32)), .unset, .unset] rfl ?_
    refine g_iloadN P0 d0_8 rfl ?_
    refine g_static P0 [(.int (4 : Int32))] (rest := []) d0_9 (hw _ (List.mem_of_getElem? (i := 1) rfl)) (hw _ (List.mem_of_getElem? (i := 2) rfl)) (hw _ (List.mem_of_getElem? (i := 3) rfl)) (hw _ (List.mem_of_getElem? (i := 4) rfl)) (by decide) (rm_pick l Z a0 hw h0 n0 a_SALE a_TRANSFER a_REFINANCE a_FORECLOSURE a_DEED_IN_LIEU a_FHA_ASSIGNMENT a_DEATH (4 : Int32) a_DEED_IN_LIEU S_SALE S_TRANSFER S_REFINANCE S_FORECLOSURE S_DEED_IN_LIEU S_FHA_ASSIGNMENT S_DEATH (by simp)) pd_0 rfl rfl rfl rfl (by decide) (by decide) (by decide) (by decide) fun v18 T18 h18 P18 q18 => ?_
    obtain ⟨rfl, rfl⟩ := q18
    refine g_astoreN P18 d0_12 rfl #[.val (.int p1), .val (.int (4 : Int32)), .val (.ref a_DEED_IN_LIEU), .unset] rfl ?_
    refine g_iloadN P18 d0_13 rfl ?_
    refine g_ifNo P18 d0_14 (by decide) ?_
    refine g_iloadN P18 d0_17 rfl ?_
    refine g_iconst (v := (1 : Int32)) P18 d0_18 (by rfl) ?_
    refine g_icmpYes P18 d0_19 (by decide) 26 (by decide) (by decide) ?_
    refine g_iconst (v := (0 : Int32)) P18 d0_26 (by rfl) ?_
    refine g_istoreN P18 d0_27 #[.val (.int p1), .val (.int (4 : Int32)), .val (.ref a_DEED_IN_LIEU), .val (.int (0 : Int32))] rfl ?_
    refine g_aloadN P18 d0_28 rfl rfl ?_
    refine g_virtual P18 a_DEED_IN_LIEU [] (rest := []) d0_29 (hw _ (List.mem_of_getElem? (i := 8) rfl)) (hw _ (List.mem_of_getElem? (i := 9) rfl)) (hw _ (List.mem_of_getElem? (i := 11) rfl)) (hw _ (List.mem_of_getElem? (i := 10) rfl)) (hw _ (List.mem_of_getElem? (i := 6) rfl)) (hw _ (List.mem_of_getElem? (i := 12) rfl)) (by decide) E_DEED_IN_LIEU (rm_test l Z a0 hw _ n0 a_SALE a_TRANSFER a_REFINANCE a_FORECLOSURE a_DEED_IN_LIEU a_FHA_ASSIGNMENT a_DEATH a_DEED_IN_LIEU (0 : Int32) S_SALE S_TRANSFER S_REFINANCE S_FORECLOSURE S_DEED_IN_LIEU S_FHA_ASSIGNMENT S_DEATH ((if_neg (not_or.mpr ⟨F_DEED_IN_LIEU.ne F_SALE (by decide), F_DEED_IN_LIEU.ne F_TRANSFER (by decide)⟩)).symm)) pd_1 rfl rfl rfl rfl (by decide) (by decide) (by decide) (by decide) fun v19 T19 h19 P19 q19 => ?_
    obtain ⟨rfl, rfl⟩ := q19
    refine g_iloadN P19 d0_32 rfl ?_
    refine g_icmpNo P19 d0_33 (by decide) ?_
    refine g_iconst (v := (1 : Int32)) P19 d0_36 (by rfl) ?_
    refine g_goto P19 d0_37 41 (by decide) (by decide) ?_
    exact g_retZ P19 d0_41 (by decide) (by decide) (by decide) rfl
  · refine g_istoreN P0 d0_7 #[.val (.int p1), .val (.int (5 : Int32)), .unset, .unset] rfl ?_
    refine g_iloadN P0 d0_8 rfl ?_
    refine g_static P0 [(.int (5 : Int32))] (rest := []) d0_9 (hw _ (List.mem_of_getElem? (i := 1) rfl)) (hw _ (List.mem_of_getElem? (i := 2) rfl)) (hw _ (List.mem_of_getElem? (i := 3) rfl)) (hw _ (List.mem_of_getElem? (i := 4) rfl)) (by decide) (rm_pick l Z a0 hw h0 n0 a_SALE a_TRANSFER a_REFINANCE a_FORECLOSURE a_DEED_IN_LIEU a_FHA_ASSIGNMENT a_DEATH (5 : Int32) a_FHA_ASSIGNMENT S_SALE S_TRANSFER S_REFINANCE S_FORECLOSURE S_DEED_IN_LIEU S_FHA_ASSIGNMENT S_DEATH (by simp)) pd_0 rfl rfl rfl rfl (by decide) (by decide) (by decide) (by decide) fun v20 T20 h20 P20 q20 => ?_
    obtain ⟨rfl, rfl⟩ := q20
    refine g_astoreN P20 d0_12 rfl #[.val (.int p1), .val (.int (5 : Int32)), .val (.ref a_FHA_ASSIGNMENT), .unset] rfl ?_
    refine g_iloadN P20 d0_13 rfl ?_
    refine g_ifNo P20 d0_14 (by decide) ?_
    refine g_iloadN P20 d0_17 rfl ?_
    refine g_iconst (v := (1 : Int32)) P20 d0_18 (by rfl) ?_
    refine g_icmpYes P20 d0_19 (by decide) 26 (by decide) (by decide) ?_
    refine g_iconst (v := (0 : Int32)) P20 d0_26 (by rfl) ?_
    refine g_istoreN P20 d0_27 #[.val (.int p1), .val (.int (5 : Int32)), .val (.ref a_FHA_ASSIGNMENT), .val (.int (0 : Int32))] rfl ?_
    refine g_aloadN P20 d0_28 rfl rfl ?_
    refine g_virtual P20 a_FHA_ASSIGNMENT [] (rest := []) d0_29 (hw _ (List.mem_of_getElem? (i := 8) rfl)) (hw _ (List.mem_of_getElem? (i := 9) rfl)) (hw _ (List.mem_of_getElem? (i := 11) rfl)) (hw _ (List.mem_of_getElem? (i := 10) rfl)) (hw _ (List.mem_of_getElem? (i := 6) rfl)) (hw _ (List.mem_of_getElem? (i := 12) rfl)) (by decide) E_FHA_ASSIGNMENT (rm_test l Z a0 hw _ n0 a_SALE a_TRANSFER a_REFINANCE a_FORECLOSURE a_DEED_IN_LIEU a_FHA_ASSIGNMENT a_DEATH a_FHA_ASSIGNMENT (0 : Int32) S_SALE S_TRANSFER S_REFINANCE S_FORECLOSURE S_DEED_IN_LIEU S_FHA_ASSIGNMENT S_DEATH ((if_neg (not_or.mpr ⟨F_FHA_ASSIGNMENT.ne F_SALE (by decide), F_FHA_ASSIGNMENT.ne F_TRANSFER (by decide)⟩)).symm)) pd_1 rfl rfl rfl rfl (by decide) (by decide) (by decide) (by decide) fun v21 T21 h21 P21 q21 => ?_
    obtain ⟨rfl, rfl⟩ := q21
    refine g_iloadN P21 d0_32 rfl ?_
    refine g_icmpNo P21 d0_33 (by decide) ?_
    refine g_iconst (v := (1 : Int32)) P21 d0_36 (by rfl) ?_
    refine g_goto P21 d0_37 41 (by decide) (by decide) ?_
    exact g_retZ P21 d0_41 (by decide) (by decide) (by decide) rfl
  · refine g_istoreN P0 d0_7 #[.val (.int p1), .val (.int (6 : Int32)), .unset, .unset] rfl ?_
    refine g_iloadN P0 d0_8 rfl ?_
    refine g_static P0 [(.int (6 : Int32))] (rest := []) d0_9 (hw _ (List.mem_of_getElem? (i := 1) rfl)) (hw _ (List.mem_of_getElem? (i := 2) rfl)) (hw _ (List.mem_of_getElem? (i := 3) rfl)) (hw _ (List.mem_of_getElem? (i := 4) rfl)) (by decide) (rm_pick l Z a0 hw h0 n0 a_SALE a_TRANSFER a_REFINANCE a_FORECLOSURE a_DEED_IN_LIEU a_FHA_ASSIGNMENT a_DEATH (6 : Int32) a_DEATH S_SALE S_TRANSFER S_REFINANCE S_FORECLOSURE S_DEED_IN_LIEU S_FHA_ASSIGNMENT S_DEATH (by simp)) pd_0 rfl rfl rfl rfl (by decide) (by decide) (by decide) (by decide) fun v22 T22 h22 P22 q22 => ?_
    obtain ⟨rfl, rfl⟩ := q22
    refine g_astoreN P22 d0_12 rfl #[.val (.int p1), .val (.int (6 : Int32)), .val (.ref a_DEATH), .unset] rfl ?_
    refine g_iloadN P22 d0_13 rfl ?_
    refine g_ifNo P22 d0_14 (by decide) ?_
    refine g_iloadN P22 d0_17 rfl ?_
    refine g_iconst (v := (1 : Int32)) P22 d0_18 (by rfl) ?_
    refine g_icmpYes P22 d0_19 (by decide) 26 (by decide) (by decide) ?_
    refine g_iconst (v := (0 : Int32)) P22 d0_26 (by rfl) ?_
    refine g_istoreN P22 d0_27 #[.val (.int p1), .val (.int (6 : Int32)), .val (.ref a_DEATH), .val (.int (0 : Int32))] rfl ?_
    refine g_aloadN P22 d0_28 rfl rfl ?_
    refine g_virtual P22 a_DEATH [] (rest := []) d0_29 (hw _ (List.mem_of_getElem? (i := 8) rfl)) (hw _ (List.mem_of_getElem? (i := 9) rfl)) (hw _ (List.mem_of_getElem? (i := 11) rfl)) (hw _ (List.mem_of_getElem? (i := 10) rfl)) (hw _ (List.mem_of_getElem? (i := 6) rfl)) (hw _ (List.mem_of_getElem? (i := 12) rfl)) (by decide) E_DEATH (rm_test l Z a0 hw _ n0 a_SALE a_TRANSFER a_REFINANCE a_FORECLOSURE a_DEED_IN_LIEU a_FHA_ASSIGNMENT a_DEATH a_DEATH (0 : Int32) S_SALE S_TRANSFER S_REFINANCE S_FORECLOSURE S_DEED_IN_LIEU S_FHA_ASSIGNMENT S_DEATH ((if_neg (not_or.mpr ⟨F_DEATH.ne F_SALE (by decide), F_DEATH.ne F_TRANSFER (by decide)⟩)).symm)) pd_1 rfl rfl rfl rfl (by decide) (by decide) (by decide) (by decide) fun v23 T23 h23 P23 q23 => ?_
    obtain ⟨rfl, rfl⟩ := q23
    refine g_iloadN P23 d0_32 rfl ?_
    refine g_icmpNo P23 d0_33 (by decide) ?_
    refine g_iconst (v := (1 : Int32)) P23 d0_36 (by rfl) ?_
    refine g_goto P23 d0_37 41 (by decide) (by decide) ?_
    exact g_retZ P23 d0_41 (by decide) (by decide) (by decide) rfl
set_option maxRecDepth 65536 in
set_option maxHeartbeats 40000000 in
theorem comes_1 {Post : Tables → Env → Array Value → State → Outcome → State → Prop} (hpost : ∀ tb e args s v u, (limb_1_1.after args s (.returned v) u = true ∧ limb_1_2.after args s (.returned v) u = true ∧ True) → FrameEnd s (.returned v) u (Jvm.fieldLocs frame_1_writes args s ++ Jvm.arrayLocs frame_1_arrays args s ++ Jvm.staticLocs frame_1_statics s) 0 0 → Post tb e args s (.returned v) u) :
    ArmFor flags0 classFile x code maxLocals ret World_1 tables_1 room_1 Calls_1 rest_1 Pre_1 Post := by
  intro l hfl _ _ p e ha hc hk s m args below hf hA hF happ hP
  obtain ⟨hcalls, hrest, hpre⟩ := hP
  obtain ⟨-, -, -, hnamed, -, -, -, hat⟩ := (Spec.applies_iff hf).mp happ
  obtain ⟨hg, hn⟩ := and_e (Cond.before_iff.mp (show (Jvm.Cond.and given_1 narrow_1).before args s = true from hpre))
  obtain ⟨g0, g1⟩ := and_e hg
  obtain ⟨w0, rfl⟩ : ∃ w0 : Value, args = #[w0] := by
    have hs : args.size = 1 := by simpa [Cond.value, given_1] using g0
    obtain ⟨L⟩ := args
    match L, hs with
    | [w0], _ => exact ⟨w0, rfl⟩
  have hw := fun d (hd : d ∈ tables_1) => atoms_spec (ws := Jvm.Cond.code x code maxLocals ret :: tables_1) hat d (List.mem_cons_of_mem _ hd)
  have hfit : Fit s := fun {y c} hc i hi => by
    obtain ⟨ha, rfl⟩ := Array.getElem?_eq_some_iff.mp hc
    have q := List.all_eq_true.mp ((Array.all_eq_true_iff_forall_mem.mp hF) _ (Array.getElem_mem ha)) i (List.mem_range.mpr hi)
    simpa [Array.getElem?_eq_getElem hi] using q
  obtain ⟨i0, e0⟩ := is_v g1
  obtain rfl : w0 = (.int i0) := Option.some.inj e0
  obtain ⟨k0, r0⟩ := and_e hn
  obtain ⟨k1, r1⟩ := and_e r0
  obtain ⟨k2, r2⟩ := and_e r1
  obtain ⟨k3, r3⟩ := and_e r2
  obtain ⟨k4, r4⟩ := and_e r3
  obtain ⟨k5, r5⟩ := and_e r4
  obtain ⟨k6, r6⟩ := and_e r5
  obtain ⟨k7, r7⟩ := and_e r6
  obtain ⟨k8, r8⟩ := and_e r7
  obtain ⟨k9, r9⟩ := and_e r8
  obtain ⟨k10, r10⟩ := and_e r9
  obtain ⟨k11, r11⟩ := and_e r10
  obtain ⟨k12, k13⟩ := and_e r11
  obtain ⟨a_SALE, ev_SALE⟩ := exa_v k0
  have S_SALE : Sta s s.heap "com/example/lintel/lintel/model/event/EventKind" "SALE" "Lcom/example/lintel/lintel/model/event/EventKind;" (.ref a_SALE) := Sta.start ev_SALE (Or.inr ⟨(hw _ (List.mem_of_getElem? (i := 6) rfl)), (hw _ (List.mem_of_getElem? (i := 7) rfl))⟩)
  have E_SALE : Exa s s.heap a_SALE "com/example/lintel/lintel/model/event/EventKind" := Exa.start ev_SALE k0
  obtain ⟨a_FORECLOSURE, ev_FORECLOSURE⟩ := exa_v k1
  have S_FORECLOSURE : Sta s s.heap "com/example/lintel/lintel/model/event/EventKind" "FORECLOSURE" "Lcom/example/lintel/lintel/model/event/EventKind;" (.ref a_FORECLOSURE) := Sta.start ev_FORECLOSURE (Or.inr ⟨(hw _ (List.mem_of_getElem? (i := 6) rfl)), (hw _ (List.mem_of_getElem? (i := 15) rfl))⟩)
  have E_FORECLOSURE : Exa s s.heap a_FORECLOSURE "com/example/lintel/lintel/model/event/EventKind" := Exa.start ev_FORECLOSURE k1
  obtain ⟨a_TRANSFER, ev_TRANSFER⟩ := exa_v k4
  have S_TRANSFER : Sta s s.heap "com/example/lintel/lintel/model/event/EventKind" "TRANSFER" "Lcom/example/lintel/lintel/model/event/EventKind;" (.ref a_TRANSFER) := Sta.start ev_TRANSFER (Or.inr ⟨(hw _ (List.mem_of_getElem? (i := 6) rfl)), (hw _ (List.mem_of_getElem? (i := 17) rfl))⟩)
  have E_TRANSFER : Exa s s.heap a_TRANSFER "com/example/lintel/lintel/model/event/EventKind" := Exa.start ev_TRANSFER k4
  obtain ⟨a_FHA_ASSIGNMENT, ev_FHA_ASSIGNMENT⟩ := exa_v k6
  have S_FHA_ASSIGNMENT : Sta s s.heap "com/example/lintel/lintel/model/event/EventKind" "FHA_ASSIGNMENT" "Lcom/example/lintel/lintel/model/event/EventKind;" (.ref a_FHA_ASSIGNMENT) := Sta.start ev_FHA_ASSIGNMENT (Or.inr ⟨(hw _ (List.mem_of_getElem? (i := 6) rfl)), (hw _ (List.mem_of_getElem? (i := 19) rfl))⟩)
  have E_FHA_ASSIGNMENT : Exa s s.heap a_FHA_ASSIGNMENT "com/example/lintel/lintel/model/event/EventKind" := Exa.start ev_FHA_ASSIGNMENT k6
  obtain ⟨a_DEATH, ev_DEATH⟩ := exa_v k8
  have S_DEATH : Sta s s.heap "com/example/lintel/lintel/model/event/EventKind" "DEATH" "Lcom/example/lintel/lintel/model/event/EventKind;" (.ref a_DEATH) := Sta.start ev_DEATH (Or.inr ⟨(hw _ (List.mem_of_getElem? (i := 6) rfl)), (hw _ (List.mem_of_getElem? (i := 21) rfl))⟩)
  have E_DEATH : Exa s s.heap a_DEATH "com/example/lintel/lintel/model/event/EventKind" := Exa.start ev_DEATH k8
  obtain ⟨a_DEED_IN_LIEU, ev_DEED_IN_LIEU⟩ := exa_v k10
  have S_DEED_IN_LIEU : Sta s s.heap "com/example/lintel/lintel/model/event/EventKind" "DEED_IN_LIEU" "Lcom/example/lintel/lintel/model/event/EventKind;" (.ref a_DEED_IN_LIEU) := Sta.start ev_DEED_IN_LIEU (Or.inr ⟨(hw _ (List.mem_of_getElem? (i := 6) rfl)), (hw _ (List.mem_of_getElem? (i := 23) rfl))⟩)
  have E_DEED_IN_LIEU : Exa s s.heap a_DEED_IN_LIEU "com/example/lintel/lintel/model/event/EventKind" := Exa.start ev_DEED_IN_LIEU k10
  obtain ⟨a_REFINANCE, ev_REFINANCE⟩ := exa_v k12
  have S_REFINANCE : Sta s s.heap "com/example/lintel/lintel/model/event/EventKind" "REFINANCE" "Lcom/example/lintel/lintel/model/event/EventKind;" (.ref a_REFINANCE) := Sta.start ev_REFINANCE (Or.inr ⟨(hw _ (List.mem_of_getElem? (i := 6) rfl)), (hw _ (List.mem_of_getElem? (i := 25) rfl))⟩)
  have E_REFINANCE : Exa s s.heap a_REFINANCE "com/example/lintel/lintel/model/event/EventKind" := Exa.start ev_REFINANCE k12
  have F_FORECLOSURE : Fld s s.heap a_FORECLOSURE "java/lang/Enum" "ordinal" "I" (.int (3 : Int32)) := Fld.start ((fld_at ev_FORECLOSURE).symm.trans (eqI k2))
  have F_SALE : Fld s s.heap a_SALE "java/lang/Enum" "ordinal" "I" (.int (0 : Int32)) := Fld.start ((fld_at ev_SALE).symm.trans (eqI k3))
  have F_TRANSFER : Fld s s.heap a_TRANSFER "java/lang/Enum" "ordinal" "I" (.int (1 : Int32)) := Fld.start ((fld_at ev_TRANSFER).symm.trans (eqI k5))
  have F_FHA_ASSIGNMENT : Fld s s.heap a_FHA_ASSIGNMENT "java/lang/Enum" "ordinal" "I" (.int (5 : Int32)) := Fld.start ((fld_at ev_FHA_ASSIGNMENT).symm.trans (eqI k7))
  have F_DEATH : Fld s s.heap a_DEATH "java/lang/Enum" "ordinal" "I" (.int (6 : Int32)) := Fld.start ((fld_at ev_DEATH).symm.trans (eqI k9))
  have F_DEED_IN_LIEU : Fld s s.heap a_DEED_IN_LIEU "java/lang/Enum" "ordinal" "I" (.int (4 : Int32)) := Fld.start ((fld_at ev_DEED_IN_LIEU).symm.trans (eqI k11))
  have F_REFINANCE : Fld s s.heap a_REFINANCE "java/lang/Enum" "ordinal" "I" (.int (2 : Int32)) := Fld.start ((fld_at ev_REFINANCE).symm.trans (eqI k13))
  obtain ⟨n, o, h1, h2, h3, _, L, rfl, ⟨N, rfl⟩, hq⟩ := (rm_law l s _ hw s.heap s.heap.size a_SALE a_TRANSFER a_REFINANCE a_FORECLOSURE a_DEED_IN_LIEU a_FHA_ASSIGNMENT a_DEATH i0 S_SALE S_TRANSFER S_REFINANCE S_FORECLOSURE S_DEED_IN_LIEU S_FHA_ASSIGNMENT S_DEATH E_SALE E_TRANSFER E_REFINANCE E_FORECLOSURE E_DEED_IN_LIEU E_FHA_ASSIGNMENT E_DEATH F_SALE F_TRANSFER F_REFINANCE F_FORECLOSURE F_DEED_IN_LIEU F_FHA_ASSIGNMENT F_DEATH) tables_1 p e ha hc hk s m _ below hf ((Spec.applies_iff_loose hf).mp happ).1 ⟨rfl, State.Warmed39.refl s, rfl⟩ trivial
  refine ⟨n, _, h1, h2, h3, hpost _ _ _ _ _ _ ⟨Cond.after_iff.mpr rfl, Cond.after_iff.mpr (eq_i res_at (Term.int_eval (1)) rfl), trivial⟩ ⟨hq.1, hq.2.1, (hq.2.2.sift fun y hy => Or.inr (N y hy)).mono (by decide) (by decide)⟩⟩
theorem main_1_1 : Claimed_1_1 := comes_1 fun _ _ _ _ _ _ h hF => ⟨h.1, hF⟩
theorem main_1_2 : Claimed_1_2 := comes_1 fun _ _ _ _ _ _ h hF => ⟨h.2.1, hF⟩
end Jvm.Pilot.@@N@@
namespace Jvm.Pilot.@@N@@
open Jvm Jvm.ClassFile Sem Op Lib Jvm.Free Jvm.Stand Jvm.Pilot.@@N@@.Jvm.D
/-! MADE BY PROGRAM (witnessworld.py) out of the Statement's table words and the real class files: 12 classes; the members and pool entries that the words name. The judged class is class 1, her method 2. -/
namespace start1
open Jvm.ClassFile
def u (s : String) : CpInfo := .utf8 (stringToUtf16 s)
/-- a pool by its gaps: so many unusable entries, then the entry; so many at the end -/
def gap : Nat → List CpInfo → List CpInfo
  | 0, r => r
  | n + 1, r => .unusable :: gap n r
def poolList (es : List (Nat × CpInfo)) (last : Nat) : List CpInfo := es.foldr (fun e r => gap e.1 (e.2 :: r)) (gap last [])
def pool (es : List (Nat × CpInfo)) (last : Nat) : Array CpInfo := ⟨poolList es last⟩
def fileOf (pool : Array CpInfo) (this : Nat) (attrs : Array Attribute := #[]) (ms : Array MethodInfo := #[]) (fl : Nat := 33) (sup : Nat := 0) (ifs : Array Nat := #[]) (fds : Array FieldInfo := #[]) : ClassFile where
  minorVersion := 0
  majorVersion := 65
  constantPool := pool
  accessFlags := fl
  thisClass := this
  superClass := sup
  interfaces := ifs
  fields := fds
  methods := ms
  attributes := attrs
def plain (name : String) (sup : Option ClassId) : Class where
  name := name
  kind := .ordinary
  loader := none
  accessFlags := 33
  super := sup
  interfaces := #[]
  cf := none
  fields := #[]
  methods := #[]
  instanceTypes := #[]
  staticTypes := #[]
  resolved := #[]
  callSites := []
  init := .initialized
  statics := none
  mirror := none

def pool0 : Array CpInfo := pool [(5, u "<init>"), (0, u "()V"), (1, .class_ 10), (1, u "java/lang/Object")] 113

def k0m0 : Method := { name := "<init>", desc := "()V", sig := { parameters := [], returnType := none }, accessFlags := 1, code := none }
/-- java/lang/Object -/
def k0 : Class := { plain "java/lang/Object" none with
  accessFlags := 33
  interfaces := #[]
  cf := some (fileOf pool0 8 #[] #[{ accessFlags := 1, nameIndex := 5, descriptorIndex := 6, attributes := #[] }] 33 0 #[] #[])
  fields := #[]
  methods := #[k0m0]
  instanceTypes := #[]
  staticTypes := #[]
  resolved := Array.replicate 124 none
  statics := none }

def pool1 : Array CpInfo := pool [(2, .class_ 4), (1, u "java/lang/Object"), (0, u "<init>"), (0, u "()V"), (0, .fieldref 8 9), (0, .class_ 10), (0, .nameAndType 11 12), (0, u "com/example/lintel/lintel/model/event/EventKind"), (0, u "SALE"), (0, u "Lcom/example/lintel/lintel/model/event/EventKind;"), (0, .fieldref 8 14), (0, .nameAndType 15 12), (0, u "TRANSFER"), (0, .fieldref 8 17), (0, .nameAndType 18 12), (0, u "REFINANCE"), (0, .fieldref 8 20), (0, .nameAndType 21 12), (0, u "FORECLOSURE"), (0, .fieldref 8 23), (0, .nameAndType 24 12), (0, u "DEED_IN_LIEU"), (0, .fieldref 8 26), (0, .nameAndType 27 12), (0, u "FHA_ASSIGNMENT"), (0, .fieldref 8 29), (0, .nameAndType 30 12), (0, u "DEATH"), (0, .integer 2147483647), (0, .methodref 33 34), (0, .class_ 35), (0, .nameAndType 36 37), (0, u "com/example/lintel/lintel/model/event/EventKindIsSaleOrTransferPinLaw"), (0, u "pick"), (0, u "(I)Lcom/example/lintel/lintel/model/event/EventKind;"), (0, .methodref 8 39), (0, .nameAndType 40 41), (0, u "isSaleOrTransfer"), (0, u "()Z"), (3, u "law"), (0, u "(I)Z")] 2

def k1m0 : Method := { name := "<init>", desc := "()V", sig := { parameters := [], returnType := none }, accessFlags := 2, code := none }
def k1c1 : Code := { maxStack := 2, maxLocals := 1, code := method_2_code, exceptionTable := #[], attributes := #[] }
def k1m1 : Method := { name := "pick", desc := "(I)Lcom/example/lintel/lintel/model/event/EventKind;", sig := { parameters := [.int], returnType := some (.object "com/example/lintel/lintel/model/event/EventKind") }, accessFlags := 10, code := some k1c1 }
def k1c2 : Code := { maxStack := 2, maxLocals := 4, code := code, exceptionTable := #[], attributes := #[] }
def k1m2 : Method := { name := "law", desc := "(I)Z", sig := { parameters := [.int], returnType := some .boolean }, accessFlags := 9, code := some k1c2 }
/-- com/example/lintel/lintel/model/event/EventKindIsSaleOrTransferPinLaw -/
def k1 : Class := { plain "com/example/lintel/lintel/model/event/EventKindIsSaleOrTransferPinLaw" (some 0) with
  accessFlags := 49
  interfaces := #[]
  cf := some (fileOf pool1 33 #[] #[{ accessFlags := 2, nameIndex := 5, descriptorIndex := 6, attributes := #[] }, { accessFlags := 10, nameIndex := 36, descriptorIndex := 37, attributes := #[] }, { accessFlags := 9, nameIndex := 45, descriptorIndex := 46, attributes := #[] }] 49 2 #[] #[])
  fields := #[]
  methods := #[k1m0, k1m1, k1m2]
  instanceTypes := #[]
  staticTypes := #[]
  resolved := Array.replicate 49 none
  statics := none }

def pool2 : Array CpInfo := pool [(1, .class_ 2), (0, u "java/lang/constant/Constable"), (0, .class_ 4), (0, u "java/lang/Object")] 6

/-- java/lang/constant/Constable -/
def k2 : Class := { plain "java/lang/constant/Constable" (some 0) with
  accessFlags := 1537
  interfaces := #[]
  cf := some (fileOf pool2 1 #[] #[] 1537 3 #[] #[])
  fields := #[]
  methods := #[]
  instanceTypes := #[]
  staticTypes := #[]
  resolved := Array.replicate 11 none
  statics := none }

def pool3 : Array CpInfo := pool [(1, .class_ 2), (0, u "java/lang/Comparable"), (0, .class_ 4), (0, u "java/lang/Object")] 7

/-- java/lang/Comparable -/
def k3 : Class := { plain "java/lang/Comparable" (some 0) with
  accessFlags := 1537
  interfaces := #[]
  cf := some (fileOf pool3 1 #[] #[] 1537 3 #[] #[])
  fields := #[]
  methods := #[]
  instanceTypes := #[]
  staticTypes := #[]
  resolved := Array.replicate 12 none
  statics := none }

def pool4 : Array CpInfo := pool [(1, .class_ 2), (0, u "java/io/Serializable"), (0, .class_ 4), (0, u "java/lang/Object")] 2

/-- java/io/Serializable -/
def k4 : Class := { plain "java/io/Serializable" (some 0) with
  accessFlags := 1537
  interfaces := #[]
  cf := some (fileOf pool4 1 #[] #[] 1537 3 #[] #[])
  fields := #[]
  methods := #[]
  instanceTypes := #[]
  staticTypes := #[]
  resolved := Array.replicate 7 none
  statics := none }

def pool5 : Array CpInfo := pool [(2, .class_ 4), (1, u "java/lang/Enum"), (0, u "name"), (0, u "Ljava/lang/String;"), (2, u "ordinal"), (0, u "I"), (1, .class_ 14), (1, u "java/lang/Object"), (4, u "hash"), (86, .class_ 108), (1, u "java/lang/Enum$EnumDesc"), (2, .class_ 112), (0, u "java/lang/constant/Constable"), (0, .class_ 114), (0, u "java/lang/Comparable"), (0, .class_ 116), (0, u "java/io/Serializable")] 87

/-- java/lang/Enum -/
def k5 : Class := { plain "java/lang/Enum" (some 0) with
  accessFlags := 1057
  interfaces := #[2, 3, 4]
  cf := some (fileOf pool5 2 #[.nestMembers #[106]] #[] 1057 12 #[111, 113, 115] #[{ accessFlags := 18, nameIndex := 5, descriptorIndex := 6, attributes := #[] }, { accessFlags := 18, nameIndex := 9, descriptorIndex := 10, attributes := #[] }, { accessFlags := 2, nameIndex := 19, descriptorIndex := 10, attributes := #[] }])
  fields := #[{ name := "name", type := (.object "java/lang/String"), accessFlags := 18, slot := 0, constantValue := 0 }, { name := "ordinal", type := .int, accessFlags := 18, slot := 1, constantValue := 0 }, { name := "hash", type := .int, accessFlags := 2, slot := 2, constantValue := 0 }]
  methods := #[]
  instanceTypes := #[(.object "java/lang/String"), .int, .int]
  staticTypes := #[]
  resolved := Array.replicate 204 none
  statics := none }

def pool6 : Array CpInfo := pool [(1, .class_ 2), (0, u "com/example/lintel/lintel/model/event/EventKind"), (0, .fieldref 1 4), (0, .nameAndType 5 6), (0, u "SALE"), (0, u "Lcom/example/lintel/lintel/model/event/EventKind;"), (0, .fieldref 1 8), (0, .nameAndType 9 6), (0, u "TRANSFER"), (2, u "REFINANCE"), (2, u "FORECLOSURE"), (2, u "DEED_IN_LIEU"), (2, u "FHA_ASSIGNMENT"), (2, u "DEATH"), (2, u "$VALUES"), (0, u "[Lcom/example/lintel/lintel/model/event/EventKind;"), (6, .class_ 37), (1, u "java/lang/Enum"), (8, u "code"), (0, u "Ljava/lang/String;"), (2, u "isSaleOrTransfer"), (0, u "()Z")] 43

def k6c0 : Code := { maxStack := 2, maxLocals := 1, code := prog_16_method_5_code, exceptionTable := #[], attributes := #[] }
def k6m0 : Method := { name := "isSaleOrTransfer", desc := "()Z", sig := { parameters := [], returnType := some .boolean }, accessFlags := 1, code := some k6c0 }
/-- com/example/lintel/lintel/model/event/EventKind -/
def k6 : Class := { plain "com/example/lintel/lintel/model/event/EventKind" (some 5) with
  accessFlags := 16433
  interfaces := #[]
  cf := some (fileOf pool6 1 #[] #[{ accessFlags := 1, nameIndex := 50, descriptorIndex := 51, attributes := #[] }] 16433 35 #[] #[{ accessFlags := 16409, nameIndex := 5, descriptorIndex := 6, attributes := #[] }, { accessFlags := 16409, nameIndex := 9, descriptorIndex := 6, attributes := #[] }, { accessFlags := 16409, nameIndex := 12, descriptorIndex := 6, attributes := #[] }, { accessFlags := 16409, nameIndex := 15, descriptorIndex := 6, attributes := #[] }, { accessFlags := 16409, nameIndex := 18, descriptorIndex := 6, attributes := #[] }, { accessFlags := 16409, nameIndex := 21, descriptorIndex := 6, attributes := #[] }, { accessFlags := 16409, nameIndex := 24, descriptorIndex := 6, attributes := #[] }, { accessFlags := 18, nameIndex := 46, descriptorIndex := 47, attributes := #[] }, { accessFlags := 4122, nameIndex := 27, descriptorIndex := 28, attributes := #[] }])
  fields := #[{ name := "SALE", type := (.object "com/example/lintel/lintel/model/event/EventKind"), accessFlags := 16409, slot := 0, constantValue := 0 }, { name := "TRANSFER", type := (.object "com/example/lintel/lintel/model/event/EventKind"), accessFlags := 16409, slot := 1, constantValue := 0 }, { name := "REFINANCE", type := (.object "com/example/lintel/lintel/model/event/EventKind"), accessFlags := 16409, slot := 2, constantValue := 0 }, { name := "FORECLOSURE", type := (.object "com/example/lintel/lintel/model/event/EventKind"), accessFlags := 16409, slot := 3, constantValue := 0 }, { name := "DEED_IN_LIEU", type := (.object "com/example/lintel/lintel/model/event/EventKind"), accessFlags := 16409, slot := 4, constantValue := 0 }, { name := "FHA_ASSIGNMENT", type := (.object "com/example/lintel/lintel/model/event/EventKind"), accessFlags := 16409, slot := 5, constantValue := 0 }, { name := "DEATH", type := (.object "com/example/lintel/lintel/model/event/EventKind"), accessFlags := 16409, slot := 6, constantValue := 0 }, { name := "code", type := (.object "java/lang/String"), accessFlags := 18, slot := 3, constantValue := 0 }, { name := "$VALUES", type := (.array (.object "com/example/lintel/lintel/model/event/EventKind")), accessFlags := 4122, slot := 7, constantValue := 0 }]
  methods := #[k6m0]
  instanceTypes := #[(.object "java/lang/String"), .int, .int, (.object "java/lang/String")]
  staticTypes := #[(.object "com/example/lintel/lintel/model/event/EventKind"), (.object "com/example/lintel/lintel/model/event/EventKind"), (.object "com/example/lintel/lintel/model/event/EventKind"), (.object "com/example/lintel/lintel/model/event/EventKind"), (.object "com/example/lintel/lintel/model/event/EventKind"), (.object "com/example/lintel/lintel/model/event/EventKind"), (.object "com/example/lintel/lintel/model/event/EventKind"), (.array (.object "com/example/lintel/lintel/model/event/EventKind"))]
  resolved := Array.replicate 95 none
  statics := some 0 }

def pool7 : Array CpInfo := pool [(1, u "java/lang/Cloneable"), (0, .class_ 1), (0, u "java/lang/Object"), (0, .class_ 3)] 3

/-- java/lang/Cloneable -/
def k7 : Class := { plain "java/lang/Cloneable" (some 0) with
  accessFlags := 1537
  interfaces := #[]
  cf := some (fileOf pool7 2 #[] #[] 1537 4 #[] #[])
  fields := #[]
  methods := #[]
  instanceTypes := #[]
  staticTypes := #[]
  resolved := Array.replicate 8 none
  statics := none }

/-- the primitive byte -/
def k8 : Class := { plain "byte" none with kind := .primitive 'B', accessFlags := 0x411 }
/-- [B -/
def k9 : Class := { plain "[B" (some 0) with kind := .array 8 .byte, interfaces := #[7, 4], accessFlags := 1041 }

/-- the primitive int -/
def k10 : Class := { plain "int" none with kind := .primitive 'I', accessFlags := 0x411 }
/-- [I -/
def k11 : Class := { plain "[I" (some 0) with kind := .array 10 .int, interfaces := #[7, 4], accessFlags := 1041 }

def heap : Heap := #[{ cls := 6, slots := #[.ref 1, .ref 2, .ref 3, .ref 4, .ref 5, .ref 6, .ref 7, .null], vm := .statics 6 },
  { cls := 6, slots := #[.null, .int 0, .int 0, .null], vm := .none },
  { cls := 6, slots := #[.null, .int 1, .int 0, .null], vm := .none },
  { cls := 6, slots := #[.null, .int 2, .int 0, .null], vm := .none },
  { cls := 6, slots := #[.null, .int 3, .int 0, .null], vm := .none },
  { cls := 6, slots := #[.null, .int 4, .int 0, .null], vm := .none },
  { cls := 6, slots := #[.null, .int 5, .int 0, .null], vm := .none },
  { cls := 6, slots := #[.null, .int 6, .int 0, .null], vm := .none }]
def classes : Array Class := #[k0, k1, k2, k3, k4, k5, k6, k7, k8, k9, k10, k11]
def interned : List (Array UInt16 × Addr) := []
def slotsUsed : Nat := 36
def theMethod : MethodId := ⟨1, 2⟩
def args0 : Array Value := #[.int 5]
def aboutOver (below : List Frame) : State where
  vm := { classes := classes, interned := interned.toArray }
  heap := heap
  slotsUsed := slotsUsed
  threads := #[{ frames := .invoking theMethod args0 :: below }]
def below0 : List Frame := [.native { method := ⟨0, 0⟩, args := #[] }]
def about1 : State := aboutOver below0
def p0 : Program := .bare "" "" ""
def e0 : Env := launch0.env 0 0 0
theorem w_frames : about1.frames = Frame.invoking theMethod args0 :: below0 := rfl
set_option maxRecDepth 65536 in
theorem w_args : argsFit about1.vm theMethod args0 = true := by decide +kernel
set_option maxRecDepth 65536 in
theorem w_heap : heapFits about1 = true := by decide +kernel
set_option maxRecDepth 65536 in
theorem w_runnable : about1.curStatus? = some .runnable := by decide +kernel
set_option maxRecDepth 65536 in
theorem w_alone : about1.alone = true := by decide +kernel
set_option maxRecDepth 65536 in
theorem w_named : about1.methodNamed? x = some theMethod := by decide +kernel
set_option maxRecDepth 65536 in
theorem w_hears : about1.hears theMethod below0 = true := by decide +kernel
set_option maxRecDepth 65536 in
theorem w_ripe : about1.ripe theMethod args0 below0 = true := by decide +kernel
theorem w_running : about1.status = .running := rfl
set_option maxRecDepth 65536 in
theorem w_room : about1.hasRoom e0.platform room_1 = true :=
  launch0.hasRoom_least _ room_1 (by decide +kernel) (by decide +kernel) (by decide +kernel) (by decide +kernel) (by decide +kernel) (by decide +kernel)
theorem allAtoms_all (ts : List Jvm.Cond) (a : Array Jvm.Value) (st : Jvm.State) : (allAtoms ts).before a st = ts.all (fun c => c.before a st) := by
  induction ts with
  | nil => rfl
  | cons c t ih =>
    show (Jvm.Cond.and c (allAtoms t)).before a st = _
    rw [Jvm.Cond.before_and, ih, List.all_cons]
def words1 : List Jvm.Cond := Jvm.Cond.code x code maxLocals ret :: tables_1
/-- a 'code' word, met by the world's own term for the bytes: nothing is compared byte by byte -/
theorem code_word {y : MethodName} {bytes : ByteArray} {mx : Nat} {rt : Option FieldType} {a : Array Value} {s : State} {m : MethodId} {meth : Method} {c : Code} (h1 : s.methodNamed? y = some m) (h2 : s.vm.method? m = some meth) (h3 : meth.code = some c) (h4 : c.code = bytes)
    (h5 : (c.maxLocals == mx && c.exceptionTable.isEmpty && decide (c.maxStack ≤ mostOperands) && decide (meth.sig.returnType = rt) && !meth.locks && decide (parseMethodDescriptor y.desc = some meth.sig)) = true) : (Jvm.Cond.code y bytes mx rt).before a s = true := by
  simp only [Bool.and_eq_true, beq_iff_eq, Bool.not_eq_true', decide_eq_true_eq] at h5
  obtain ⟨⟨⟨⟨⟨g1, g2⟩, g3⟩, g4⟩, g5⟩, g6⟩ := h5
  simp [Cond.before, Cond.holds, Cond.value, h1, h2, h3, h4, g1, g2, g3, g4, g5, g6]
def isCode : Jvm.Cond → Bool
  | .code _ _ _ _ => true
  | _ => false
theorem all_split {L : List Jvm.Cond} {P : Jvm.Cond → Bool} (h1 : L.all (fun c => isCode c || P c) = true) (h2 : ∀ c ∈ L.filter isCode, P c = true) : L.all P = true := by
  refine List.all_eq_true.mpr fun c hc => ?_
  have h := List.all_eq_true.mp h1 c hc
  rcases Bool.eq_false_or_eq_true (isCode c) with hi | hi
  · exact h2 c (List.mem_filter.mpr ⟨hc, hi⟩)
  · simpa [hi] using h
set_option maxRecDepth 65536 in
theorem w_c0 : (Jvm.Cond.code x code maxLocals ret).before args0 about1 = true := code_word (m := ⟨1, 2⟩) (meth := k1m2) (c := k1c2) (by decide +kernel) rfl rfl rfl (by decide +kernel)
set_option maxRecDepth 65536 in
theorem w_c1 : (Jvm.Cond.code ({ cls := "com/example/lintel/lintel/model/event/EventKindIsSaleOrTransferPinLaw", name := "pick", desc := "(I)Lcom/example/lintel/lintel/model/event/EventKind;" } : Jvm.MethodName) method_2_code (1 : Nat) (Option.some (Jvm.ClassFile.FieldType.object "com/example/lintel/lintel/model/event/EventKind"))).before args0 about1 = true := code_word (m := ⟨1, 1⟩) (meth := k1m1) (c := k1c1) (by decide +kernel) rfl rfl rfl (by decide +kernel)
set_option maxRecDepth 65536 in
theorem w_c2 : (Jvm.Cond.code ({ cls := "com/example/lintel/lintel/model/event/EventKind", name := "isSaleOrTransfer", desc := "()Z" } : Jvm.MethodName) prog_16_method_5_code (1 : Nat) (Option.some Jvm.ClassFile.FieldType.boolean)).before args0 about1 = true := code_word (m := ⟨6, 0⟩) (meth := k6m0) (c := k6c0) (by decide +kernel) rfl rfl rfl (by decide +kernel)
def codes1 : List Jvm.Cond := [Jvm.Cond.code x code maxLocals ret, Jvm.Cond.code ({ cls := "com/example/lintel/lintel/model/event/EventKindIsSaleOrTransferPinLaw", name := "pick", desc := "(I)Lcom/example/lintel/lintel/model/event/EventKind;" } : Jvm.MethodName) method_2_code (1 : Nat) (Option.some (Jvm.ClassFile.FieldType.object "com/example/lintel/lintel/model/event/EventKind")), Jvm.Cond.code ({ cls := "com/example/lintel/lintel/model/event/EventKind", name := "isSaleOrTransfer", desc := "()Z" } : Jvm.MethodName) prog_16_method_5_code (1 : Nat) (Option.some Jvm.ClassFile.FieldType.boolean)]
set_option maxRecDepth 65536 in
theorem codes_eq : words1.filter isCode = codes1 := rfl
theorem w_codes : ∀ c ∈ words1.filter isCode, c.before args0 about1 = true := by
  rw [codes_eq]
  intro c hc
  simp only [codes1, List.mem_cons, List.not_mem_nil, or_false] at hc
  rcases hc with rfl | rfl | rfl
  · exact w_c0
  · exact w_c1
  · exact w_c2
set_option maxRecDepth 65536 in
theorem w_t1 : (words1.take 24).all (fun c => isCode c || c.before args0 about1) = true := by decide +kernel
set_option maxRecDepth 65536 in
theorem w_t2 : (words1.drop 24).all (fun c => isCode c || c.before args0 about1) = true := by decide +kernel
theorem w_tables : (allAtoms (Jvm.Cond.code x code maxLocals ret :: tables_1)).before args0 about1 = true := by
  rw [allAtoms_all]
  show words1.all (fun c => c.before args0 about1) = true
  refine all_split ?_ w_codes
  rw [← List.take_append_drop 24 words1, List.all_append, w_t1, w_t2]
  rfl
set_option maxRecDepth 65536 in
theorem w_case : (Jvm.Cond.and given_1 narrow_1).before args0 about1 = true := by decide +kernel
theorem w_applies : (headSpec (Jvm.Cond.code x code maxLocals ret :: tables_1) room_1).applies x e0.platform about1 = true :=
  (Spec.applies_iff w_frames).mpr ⟨w_running, w_runnable, w_alone, w_named, w_hears, w_ripe, w_room, w_tables⟩
theorem atStart : AtStart classFile x code maxLocals ret World_1 tables_1 room_1 Calls_1 rest_1 Pre_1 launch0 p0 e0 about1 theMethod args0 below0 :=
  ⟨lists_1, trivial, launch0.admits_env _ _ _, launch0.least_env, fairChoices_fair.cas, fairChoices_fair.clock, w_frames, w_args, w_heap, w_applies, trivial, trivial, w_case⟩
end start1
theorem witness_1 : WitnessClaimed_1 := ⟨start1.p0, start1.e0, start1.about1, start1.theMethod, start1.args0, start1.below0, start1.atStart⟩
end Jvm.Pilot.@@N@@
